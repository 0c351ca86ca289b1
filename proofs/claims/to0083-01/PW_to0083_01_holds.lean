import PyProof.Rows.All
import Wide.All
import OpenK.AllK
import Wide.FinOn
import PySem.Challenge.RW_to0083_01
open PySem PySem.W PyProof.Rows
set_option Elab.async false
set_option linter.all false
set_option maxRecDepth 100000
namespace Mine
noncomputable def st0 : Stmt := by
  refine (?f : (x : Stmt) → PySem.Challenge.pw_to0083_01.main.body[0]? = some x → Stmt) _ rfl
  intro x _; exact x
noncomputable def st1 : Stmt := by
  refine (?f : (x : Stmt) → PySem.Challenge.pw_to0083_01.main.body[1]? = some x → Stmt) _ rfl
  intro x _; exact x
noncomputable def st2 : Stmt := by
  refine (?f : (x : Stmt) → PySem.Challenge.pw_to0083_01.main.body[2]? = some x → Stmt) _ rfl
  intro x _; exact x
noncomputable def st3 : Stmt := by
  refine (?f : (x : Stmt) → PySem.Challenge.pw_to0083_01.main.body[3]? = some x → Stmt) _ rfl
  intro x _; exact x
noncomputable def st4 : Stmt := by
  refine (?f : (x : Stmt) → PySem.Challenge.pw_to0083_01.main.body[4]? = some x → Stmt) _ rfl
  intro x _; exact x
noncomputable def st5 : Stmt := by
  refine (?f : (x : Stmt) → PySem.Challenge.pw_to0083_01.main.body[5]? = some x → Stmt) _ rfl
  intro x _; exact x
noncomputable def st6 : Stmt := by
  refine (?f : (x : Stmt) → PySem.Challenge.pw_to0083_01.main.body[6]? = some x → Stmt) _ rfl
  intro x _; exact x
noncomputable def st7 : Stmt := by
  refine (?f : (x : Stmt) → PySem.Challenge.pw_to0083_01.main.body[7]? = some x → Stmt) _ rfl
  intro x _; exact x
noncomputable def st8 : Stmt := by
  refine (?f : (x : Stmt) → PySem.Challenge.pw_to0083_01.main.body[8]? = some x → Stmt) _ rfl
  intro x _; exact x
noncomputable def st9 : Stmt := by
  refine (?f : (x : Stmt) → PySem.Challenge.pw_to0083_01.main.body[9]? = some x → Stmt) _ rfl
  intro x _; exact x
noncomputable def st10 : Stmt := by
  refine (?f : (x : Stmt) → PySem.Challenge.pw_to0083_01.main.body[10]? = some x → Stmt) _ rfl
  intro x _; exact x
noncomputable def st11 : Stmt := by
  refine (?f : (x : Stmt) → PySem.Challenge.pw_to0083_01.main.body[11]? = some x → Stmt) _ rfl
  intro x _; exact x
noncomputable def st12 : Stmt := by
  refine (?f : (x : Stmt) → PySem.Challenge.pw_to0083_01.main.body[12]? = some x → Stmt) _ rfl
  intro x _; exact x
noncomputable def st13 : Stmt := by
  refine (?f : (x : Stmt) → PySem.Challenge.pw_to0083_01.main.body[13]? = some x → Stmt) _ rfl
  intro x _; exact x
noncomputable def st14 : Stmt := by
  refine (?f : (x : Stmt) → PySem.Challenge.pw_to0083_01.main.body[14]? = some x → Stmt) _ rfl
  intro x _; exact x
noncomputable def st15 : Stmt := by
  refine (?f : (x : Stmt) → PySem.Challenge.pw_to0083_01.main.body[15]? = some x → Stmt) _ rfl
  intro x _; exact x
noncomputable def st16 : Stmt := by
  refine (?f : (x : Stmt) → PySem.Challenge.pw_to0083_01.main.body[16]? = some x → Stmt) _ rfl
  intro x _; exact x
noncomputable def st17 : Stmt := by
  refine (?f : (x : Stmt) → PySem.Challenge.pw_to0083_01.main.body[17]? = some x → Stmt) _ rfl
  intro x _; exact x
noncomputable def st18 : Stmt := by
  refine (?f : (x : Stmt) → PySem.Challenge.pw_to0083_01.main.body[18]? = some x → Stmt) _ rfl
  intro x _; exact x
noncomputable def st19 : Stmt := by
  refine (?f : (x : Stmt) → PySem.Challenge.pw_to0083_01.main.body[19]? = some x → Stmt) _ rfl
  intro x _; exact x
noncomputable def st20 : Stmt := by
  refine (?f : (x : Stmt) → PySem.Challenge.pw_to0083_01.main.body[20]? = some x → Stmt) _ rfl
  intro x _; exact x
noncomputable def st21 : Stmt := by
  refine (?f : (x : Stmt) → PySem.Challenge.pw_to0083_01.main.body[21]? = some x → Stmt) _ rfl
  intro x _; exact x
noncomputable def st22 : Stmt := by
  refine (?f : (x : Stmt) → PySem.Challenge.pw_to0083_01.main.body[22]? = some x → Stmt) _ rfl
  intro x _; exact x
noncomputable def st23 : Stmt := by
  refine (?f : (x : Stmt) → PySem.Challenge.pw_to0083_01.main.body[23]? = some x → Stmt) _ rfl
  intro x _; exact x
noncomputable def st24 : Stmt := by
  refine (?f : (x : Stmt) → PySem.Challenge.pw_to0083_01.main.body[24]? = some x → Stmt) _ rfl
  intro x _; exact x
noncomputable def st25 : Stmt := by
  refine (?f : (x : Stmt) → PySem.Challenge.pw_to0083_01.main.body[25]? = some x → Stmt) _ rfl
  intro x _; exact x
noncomputable def st26 : Stmt := by
  refine (?f : (x : Stmt) → PySem.Challenge.pw_to0083_01.main.body[26]? = some x → Stmt) _ rfl
  intro x _; exact x
noncomputable def st27 : Stmt := by
  refine (?f : (x : Stmt) → PySem.Challenge.pw_to0083_01.main.body[27]? = some x → Stmt) _ rfl
  intro x _; exact x
noncomputable def st28 : Stmt := by
  refine (?f : (x : Stmt) → PySem.Challenge.pw_to0083_01.main.body[28]? = some x → Stmt) _ rfl
  intro x _; exact x
noncomputable def st29 : Stmt := by
  refine (?f : (x : Stmt) → PySem.Challenge.pw_to0083_01.main.body[29]? = some x → Stmt) _ rfl
  intro x _; exact x
noncomputable def st30 : Stmt := by
  refine (?f : (x : Stmt) → PySem.Challenge.pw_to0083_01.main.body[30]? = some x → Stmt) _ rfl
  intro x _; exact x
noncomputable def stScope : Scope := by
  refine (?f : (x : Scope) → some PySem.Challenge.pw_to0083_01.main.scope = some x → Scope) _ (by unfold PySem.Challenge.pw_to0083_01; dsimp only)
  intro x _; exact x
noncomputable def stFile : Str := by
  refine (?f : (x : Str) → some PySem.Challenge.pw_to0083_01.main.file = some x → Str) _ (by unfold PySem.Challenge.pw_to0083_01; dsimp only)
  intro x _; exact x
noncomputable def stGiven : Given := by
  refine (?f : (x : Given) → some PySem.Challenge.pw_to0083_01.given = some x → Given) _ (by unfold PySem.Challenge.pw_to0083_01; dsimp only)
  intro x _; exact x
noncomputable def pw2 : Program := { main := { body := [st0, st1, st2, st3, st4, st5, st6, st7, st8, st9, st10, st11, st12, st13, st14, st15, st16, st17, st18, st19, st20, st21, st22, st23, st24, st25, st26, st27, st28, st29, st30], scope := stScope, futureAnnotations := false, file := stFile }, modules := [], parses := [], absent := [], given := stGiven }
noncomputable def rw2 : OpenLaw := { prog := pw2, name := Str.ofString "law", about := [Str.ofString "_divmod_pos"], foot := 6, most := some 63, bound := none, writes := false }
theorem rwEq : rw2 = PySem.Challenge.rw_to0083_01 := by kernel_rfl
theorem viaRow (H : rw2.row.wellSaid = true → rw2.row.Holds) : rw2.Holds := by
  o_law
  exact H (by assumption)
theorem lawOf : (PySem.Challenge.rw_to0083_01.row.wellSaid = true → PySem.Challenge.rw_to0083_01.row.Holds) → PySem.Challenge.rw_to0083_01.Holds := rwEq ▸ viaRow
end Mine
noncomputable def Mine.viewP : Program := { PySem.Challenge.pw_to0083_01 with main := { PySem.Challenge.pw_to0083_01.main with body := [0, 1, 3, 4, 5, 6, 7, 8, 10, 11, 12, 13, 15, 16, 17, 18, 19, 21, 22, 23, 25, 26, 27, 28, 29, 30].filterMap fun i => PySem.Challenge.pw_to0083_01.main.body[i]? } }
local macro_rules | `(tactic| o_head $H) => do
  let (hl, hw, hc) := (Lean.mkIdent `hl, Lean.mkIdent `hw, Lean.mkIdent `hc)
  `(tactic| (refine holds_open (q := Mine.viewP) (loose := [Str.ofString "_name_disallowed_re", Str.ofString "_value_disallowed_re"]) (Xt := fun s => xlAt Mine.viewP [] s && recOk [] s) (XP := XL Mine.viewP []) (Yf := Hook.obs $H) (Ya := Hook.val $H) (YP := Hook.says $H) (N := 3220) ?$hl (Hook.of $H) (Hook.keeps $H) (fun s e => xl_of s (Bool.and_eq_true_iff.mp e).1) XL.keeps (by rfl) (by rfl) (by rfl) (fun s e => recFacts_of (Bool.and_eq_true_iff.mp e).2) (by rfl) (by first | assumption | decide +kernel) (by decide +kernel) ⟨rfl, rfl, rfl, rfl, rfl, by decide +kernel⟩ ?$hw ?$hc; (case hl => intro w; kernel_rfl)))
local macro_rules | `(tactic| o_law) => `(tactic| (refine Mine.lawOf fun said => ?_))
set_option maxRecDepth 100000 in
set_option maxHeartbeats 0 in
open_top hd for PySem.Challenge.rw_to0083_01
open PySem PySem.W PyProof.Rows PySem.Calls PySem.Spec
set_option maxRecDepth 100000
namespace Mine
theorem gen_cons {M : Model} {A : Around} {E : Value → Shared → Prop} {st : Stmt} {rest : List Stmt} {env : Env} {Q : Flow → Shared → Prop} {h : Heap} {g : Array GenState} {d : Drawn} {X : Nat} {o : OsState}
    (hh : ∀ tk, wpAny M A (exec st env) (fun f s' => match f with | .next => wpAny M A (execs rest env) Q E s' | f => Q f s') E ⟨h, g, d, tk, o⟩) : wpAny M A (execs (st :: rest) env) Q E ⟨h, g, d, X, o⟩ := wpAny_execs_cons (hh X)
theorem foldQ {M : Model} {A : Around} {α : Type} {t : Sem α} {Q : α → Shared → Prop} {E : Value → Shared → Prop} {s : Shared} (hh : let qk := Q; wpAny M A t qk E s) : wpAny M A t Q E s := hh
theorem cons_F {M : Model} {A : Around} {E : Value → Shared → Prop} {st : Stmt} {rest : List Stmt} {env : Env} {Q : Flow → Shared → Prop} {s : Shared}
    (hh : let qk : Flow → Shared → Prop := (fun f s' => match f with | .next => wpAny M A (execs rest env) Q E s' | f => Q f s'); wpAny M A (exec st env) qk E s) : wpAny M A (execs (st :: rest) env) Q E s := wpAny_execs_cons hh
theorem gen_consF {M : Model} {A : Around} {E : Value → Shared → Prop} {st : Stmt} {rest : List Stmt} {env : Env} {Q : Flow → Shared → Prop} {h : Heap} {g : Array GenState} {d : Drawn} {X : Nat} {o : OsState}
    (hh : ∀ tk, let qk : Flow → Shared → Prop := (fun f s' => match f with | .next => wpAny M A (execs rest env) Q E s' | f => Q f s'); wpAny M A (exec st env) qk E ⟨h, g, d, tk, o⟩) : wpAny M A (execs (st :: rest) env) Q E ⟨h, g, d, X, o⟩ := wpAny_execs_cons (hh X)
theorem if_F {M : Model} {A : Around} {E : Value → Shared → Prop} {env : Env} {test : Expr} {body orelse : List Stmt} {pos : Pos} {Q : Flow → Shared → Prop} {s : Shared}
    (hh : let qi : Bool → Shared → Prop := (fun b s₂ => if b then wpAny M A (execs body env) Q E s₂ else wpAny M A (execs orelse env) Q E s₂); wpAny M A (isTrue test env (eval test env)) qi E s) : wpAny M A (exec (.If test body orelse pos) env) Q E s := wpAny_If hh
theorem foldE {M : Model} {A : Around} {α : Type} {t : Sem α} {Q : α → Shared → Prop} {E : Value → Shared → Prop} {s : Shared} (hh : let ek := E; wpAny M A t Q ek s) : wpAny M A t Q E s := hh
theorem roomL {dp a b R : Nat} (h : dp + b < R) (e : Nat.ble (1 + a) b = true) : dp + 1 + a < R := Nat.lt_of_le_of_lt (Nat.add_assoc dp 1 a ▸ Nat.add_le_add_left (Nat.le_of_ble_eq_true e) dp) h
theorem roomZ {dp k R : Nat} (h : dp + k < R) : dp < R := Nat.lt_of_le_of_lt (Nat.le_add_right _ _) h
theorem unitL {un a b R : Nat} (h : un + b < R) (e : Nat.ble (3 + a) b = true) : un + 3 + a < R := Nat.lt_of_le_of_lt (Nat.add_assoc un 3 a ▸ Nat.add_le_add_left (Nat.le_of_ble_eq_true e) un) h
theorem omA {n b : Nat} (h : n ≤ 100) (e : Nat.ble 100 b = true) : n ≤ b := Nat.le_trans h (Nat.le_of_ble_eq_true e)
theorem omB {n b : Nat} (h : n ≤ 7) (e : Nat.ble 7 b = true) : n ≤ b := Nat.le_trans h (Nat.le_of_ble_eq_true e)
theorem omC (n k : Nat) : -(n : Int) ≤ (k : Int) := by omega
theorem omD {a b : Nat} (h : a < b) : (a : Int) < (b : Int) := Int.ofNat_lt.mpr h
theorem omE (k : Nat) : (-9223372036854775808 : Int) < (k : Int) := by omega
theorem omF {a : Nat} {B : Int} (h : a ≤ 100) (e : decide ((100 : Int) < B) = true) : (a : Int) < B := Int.lt_of_le_of_lt (Int.ofNat_le.mpr h) (of_decide_eq_true e)
theorem omG {a : Nat} {B : Int} (h : a ≤ 100) (e : decide ((100 : Int) ≤ B) = true) : (a : Int) ≤ B := Int.le_trans (Int.ofNat_le.mpr h) (of_decide_eq_true e)
theorem omH (n : Nat) : (0 : Int) ≤ (n : Int) := Int.natCast_nonneg n
theorem omI {a b : Nat} (h : b ≤ a) : ¬ a < b := Nat.not_lt.mpr h
theorem wDec {j n : Nat} (h : j ≤ n) : n + 1 - (j + 1) < n + 1 - j := Nat.sub_lt_sub_left (Nat.lt_succ_of_le h) (Nat.lt_succ_self j)
theorem wDec2 {k n : Nat} (h : k < n) : n - (k + 1) < n - k := Nat.sub_lt_sub_left h (Nat.lt_succ_self k)
theorem kLt {k u v n : Nat} (e : n = u + v + 1) (h : k ≤ u) : k < n := e ▸ Nat.lt_succ_of_le (Nat.le_trans h (Nat.le_add_right u v))
theorem noZero {n v j : Nat} (h : n = v + 1 - j) (hj : j ≤ v) (e : (n : Int) = 0) : False := by omega
theorem subLe {n v j : Nat} (h : n = v + 1 - j) (hv : v + 1 ≤ 100) : n ≤ 100 := by omega
theorem gen_nil {M : Model} {A : Around} {E : Value → Shared → Prop} {env : Env} {Q : Flow → Shared → Prop} {h : Heap} {g : Array GenState} {d : Drawn} {X : Nat} {o : OsState}
    (hh : ∀ tk, Q .next ⟨h, g, d, tk, o⟩) : wpAny M A (execs [] env) Q E ⟨h, g, d, X, o⟩ := wpAny_execs_nil (hh X)
theorem fr_eq {g h : Heap} {L : Addr} {m m' : Str → Option Value} (F : Fr g L h m) (e : ∀ y, m y = m' y) : Fr g L h m' := by
  rwa [show m = m' from funext e] at F
theorem foldV {β : Type} (v : β) {P : Prop} (h : let x := v; P) : P := h
theorem foldM {g h : Heap} {L : Addr} {m : Str → Option Value} {P : Prop} (F : Fr g L h m) (k : let mf := m; Fr g L h mf → P) : P := k F
theorem ab {m : Str → Option Value} {k : Str} {v : Option Value} (e : m k = v) {r : Option Value} {y : Str} (h : m y = r) : m y = if y = k then v else r := by
  by_cases hy : y = k
  · rw [if_pos hy, hy, e]
  · rw [if_neg hy, h]
theorem abS {y k : Str} {v a r : Option Value} (h : a = r) : (if y = k then v else a) = (if y = k then v else r) := by rw [h]
theorem lk1 (y a : Str) (v : Value) (r : List (Str × Value)) : List.lookup y ((a, v) :: r) = if y = a then some v else List.lookup y r := by
  rw [List.lookup_cons]
  by_cases h : y = a
  · rw [if_pos h, h, beq_self_eq_true]
  · rw [if_neg h, beq_eq_false_iff_ne.mpr h]
theorem lk0 (y : Str) : List.lookup y ([] : List (Str × Value)) = none := rfl
theorem news_sub {g h : Heap} {L : Addr} {l l' : List (Addr × Obj)} (N : News g L h l) (hs : ∀ p ∈ l', p ∈ l) : News g L h l' := fun p hp => N p (hs p hp)
theorem news_out {g h : Heap} {L : Addr} {a b : List (Addr × Obj)} {x : Addr × Obj} (N : News g L h (a ++ x :: b)) : News g L h (x :: (a ++ b)) := fun p hp => by
  refine N p ?_
  rcases List.mem_cons.mp hp with h | h
  · exact List.mem_append.mpr (.inr (h ▸ .head _))
  · rcases List.mem_append.mp h with h | h
    · exact List.mem_append.mpr (.inl h)
    · exact List.mem_append.mpr (.inr (.tail _ h))
theorem news_in {g h : Heap} {L : Addr} {a b : List (Addr × Obj)} {x : Addr × Obj} (N : News g L h (x :: (a ++ b))) : News g L h (a ++ x :: b) := fun p hp => by
  refine N p ?_
  rcases List.mem_append.mp hp with h | h
  · exact .tail _ (List.mem_append.mpr (.inl h))
  · rcases List.mem_cons.mp h with h | h
    · exact h ▸ .head _
    · exact .tail _ (List.mem_append.mpr (.inr h))
/-- a post that the walk leaves alone -/
noncomputable def Shut (P : Flow → Shared → Prop) (f : Flow) (s : Shared) : Prop := P f s
section
variable {prog : Program} {w : World} {A : Around} {E : Value → Shared → Prop} {s : Shared} {env : Env} {h₀ : Heap} {x : Str} {body : List Stmt} {Q : Flow → Shared → Prop}
theorem shut {M : Model} {t : Sem Flow} {P : Flow → Shared → Prop} (h : wpAny M A t (Shut P) E s) : wpAny M A t P E s := h
theorem shutF {M : Model} {t : Sem Flow} {P : Flow → Shared → Prop} (h : let ql := Shut P; wpAny M A t ql E s) : wpAny M A t P E s := h
theorem append_H {l : Addr} {vs : List Value} {n : Nat} {v : Value} {m : Str → Option Value} {rest : List (Addr × Obj)} {L : Addr} {Q : Value → Shared → Prop} (F : Fr h₀ L s.heap m) (N : News h₀ L s.heap ((l, W.listOf vs.toArray n) :: rest)) (hne : ∀ p ∈ rest, p.1 ≠ l) (hsz : vs.length ≤ 10000)
    (h : ∀ h', Fr h₀ L h' m → News h₀ L h' ((l, W.listOf (vs ++ [v]).toArray (n + 1)) :: rest) → Q .none { s with heap := h' }) : wpAny (model prog w) A (call (.builtin "list.append") [.ref l, v]) Q E s := by
  refine append_K F N (Upd.head hne) (fun h' F' N' => h h' F' ?_) (by rw [List.size_toArray, sizeLine_eq]; omega)
  have e : vs.toArray.push v = (vs ++ [v]).toArray := by simp
  rwa [e] at N'
theorem len_one {x : Str} {t : Tok} {Q : Value → Shared → Prop} (hx : x.length = 1) (h : Q (.int 1 (s.toks + 1)) { s with toks := s.toks + 1 + 1 }) : wpAny (model prog w) A (call (.builtin "len") [.str x t]) Q E s := by
  refine SBL.len (by omega) ?_
  have e : ((x.length : Int)) = 1 := by omega
  rw [e]
  exact h
theorem truthy_one {x : Str} {t : Tok} {Q : Bool → Shared → Prop} (hx : x.length = 1) (h : Q true { s with toks := s.toks + 1 + 1 }) : wpAny (model prog w) A (PySem.truthy (.str x t)) Q E s := by
  refine SBL.truthy (by omega) ?_
  have e : ((x.length : Int)) = 1 := by omega
  rw [e]
  exact h
theorem list_range_one {r L : Addr} {a b c : Int} {t u v : Tok} {m : Str → Option Value} {news : List (Addr × Obj)} {Q : Value → Shared → Prop} (hh : A.handled = none) (F : Fr h₀ L s.heap m) (N : News h₀ L s.heap news) (hr : IsRange s.heap r a b c t u v)
    (hsmall : Builtin.Range.small a b c = true) (hn : Builtin.Range.rangeSize a b c = ((1 : Nat) : Int))
    (h : ∀ (l : Addr) (q : Tok) (n : Nat) (h' : Heap) (tk : Nat), Fr h₀ L h' m → News h₀ L h' ((l, W.listOf #[.int a q] n) :: news) → (∀ p ∈ news, p.1 < l) → Q (.ref l) { s with heap := h', toks := tk }) :
    wpAny (model prog w) A (call (.type "list") [.ref r]) Q E s := by
  refine call_list_range hh hr hsmall hn (by decide) fun h' tk acc' c' hk hS' hacc => ?_
  have hLs : L < s.heap.objs.size := F.ns.lt
  have e1 : ∃ q, acc' = #[.int a q] := by
    obtain ⟨hsz, hv⟩ := hacc
    obtain ⟨t', ht⟩ := hv 0 (acc'[0]'(by omega)) (by simp)
    refine ⟨t', ?_⟩
    apply Array.ext
    · simpa using hsz
    · intro i h1 h2
      have : i = 0 := by omega
      subst this
      rw [ht]; simp
  obtain ⟨q, rfl⟩ := e1
  refine h s.heap.objs.size q c' h' tk (F.keeps hk) ?_ fun p hp => Heap.lt_size (N p hp).1
  intro p hp
  rcases List.mem_cons.mp hp with rfl | hp
  · refine ⟨hS', Nat.ne_of_gt hLs, ?_⟩
    cases e : h₀.get? s.heap.objs.size with
    | none => rfl
    | some o => exact absurd (Heap.lt_size (F.keep _ _ e)) (Nat.lt_irrefl _)
  · exact ⟨hk _ _ (N p hp).1, (N p hp).2⟩
theorem execs_cutW {M : Model} {Γ : PySem.Ctx} (hΓ : Γ.In A) (P : Shared → Prop) (l2 : List Stmt) (h2 : ∀ s', P s' → wpAny M A (execs l2 env) Q E s') : ∀ (l1 : List Stmt) (p : Pos) (s : Shared),
    Sem.wp M Γ (execs l1 env) (fun f _ s' => f = .next ∧ P s') (fun e _ s' => E e s') p s → Sem.wp M Γ (execs (l1 ++ l2) env) (fun f _ s' => Q f s') (fun e _ s' => E e s') p s
  | [], p, s, h => h2 s (show Flow.next = .next ∧ P s from h).2 Γ p hΓ
  | st :: r, p, s, h => by
    rw [List.cons_append, execs_cons, Sem.wp_bind']
    rw [execs_cons, Sem.wp_bind'] at h
    refine Sem.wp_mono M Γ _ (fun f p' s' h' => ?_) (fun _ _ _ h' => h') _ _ h
    cases f with
    | next => exact execs_cutW hΓ P l2 h2 r p' s' h'
    | brk => exact absurd (show Flow.brk = .next ∧ P s' from h').1 (by simp)
    | cont => exact absurd (show Flow.cont = .next ∧ P s' from h').1 (by simp)
    | ret v => exact absurd (show Flow.ret v = .next ∧ P s' from h').1 (by simp)
theorem execs_cut {M : Model} (P : Shared → Prop) {l1 l2 : List Stmt} (h1 : wpAny M A (execs l1 env) (Shut fun f s' => f = .next ∧ P s') E s) (h2 : ∀ s', P s' → wpAny M A (execs l2 env) Q E s') : wpAny M A (execs (l1 ++ l2) env) Q E s :=
  fun Γ p hΓ => execs_cutW hΓ P l2 h2 l1 p s (h1 Γ p hΓ)
theorem execs_cut1 {M : Model} (P : Shared → Prop) {a : Stmt} {l2 : List Stmt} (h1 : wpAny M A (execs [a] env) (Shut fun f s' => f = .next ∧ P s') E s) (h2 : ∀ s', P s' → wpAny M A (execs l2 env) Q E s') : wpAny M A (execs (a :: l2) env) Q E s := execs_cut (l1 := [a]) P h1 h2
theorem execs_cut2 {M : Model} (P : Shared → Prop) {a b : Stmt} {l2 : List Stmt} (h1 : wpAny M A (execs [a, b] env) (Shut fun f s' => f = .next ∧ P s') E s) (h2 : ∀ s', P s' → wpAny M A (execs l2 env) Q E s') : wpAny M A (execs (a :: b :: l2) env) Q E s := execs_cut (l1 := [a, b]) P h1 h2
theorem While_H {L : Addr} {test : Expr} {body : List Stmt} {pos : Pos} {m : Str → Option Value} {news : List (Addr × Obj)} (J : Nat → (Str → Option Value) → List (Addr × Obj) → Prop) {n₀ : Nat}
    (F : Fr h₀ L s.heap m) (N : News h₀ L s.heap news) (hJ : J n₀ m news)
    (turn : ∀ n m₁ news₁ h₁ tk₁, Fr h₀ L h₁ m₁ → News h₀ L h₁ news₁ → J n m₁ news₁ →
      wpAny (model prog w) A (isTrue test env (eval test env)) (fun b s₂ =>
        if b = true then wpAny (model prog w) A (execs body env) (Shut (WhileStep h₀ L s J n)) E s₂ else Shut Q .next s₂) E { s with heap := h₁, toks := tk₁ })
    (hE : PassesOwn (model prog w) A env E) :
    wpAny (model prog w) A (exec (.While test body [] pos) env) Q E s := While_inv J F N hJ turn hE
theorem while_end {L : Addr} {J : Nat → (Str → Option Value) → List (Addr × Obj) → Prop} {m₂ : Str → Option Value} {news₂ : List (Addr × Obj)} {h' : Heap} {n n' tk : Nat} (F : Fr h₀ L h' m₂) (N : News h₀ L h' news₂) (hn : n' < n) (hJ : J n' m₂ news₂) : Shut (WhileStep h₀ L s J n) .next { s with heap := h', toks := tk } :=
  WhileStep.intro F N hn hJ
theorem inv_end {J : (Str → Option Value) → List (Addr × Obj) → Prop} {L : Addr} {m' : Str → Option Value} {own nx : List (Addr × Obj)} {adr : List Addr} {s₁ : Shared} {h' : Heap} {tk : Nat} (F : Fr h₀ L h' m') (N : News h₀ L h' (nx ++ own)) (hj : J m' nx) (ha : nx.map (·.1) = adr) :
    Shut (InvPostN h₀ L J own adr s₁ Q) .next { s₁ with heap := h', toks := tk } :=
  InvEndN.intro F N hj ha (fun _ hp => List.mem_append.mpr (.inl hp)) (fun _ hp => List.mem_append.mpr (.inr hp))
theorem step3_end {J : (Str → Option Value) → List (Addr × Obj) → Prop} {L : Addr} {m' : Str → Option Value} {own nx news₁ : List (Addr × Obj)} {s₁ : Shared} {h' : Heap} {tk : Nat} {Qr : Value → Shared → Prop} {Qb : Shared → Prop} (F : Fr h₀ L h' m') (N : News h₀ L h' (own ++ nx)) (hj : J m' nx) (ha : nx.map (·.1) = news₁.map (·.1)) :
    Shut (LoopStep3 h₀ L own news₁ J s₁ Qr Qb) .next { s₁ with heap := h', toks := tk } :=
  ⟨rfl, h', tk, m', nx, rfl, F, N, ha, hj⟩
theorem iter_strN {xt : Str} {tx : Tok} {m₀ : Str → Option Value} {news : List (Addr × Obj)} (J : Nat → (Str → Option Value) → List (Addr × Obj) → Prop)
    (hh : A.handled = none) (F : Fr h₀ env.locals s.heap m₀) (N : News h₀ env.locals s.heap news) (hj : J 0 m₀ news)
    (turn : ∀ i c u m₁ news₁ h tk own, xt.cps[i]? = some c → news₁.map (·.1) = news.map (·.1) → OwnOff own (news.map (·.1)) → J i m₁ news₁ →
      Fr h₀ env.locals h (fun y => if y = x then some (.str ⟨#[c]⟩ u) else m₁ y) → News h₀ env.locals h (news₁ ++ own) →
      wpAny (model prog w) A (execs body env) (InvPostN h₀ env.locals (J (i + 1)) own (news.map (·.1)) { s with heap := h, toks := tk } Q) E { s with heap := h, toks := tk })
    (done : ∀ m₁ news₁ h tk, J xt.cps.size m₁ news₁ → Fr h₀ env.locals h m₁ → News h₀ env.locals h news₁ → Q .next { s with heap := h, toks := tk }) :
    wpAny (model prog w) A (pyIter (.str xt tx)) (fun it s₂ => LoopAtV prog w A h₀ env x body Q E it s₂) E s := by
  refine wpAny_pyIter_str fun o St hW hst => ?_
  have W := hW A hh
  refine loop_invN J W ?_ ?_ ?_ ?_ hst (F.push _) (fun p hp => ⟨Heap.get?_push_of_some _ (N p hp).1, (N p hp).2⟩) hj ?_ ?_
  · intro hm
    exact absurd F.ns.lt ((List.mem_singleton.mp hm) ▸ Nat.lt_irrefl _)
  · intro b' hb
    rw [List.mem_singleton.mp hb]
    exact next_is_new F
  · intro p hp hI
    exact absurd (Heap.lt_size (N p hp).1) ((List.mem_singleton.mp hI) ▸ Nat.lt_irrefl _)
  · intro p hp hI
    exact absurd (Heap.lt_size (N p hp).1) ((List.mem_singleton.mp hI) ▸ Nat.lt_irrefl _)
  · rintro i v m₁ nx h tk own hi ⟨n, u, hn, rfl⟩ ha hoff hJ F₁ N₁
    exact turn i n u m₁ nx h tk own hn ha hoff hJ F₁ N₁
  · rintro m₁ nx h tk hJ F₁ N₁
    exact done m₁ nx h tk hJ F₁ N₁
end
theorem unr_end {h₀ : Heap} {L I : Addr} {it : Obj} {rest : (Str → Option Value) → List (Addr × Obj) → Prop} {s₁ : Shared} {h' : Heap} {tk : Nat} {m' : Str → Option Value} {nx : List (Addr × Obj)} (F : Fr h₀ L h' m') (N : News h₀ L h' ((I, it) :: nx)) (hl : AllLt I nx) (r : rest m' nx) : UnrEnd h₀ L s₁ I it rest { s₁ with heap := h', toks := tk } := by
  refine UnrEnd.intro F N nx (fun _ hp => hp) ?_ r
  have : ∀ {l : List (Addr × Obj)}, AllLt I l → ∀ p ∈ l, p.1 ≠ I := by
    intro l
    induction l with
    | nil => intro _ p hp; cases hp
    | cons a l ih =>
      intro h p hp
      rcases List.mem_cons.mp hp with rfl | hp
      · exact Nat.ne_of_lt h.1
      · exact ih h.2 p hp
  exact this hl
section
variable {prog : Program} {w : World} {A : Around} {E : Value → Shared → Prop} {s : Shared} {env : Env} {h₀ : Heap} {x : Str} {body : List Stmt} {Q : Flow → Shared → Prop}
theorem rest_I {I : Addr} {a c : Int} {n : Nat} (Inv : Nat → (Str → Option Value) → List (Addr × Obj) → Prop)
    (step : ∀ i m₁ nx t h tk, i < n → Inv i m₁ nx → (∀ p ∈ nx, p.1 ≠ I) → Fr h₀ env.locals h (fun y => if y = x then some (.int (a + (i : Int) * c) t) else m₁ y) → News h₀ env.locals h ((I, krsIt (a + ((i + 1 : Nat) : Int) * c) ((n : Int) - ((i + 1 : Nat) : Int)) c) :: nx) →
      wpAny (model prog w) A (execs body env) (Shut (UnrPost h₀ env.locals { s with heap := h, toks := tk } I (krsIt (a + ((i + 1 : Nat) : Int) * c) ((n : Int) - ((i + 1 : Nat) : Int)) c) (Inv (i + 1)) Q)) E { s with heap := h, toks := tk })
    (done : ∀ m₁ nx h tk, Inv n m₁ nx → Fr h₀ env.locals h m₁ → News h₀ env.locals h nx → Q .next { s with heap := h, toks := tk }) :
    ∀ k i m nx, i + k = n → Inv i m nx → (∀ p ∈ nx, p.1 ≠ I) → KrsRest prog w A E h₀ env x body Q s I a c n k i m nx
  | 0, i, m, nx, hik, hI, _ => fun h tk F N => done m nx h tk (by rw [← hik]; exact hI) F N
  | k + 1, i, m, nx, hik, hI, hoff => fun t h tk F N => by
    refine wpAny_mono (step i m nx t h tk (by omega) hI hoff F N) (fun f s₂ p => ?_) fun _ _ e => e
    have fin : ∀ {S : Shared} {it : Obj}, UnrEnd h₀ env.locals S I it (Inv (i + 1)) s₂ → UnrEnd h₀ env.locals S I it (KrsRest prog w A E h₀ env x body Q s I a c n k (i + 1)) s₂ := by
      rintro S it ⟨h', tk', m', nx', e, F', N', ho, r⟩
      exact ⟨h', tk', m', nx', e, F', N', ho, rest_I Inv step done k (i + 1) m' nx' (by omega) r ho⟩
    cases f with
    | ret v => exact p
    | brk => exact p
    | next => exact fin p
    | cont => exact fin p
theorem range_I {r : Addr} {a₀ b₀ c : Int} {t₀ u₀ v₀ : Tok} {n : Nat} {m₀ : Str → Option Value} {news : List (Addr × Obj)} (Inv : Nat → (Str → Option Value) → List (Addr × Obj) → Prop)
    (hh : A.handled = none) (hr : IsRange s.heap r a₀ b₀ c t₀ u₀ v₀) (hsmall : Builtin.Range.small a₀ b₀ c = true) (hn : Builtin.Range.rangeSize a₀ b₀ c = (n : Int)) (F : Fr h₀ env.locals s.heap m₀) (N : News h₀ env.locals s.heap news) (h0 : Inv 0 m₀ news)
    (step : ∀ I i m₁ nx t h tk, (∀ p ∈ news, p.1 < I) → i < n → Inv i m₁ nx → (∀ p ∈ nx, p.1 ≠ I) → Fr h₀ env.locals h (fun y => if y = x then some (.int (a₀ + (i : Int) * c) t) else m₁ y) → News h₀ env.locals h ((I, krsIt (a₀ + ((i + 1 : Nat) : Int) * c) ((n : Int) - ((i + 1 : Nat) : Int)) c) :: nx) →
      wpAny (model prog w) A (execs body env) (Shut (UnrPost h₀ env.locals { s with heap := h, toks := tk } I (krsIt (a₀ + ((i + 1 : Nat) : Int) * c) ((n : Int) - ((i + 1 : Nat) : Int)) c) (Inv (i + 1)) Q)) E { s with heap := h, toks := tk })
    (done : ∀ m₁ nx h tk, Inv n m₁ nx → Fr h₀ env.locals h m₁ → News h₀ env.locals h nx → Q .next { s with heap := h, toks := tk }) :
    wpAny (model prog w) A (pyIter (.ref r)) (fun it s₂ => LoopAtV prog w A h₀ env x body Q E it s₂) E s :=
  krs_iter hh hr hsmall hn F N fun I hlt => rest_I Inv (fun i m₁ nx t h tk => step I i m₁ nx t h tk hlt) done n 0 m₀ news (Nat.zero_add _) h0 fun p hp => Nat.ne_of_lt (hlt p hp)
theorem turn_end {I L : Addr} {it : Obj} {rest : (Str → Option Value) → List (Addr × Obj) → Prop} {h' : Heap} {tk : Nat} {m' : Str → Option Value} {nx : List (Addr × Obj)} (F : Fr h₀ L h' m') (N : News h₀ L h' ((I, it) :: nx)) (ho : ∀ p ∈ nx, p.1 ≠ I) (r : rest m' nx) :
    Shut (UnrPost h₀ L s I it rest Q) .next { s with heap := h', toks := tk } := ⟨h', tk, m', nx, rfl, F, N, ho, r⟩
end
section
variable {prog : Program} {w : World} {A : Around} {E : Value → Shared → Prop} {s : Shared} {h₀ : Heap} {L : Addr}
theorem item_N {value slice : Expr} {a : Addr} {l : List Value} {n : Nat} {k : Int} {u : Tok} {x : Value} {news : List (Addr × Obj)} {Q : Value → Shared → Prop} (N : News h₀ L s.heap news) (hm : (a, W.listOf l.toArray n) ∈ news)
    (h0 : 0 ≤ k) (hfit : k < 2 ^ 63) (hx : l[k.toNat]? = some x) (h : Q x s)
    (hs : subscripted slice false (.ref a) (.int k u) = operate [.ref a, .int k u] (getItem (.ref a) (.int k u)) := by with_unfolding_all rfl) (hg : ∀ r, letTemporaryGo value (.ref a) r = pure () := by intro _; with_unfolding_all rfl) :
    wpAny (model prog w) A (subscriptTail value slice (.ref a) (.int k u)) Q E s := item_listL (News.isList N hm) h0 hfit hx h hs hg
theorem last_N {value slice : Expr} {a : Addr} {l : List Value} {n : Nat} {u : Tok} {x : Value} {news : List (Addr × Obj)} {Q : Value → Shared → Prop} (N : News h₀ L s.heap news) (hm : (a, W.listOf l.toArray n) ∈ news)
    (hx : l.getLast? = some x) (h : Q x s)
    (hs : subscripted slice false (.ref a) (.int (-1) u) = operate [.ref a, .int (-1) u] (getItem (.ref a) (.int (-1) u)) := by with_unfolding_all rfl) (hg : ∀ r, letTemporaryGo value (.ref a) r = pure () := by intro _; with_unfolding_all rfl) :
    wpAny (model prog w) A (subscriptTail value slice (.ref a) (.int (-1) u)) Q E s := by
  have hl := News.isList N hm
  have hne : l ≠ [] := fun e => by rw [e] at hx; cases hx
  have hpos : 0 < l.length := List.length_pos_iff.mpr hne
  refine subscriptTail_builtin hl.typeIs slot_list_getitem.lookup (wpAny_getItem_list_neg hl (by decide) ?_ (by decide) ?_ h) hs hg
  · simp; omega
  · have e : ((-1 : Int) + (l.toArray.size : Nat)).toNat = l.length - 1 := by simp; omega
    rw [e, ← hx, List.getLast?_eq_getElem?]
    simp
end
theorem small_le8 {n : Nat} (h : n ≤ 100) : Builtin.Range.small 0 (n : Int) 1 = true := small_one (by decide) (by decide) (by omega) (by omega)
theorem size_le8 (n : Nat) : Builtin.Range.rangeSize 0 (n : Int) 1 = (n : Int) := by rw [rangeSize_nat]; omega
noncomputable def rowAt : Nat → Int × Int × Int × Int
  | 0 => (1, 0, 0, 0)
  | n + 1 => match rowAt n with | (a, b, c, d) => (a + b + c, b + a + d, c + d + a, d + c + b)
noncomputable def RowIn (nx : List (Addr × Obj)) (v : Value) (q : Int × Int × Int × Int) : Prop := ∃ l k t0 t1 t2 t3, v = .ref l ∧ (l, W.listOf #[.int q.1 t0, .int q.2.1 t1, .int q.2.2.1 t2, .int q.2.2.2 t3] k) ∈ nx
theorem RowIn.sub {nx nx' : List (Addr × Obj)} {v : Value} {q : Int × Int × Int × Int} (h : RowIn nx v q) (hs : ∀ p ∈ nx, p ∈ nx') : RowIn nx' v q := by
  obtain ⟨l, k, t0, t1, t2, t3, e, hm⟩ := h
  exact ⟨l, k, t0, t1, t2, t3, e, hs _ hm⟩
theorem size_down (n : Nat) : Builtin.Range.rangeSize ((n : Int) - 1) (-1) (-1) = (n : Int) := by
  unfold Builtin.Range.rangeSize
  rw [if_neg (by decide), show -(-1 : Int) = 1 from rfl, Int.ediv_one]
  split <;> omega
theorem small_down {n : Nat} (h : n ≤ 100) : Builtin.Range.small ((n : Int) - 1) (-1) (-1) = true := by
  unfold Builtin.Range.small
  rw [size_down]
  simp only [Builtin.Range.rangeFitsLong, Bool.and_eq_true, Bool.or_eq_true, decide_eq_true_eq, beq_iff_eq, show ¬ ((-1 : Int) > 0) by decide, if_false]
  omega
noncomputable def rowGet (row : Int × Int × Int × Int) (k : Int) : Int := [row.1, row.2.1, row.2.2.1, row.2.2.2].getD k.toNat 0
noncomputable def stStep (row : Int × Int × Int × Int) (lk nu : Int) : Nat × Int × Int :=
  if nu < rowGet row (Builtin.bitXor lk 0) then (108, 0, nu)
  else if nu - rowGet row (Builtin.bitXor lk 0) < rowGet row (Builtin.bitXor lk 1) then (109, 1, nu - rowGet row (Builtin.bitXor lk 0))
  else if nu - rowGet row (Builtin.bitXor lk 0) - rowGet row (Builtin.bitXor lk 1) < rowGet row (Builtin.bitXor lk 2) then (114, 2, nu - rowGet row (Builtin.bitXor lk 0) - rowGet row (Builtin.bitXor lk 1))
  else (114, 2, nu - rowGet row (Builtin.bitXor lk 0) - rowGet row (Builtin.bitXor lk 1) - rowGet row (Builtin.bitXor lk 2))
noncomputable def stand (n : Nat) (nu : Int) : Nat → List Nat × Int × Int
  | 0 => ([], 0, nu)
  | i + 1 => match stand n nu i with | (w, lk, v) => match stStep (rowAt (n - 1 - i)) lk v with | (c, sh, v') => (c :: w, Builtin.bitXor lk sh, v')
noncomputable def lkOk (k : Int) : Prop := k = 0 ∨ k = 1 ∨ k = 2 ∨ k = 3
theorem lkOk.xor {a b : Int} (ha : lkOk a) (hb : lkOk b) : lkOk (Builtin.bitXor a b) := by
  unfold lkOk at *
  rcases ha with rfl | rfl | rfl | rfl <;> rcases hb with rfl | rfl | rfl | rfl <;> decide
theorem rowItem {prog : Program} {w : World} {A : Around} {E : Value → Shared → Prop} {s : Shared} {h₀ : Heap} {L : Addr} {value slice : Expr} {a : Addr} {q : Int × Int × Int × Int} {t0 t1 t2 t3 n : Nat} {k : Int} {u : Tok} {news : List (Addr × Obj)} {Q : Value → Shared → Prop} (N : News h₀ L s.heap news) (hm : (a, W.listOf #[.int q.1 t0, .int q.2.1 t1, .int q.2.2.1 t2, .int q.2.2.2 t3] n) ∈ news)
    (hk : lkOk k) (h : ∀ t, Q (.int (rowGet q k) t) s)
    (hs : subscripted slice false (.ref a) (.int k u) = operate [.ref a, .int k u] (getItem (.ref a) (.int k u)) := by with_unfolding_all rfl) (hg : ∀ r, letTemporaryGo value (.ref a) r = pure () := by intro _; with_unfolding_all rfl) :
    wpAny (model prog w) A (subscriptTail value slice (.ref a) (.int k u)) Q E s := by
  rcases hk with rfl | rfl | rfl | rfl
  · exact item_N (l := [_, _, _, _]) N hm (by decide) (by decide) rfl (h t0) hs hg
  · exact item_N (l := [_, _, _, _]) N hm (by decide) (by decide) rfl (h t1) hs hg
  · exact item_N (l := [_, _, _, _]) N hm (by decide) (by decide) rfl (h t2) hs hg
  · exact item_N (l := [_, _, _, _]) N hm (by decide) (by decide) rfl (h t3) hs hg
theorem unr_endW {h₀ : Heap} {L I : Addr} {o : Obj} {keep : List (Addr × Obj)} {R : (Str → Option Value) → List (Addr × Obj) → Prop} {s₁ : Shared} {h' : Heap} {tk : Nat} {m' : Str → Option Value} {nx : List (Addr × Obj)} (F : Fr h₀ L h' m') (N : News h₀ L h' ((I, o) :: nx)) (hl : ∀ p ∈ nx, p.1 < I) (hk : SubL keep nx) (r : R m' nx) :
    UnrEndW h₀ L s₁ [(I, o)] (fun m' n' => SubL keep n' ∧ R m' n') { s₁ with heap := h', toks := tk } :=
  ⟨h', tk, m', nx, rfl, F, N, fun p hp q hq e => by
    rw [List.mem_singleton.mp hq] at e
    exact Nat.ne_of_lt (hl p hp) e, hk, r⟩
noncomputable def notIn (x y : Str) : Bool := (Builtin.Str.occurrences y x 0 y.length 1).isEmpty
noncomputable def moveOf (a : Str) (i : Nat) (c : Str) (d : Nat) : List Str :=
  if ((⟨#[d]⟩ : Str) != c) && notIn ⟨#[d]⟩ (Txt.slice a none (some (i : Int))) then [Txt.slice a none (some (i : Int)) ++ ⟨#[d]⟩ ++ Txt.slice a (some ((i : Int) + 1)) none] else []
noncomputable def lmr : List Nat := [108, 109, 114]
noncomputable def movesAt (a : Str) (p : Str × Nat) : List Str := if notIn p.1 (Txt.slice a none (some (p.2 : Int))) then lmr.flatMap (moveOf a p.2 p.1) else []
noncomputable def moves (a : Str) : List Str := (signs a).zipIdx.flatMap (movesAt a)
theorem moveOf_len (a : Str) (i : Nat) (c : Str) (d : Nat) : (moveOf a i c d).length ≤ 1 := by unfold moveOf; split <;> simp
noncomputable abbrev Calls (w : World) (K : Frag) (p : Program) (loose : List Str) (mean : ExcName → Option Value) (mg mb : Str → Option Value) (f : Addr) (D U : Nat) (news : List (Addr × Obj)) (vs : List Value)
    (Ret : Heap → Addr → (Str → Option Value) → Shared → (Value → Shared → Prop) → Prop) (prog : Program) : Prop :=
  ∀ (dp un : Nat) (gd : Option (List Code)) (cn : Str) (cs : Scope) (a : Addr) (ccd : Value) (cl : List (Str × Addr)) (outer : List Env) (A₀ : Around) (base h₀ : Heap) (L : Addr) (m : Str → Option Value) (s : Shared) (Q E : Value → Shared → Prop),
    Below A₀ base outer h₀ → Fr h₀ L s.heap m → K.In h₀ → News h₀ L s.heap news → Top p loose mean mg mb h₀ → cs.kind = .function → dp + D < recursionLimit → un + U < cLine → Ret h₀ L m s Q →
    wpAny (model prog w) (ktrTop dp un gd cn cs L a ccd cl outer) (call (.ref f) vs) Q E s
theorem callsUse {w : World} {K : Frag} {p : Program} {loose : List Str} {mean : ExcName → Option Value} {mg mb : Str → Option Value} {f : Addr} {D U : Nat} {news : List (Addr × Obj)} {vs : List Value}
    {Ret : Heap → Addr → (Str → Option Value) → Shared → (Value → Shared → Prop) → Prop} {prog : Program} {dp un : Nat} {gd : Option (List Code)} {cn : Str} {cs : Scope} {a : Addr} {ccd : Value} {cl : List (Str × Addr)} {outer : List Env} {A₀ : Around} {base h₀ : Heap} {L : Addr} {m : Str → Option Value} {s : Shared} {Q E : Value → Shared → Prop}
    (C : Calls w K p loose mean mg mb f D U news vs Ret prog) (B : Below A₀ base outer h₀) (F : Fr h₀ L s.heap m) (X : K.In h₀) (N : News h₀ L s.heap news) (T : Top p loose mean mg mb h₀) (hk : cs.kind = .function) (hd : dp + D < recursionLimit) (hu : un + U < cLine) (hR : Ret h₀ L m s Q) :
    wpAny (model prog w) (ktrTop dp un gd cn cs L a ccd cl outer) (call (.ref f) vs) Q E s := C _ _ _ _ _ _ _ _ _ _ _ _ _ _ _ _ _ B F X N T hk hd hu hR
end Mine
set_option maxRecDepth 100000
namespace Mine
noncomputable abbrev ofL (l : List Nat) : Str := ⟨l.toArray⟩
theorem ofL_len (l : List Nat) : (ofL l).length = l.length := by simp [Str.length]
theorem ofL_inj {l l' : List Nat} (h : ofL l = ofL l') : l = l' := by
  have := congrArg (fun x : Str => x.cps.toList) h
  simpa using this
theorem ofL_beq (l l' : List Nat) : (ofL l == ofL l') = (l == l') := by
  rw [Bool.eq_iff_iff, beq_iff_eq, beq_iff_eq]
  exact ⟨ofL_inj, fun h => by rw [h]⟩
theorem ofL_append (l l' : List Nat) : ofL l ++ ofL l' = ofL (l ++ l') := by
  refine Str.ext' ?_
  rw [Str.cps_append]
  simp
theorem slice_to {l : List Nat} {k : Nat} (h : k ≤ l.length) : Txt.slice (ofL l) none (some (k : Int)) = ofL (l.take k) := by
  have e := beq_iff_eq.mp (slice_closes_to (x := ofL l) (j := (k : Int)) ⟨by omega, by simpa using h⟩)
  rw [e]
  simp
theorem slice_from {l : List Nat} {k : Nat} (h : k ≤ l.length) : Txt.slice (ofL l) (some (k : Int)) none = ofL (l.drop k) := by
  have e := slice_from_eq (x := ofL l) (i := (k : Int)) (b := l.length) (by omega) (by rw [ofL_len]; omega) (by rw [ofL_len])
  rw [e]
  have : ((l.length : Int) - k).toNat = l.length - k := by omega
  simp only [this, Int.toNat_natCast, List.toList_toArray]
  rw [List.take_of_length_le (by simp)]
theorem slice_neg {l : List Nat} {j : Nat} (h0 : 0 < j) (h : j ≤ l.length) : Txt.slice (ofL l) none (some (-(j : Int))) = ofL (l.take (l.length - j)) := by
  have e := beq_iff_eq.mp (slice_closes_to_neg (x := ofL l) (j := -(j : Int)) (k := (l.length : Int) - j) (by omega) (by rw [ofL_len]; omega) (by rw [ofL_len]; omega))
  rw [e]
  have : ((l.length : Int) - j - 0).toNat = l.length - j := by omega
  rw [this]
  simp
theorem item_pos {l : List Nat} {k : Nat} {c : Nat} (h : l[k]? = some c) : Txt.item (ofL l) (k : Int) = ofL [c] := by
  obtain ⟨hk, hc⟩ := List.getElem?_eq_some_iff.mp h
  unfold Txt.item Txt.charAt seqIndex?
  have h1 : ¬ ((k : Int) < 0) := by omega
  simp only [ofL_len]
  simp [h1, hk, hc]
theorem item_neg {l : List Nat} {j c : Nat} (h0 : 0 < j) (h1 : j ≤ l.length) (h : l[l.length - j]? = some c) : Txt.item (ofL l) (-(j : Int)) = ofL [c] := by
  have e := beq_iff_eq.mp (item_closes_neg (x := ofL l) (i := -(j : Int)) (j := (l.length : Int) - j) (by omega) (by rw [ofL_len]; omega) (by rw [ofL_len]; omega))
  rw [e]
  have : ((l.length : Int) - j).toNat = l.length - j := by omega
  rw [this]
  simp [Array.getD_eq_getD_getElem?, h]
theorem slice_all (x : Str) : Txt.slice x none none = x := by
  unfold Txt.slice
  rw [if_pos]
  have h : (Builtin.Str.strSliceIndices none none 1 x.length).length = x.length := by
    unfold Builtin.Str.strSliceIndices PySem.sliceRange
    simp only [List.length_map, List.length_range]
    simp only [show (1 : Int) > 0 from by decide, if_true]
    by_cases h : (0 : Int) < (x.length : Int)
    · rw [if_pos h]; simp
    · rw [if_neg h]; simp; omega
  simp [h]
theorem item_mid {u v : List Nat} {x : Nat} : Txt.item (ofL (u ++ x :: v)) (u.length : Int) = ofL [x] := item_pos (by simp)
theorem item_pre {u v : List Nat} {x k : Nat} (h : k < u.length) : Txt.item (ofL (u ++ x :: v)) (k : Int) = ofL [u[k]] := item_pos (by rw [List.getElem?_append_left h, List.getElem?_eq_getElem h])
theorem item_first {v : List Nat} {x : Nat} : Txt.item (ofL (x :: v)) (-(v.length : Int) - 1) = ofL [x] := by
  have e : (-(v.length : Int) - 1) = -((v.length + 1 : Nat) : Int) := by omega
  rw [e]
  exact item_neg (by omega) (by simp) (by simp)
theorem item_suf {v : List Nat} {j : Nat} (h0 : 0 < j) (h : j ≤ v.length) : ∃ c, ∀ x, Txt.item (ofL (x :: v)) (-(j : Int)) = ofL [c] := by
  have hl : v.length - j < v.length := by omega
  refine ⟨v[v.length - j], fun x => item_neg h0 (by simp; omega) ?_⟩
  have e : (x :: v).length - j = (v.length - j) + 1 := by simp; omega
  rw [e, List.getElem?_cons_succ, List.getElem?_eq_getElem hl]
theorem levLt {v : List Nat} {x y j : Nat} {a1 b1 : Str} (hA : a1 = ofL (x :: v)) (hB : b1 = ofL (y :: v)) (hxy : x ≠ y) (hj : j ≤ v.length) (h : (Txt.item a1 (-(j : Int) - 1) == Txt.item b1 (-(j : Int) - 1)) = true) : j + 1 ≤ v.length := by
  rcases Nat.lt_or_ge j v.length with h1 | h1
  · exact h1
  · exfalso
    obtain rfl : j = v.length := by omega
    rw [hA, hB, item_first, item_first] at h
    exact hxy (List.cons.inj (ofL_inj (beq_iff_eq.mp h))).1
theorem levEq {v : List Nat} {x y j : Nat} {a1 b1 : Str} (hA : a1 = ofL (x :: v)) (hB : b1 = ofL (y :: v)) (hj : j ≤ v.length) (h : (Txt.item a1 (-(j : Int) - 1) == Txt.item b1 (-(j : Int) - 1)) = false) : j = v.length := by
  rcases Nat.lt_or_ge j v.length with h1 | h1
  · exfalso
    obtain ⟨c, hc⟩ := item_suf (v := v) (j := j + 1) (by omega) h1
    have e : (-(j : Int) - 1) = -((j + 1 : Nat) : Int) := by omega
    rw [hA, hB, e, hc, hc, beq_self_eq_true] at h
    cases h
  · omega
theorem slice_neg_len {l : List Nat} {j : Nat} {a : Str} (hA : a = ofL l) (h0 : 0 < j) (h : j ≤ l.length) : (Txt.slice a none (some (-(j : Int)))).length = l.length - j := by
  rw [hA, slice_neg h0 h, ofL_len]; simp
theorem min_lit {prog : Program} {w : World} {A : Around} {E : Value → Shared → Prop} {s : Shared} {h₀ : Heap} {L : Addr} {m : Str → Option Value} {news : List (Addr × Obj)} {a b : Int} {t u : Tok} {Q : Value → Shared → Prop} (c : Int) (hc : (if b < a then b else a) = c) (hh : A.handled = none) (F : Fr h₀ L s.heap m) (N : News h₀ L s.heap news)
    (h : ∀ h' tk q, Fr h₀ L h' m → News h₀ L h' news → Q (.int c q) { s with heap := h', toks := tk }) :
    wpAny (model prog w) A (call (.builtin "min") [.int a t, .int b u]) Q E s := by
  subst hc
  exact min_two_N hh F N fun h' tk F' N' => h h' tk _ F' N'
end Mine
set_option maxRecDepth 100000
namespace Mine
noncomputable def defIn (K : Frag) (a : Addr) (i : Nat) : Option Stmt := match K.lookup a with
  | some o => (match o.data with
    | .func fd => (match fd.body with
      | .stmts b => b[i]?
      | _ => none)
    | _ => none)
  | none => none
noncomputable def fnAt (K : Frag) (a : Addr) : Option (Str × List Stmt × Scope) := match K.lookup a with
  | some o => (match o.data with
    | .func fd => (match fd.body with
      | .stmts b => some (fd.qualname, b, fd.scope)
      | _ => none)
    | _ => none)
  | none => none
noncomputable def fnDefOf (K : Frag) (a : Addr) (i : Nat) : Option (Str × Arguments × List Stmt × Scope) := match defIn K a i with
  | some (.FunctionDef name params body _ _ _ scope _ _ _) => some (name, params, body, scope)
  | _ => none
theorem nameHead {h₀ h : Heap} {L f : Addr} {o : Obj} {nx : List (Addr × Obj)} (N : News h₀ L h ((f, o) :: nx)) : ∃ o', o' = o ∧ News h₀ L h ((f, o') :: nx) := ⟨o, rfl, N⟩
theorem allLt_ne {d : Addr} : ∀ {l : List (Addr × Obj)}, AllLt d l → ∀ p ∈ l, p.1 ≠ d
  | [], _, _, hp => nomatch hp
  | _ :: _, h, p, hp => by
    rcases List.mem_cons.mp hp with rfl | hp
    · exact Nat.ne_of_lt h.1
    · exact allLt_ne h.2 p hp
theorem allLt_lt {d : Addr} : ∀ {l : List (Addr × Obj)}, AllLt d l → ∀ p ∈ l, p.1 < d
  | [], _, _, hp => nomatch hp
  | _ :: _, h, p, hp => by
    rcases List.mem_cons.mp hp with rfl | hp
    · exact h.1
    · exact allLt_lt h.2 p hp
theorem repl_int {d : Nat} (h : d ≤ 4) : (List.replicate ((d : Nat) : Int).toNat [(0 : Int)]).flatten = List.replicate d 0 := by
  have : ∀ d, d ≤ 4 → (List.replicate ((d : Nat) : Int).toNat [(0 : Int)]).flatten = List.replicate d 0 := by decide
  exact this d h
noncomputable def Tab (P : Addr) (ln : Nat) (qual : Str) (l : List (Addr × Obj)) : Prop := l = [(P, tabObj #[])] ∨ ∃ c oc cv t, l = [(P, tabObj #[rawInt (ln : Nat), rawInt 4, .ref c]), (c, oc)] ∧ oc.data = .fields cv ∧ cv[1]? = some (.str qual t) ∧ @LT.lt Nat _ 288 c
theorem Tab.ne {P : Addr} {ln : Nat} {qual : Str} {l : List (Addr × Obj)} (h : Tab P ln qual l) {q : Addr} (hq : @LT.lt Nat _ q 288) (hne : @Ne Nat P q) : ∀ p ∈ l, p.1 ≠ q := by
  rcases h with rfl | ⟨c, oc, cv, t, rfl, _, _, hc⟩
  · intro p hp
    rw [List.mem_singleton.mp hp]
    exact hne
  · intro p hp
    rcases List.mem_cons.mp hp with rfl | hp
    · exact hne
    · rw [List.mem_singleton.mp hp]
      exact Nat.ne_of_gt (Nat.lt_trans hq hc)
theorem Tab.has {P : Addr} {ln : Nat} {qual : Str} {l : List (Addr × Obj)} (h : Tab P ln qual l) : ∃ o, (P, o) ∈ l := by
  rcases h with rfl | ⟨c, oc, cv, t, rfl, _, _, hc⟩
  · exact ⟨_, .head _⟩
  · exact ⟨_, .head _⟩
theorem tab_off {P : Addr} {ln : Nat} {qual : Str} {l nws : List (Addr × Obj)} {h₀ h : Heap} {L I : Addr} {x y z : Int} (ht : Tab P ln qual l) (N : News h₀ L h nws) (hl : ∀ p ∈ l, p ∈ nws) (hI : (I, krsIt x y z) ∈ nws) (hP : @Ne Nat P I) : ∀ p ∈ l, p.1 ≠ I := by
  rcases ht with rfl | ⟨c, oc, cv, t, rfl, d1, d2, hc⟩
  · intro p hp
    rw [List.mem_singleton.mp hp]
    exact hP
  · intro p hp
    rcases List.mem_cons.mp hp with rfl | hp
    · exact hP
    · rw [List.mem_singleton.mp hp]
      rintro rfl
      have e1 := (N _ (hl (c, oc) (.tail _ (.head _)))).1
      have e2 := (N _ hI).1
      rw [e1] at e2
      have e3 := Option.some.inj e2
      dsimp only at e3
      subst e3
      have e4 : Data.fields #[rawInt x, rawInt y, rawInt z] = Data.fields cv := d1
      injection e4 with e5
      rw [← e5] at d2
      have e6 : some (rawInt y) = some (Value.str qual t) := d2
      injection e6 with e7
      unfold rawInt at e7
      injection e7
noncomputable def i2q : Str := Str.ofString "_int2digits.<locals>.inner"
noncomputable def d2q : Str := Str.ofString "_digits2int.<locals>.inner"
section
variable {prog : Program} {w : World} {A : Around} {E : Value → Shared → Prop} {h₀ : Heap} {env : Env} {x : Str} {body : List Stmt} {Q : Flow → Shared → Prop} {s : Shared} {I : Addr} {lp : Addr × Obj}
theorem rev_rest (Inv : List Value → (Str → Option Value) → List (Addr × Obj) → Prop)
    (step : ∀ v r m nx (it : Obj) h tk, Inv (v :: r) m nx → it.cls = .type "list_reverseiterator" → Fr h₀ env.locals h (fun y => if y = x then some v else m y) → News h₀ env.locals h ((I, it) :: nx) →
      wpAny (model prog w) A (execs body env) (Shut (UnrPost h₀ env.locals { s with heap := h, toks := tk } I it (fun m' n' => lp ∈ n' ∧ Inv r m' n') Q)) E { s with heap := h, toks := tk })
    (done : ∀ m nx h tk, Inv [] m nx → Fr h₀ env.locals h m → News h₀ env.locals h nx → Q .next { s with heap := h, toks := tk }) :
    ∀ (vs : List Value) m nx, Inv vs m nx → RevRest prog w A E h₀ env x body Q s I lp vs m nx
  | [], m, nx, hI => fun h tk F N => done m nx h tk hI F N
  | v :: r, m, nx, hI => fun it h tk hc F N => by
    refine wpAny_mono (step v r m nx it h tk hI hc F N) (fun f s₂ p => ?_) fun _ _ e => e
    have fin : ∀ {S : Shared}, UnrEnd h₀ env.locals S I it (fun m' n' => lp ∈ n' ∧ Inv r m' n') s₂ → UnrEnd h₀ env.locals S I it (fun m' n' => lp ∈ n' ∧ RevRest prog w A E h₀ env x body Q s I lp r m' n') s₂ := by
      rintro S ⟨h', tk', m', nx', e, F', N', ho, hm, r'⟩
      exact ⟨h', tk', m', nx', e, F', N', ho, hm, rev_rest Inv step done r m' nx' r'⟩
    cases f with
    | ret v => exact p
    | brk => exact p
    | next => exact fin p
    | cont => exact fin p
end
noncomputable def dmStep (st : List Int × Int) (x : Int) : List Int × Int := (st.1 ++ [(st.2 * 8 + x).fdiv 4], (st.2 * 8 + x).fmod 4)
noncomputable def dmRun (ds : List Int) : List Int × Int := ds.reverse.foldl dmStep ([], 0)
noncomputable def bnd (k : Nat) : Int := 4000 * 2 ^ (4 - k)
theorem bnd_step : ∀ k, k ≤ 4 → ∀ k', k' < k → 2 * bnd k ≤ bnd k' := by decide
theorem bnd_le (k : Nat) : bnd k ≤ 64000 := by
  unfold bnd
  have : (2 : Int) ^ (4 - k) ≤ 2 ^ 4 := by
    have h : ∀ j, j ≤ 4 → (2 : Int) ^ j ≤ 2 ^ 4 := by decide
    exact h _ (Nat.sub_le _ _)
  omega
theorem xor_bnd {x y : Int} (hx : 0 ≤ x) (hy : 0 ≤ y) : 0 ≤ Builtin.bitXor x y ∧ Builtin.bitXor x y ≤ x + y := by
  rw [bitXor_and]
  have h1 := bitAnd_range x hy
  have h2 := bitAnd_range y hx
  rw [bitAnd_comm y x] at h2
  omega
theorem shr_bnd {x : Int} (hx : 0 ≤ x) (k : Nat) : 0 ≤ x.fdiv (2 ^ k) ∧ x.fdiv (2 ^ k) ≤ x ∧ 0 ≤ x.fdiv (2 ^ k) * 2 ^ k ∧ x.fdiv (2 ^ k) * 2 ^ k ≤ x := by
  have hp : (0 : Int) < 2 ^ k := Int.pow_pos (by decide)
  have h1 : 0 ≤ x.fdiv (2 ^ k) := Int.fdiv_nonneg hx (Int.le_of_lt hp)
  have h2 : x.fdiv (2 ^ k) * 2 ^ k ≤ x := by
    rw [Int.fdiv_eq_ediv_of_nonneg _ (Int.le_of_lt hp)]
    exact Int.ediv_mul_le x (Int.ne_of_gt hp)
  have h3 : 0 ≤ x.fdiv (2 ^ k) * 2 ^ k := Int.mul_nonneg h1 (Int.le_of_lt hp)
  refine ⟨h1, ?_, h3, h2⟩
  have : x.fdiv (2 ^ k) * 1 ≤ x.fdiv (2 ^ k) * 2 ^ k := Int.mul_le_mul_of_nonneg_left (by omega) h1
  omega
noncomputable def innerS : Nat → Int → Nat → Nat → List Int → List Int
  | 0, _, _, _, ns => ns
  | fuel + 1, x, lo, hi, ns => if lo + 1 = hi then ns.set lo x else
    innerS fuel (x.fdiv (2 ^ (((lo + hi) / 2 - lo) * 3))) ((lo + hi) / 2) hi (innerS fuel (Builtin.bitXor x (x.fdiv (2 ^ (((lo + hi) / 2 - lo) * 3)) * 2 ^ (((lo + hi) / 2 - lo) * 3))) lo ((lo + hi) / 2) ns)
theorem innerS_len : ∀ (f : Nat) (x : Int) (lo hi : Nat) (ns : List Int), (innerS f x lo hi ns).length = ns.length
  | 0, _, _, _, _ => rfl
  | f + 1, x, lo, hi, ns => by
    unfold innerS
    split
    · simp
    · rw [innerS_len, innerS_len]
noncomputable def d2iS : Nat → List Int → Nat → Nat → Nat → Int
  | 0, _, _, _, _ => 0
  | fu + 1, ns, n, lo, hi => if lo + 1 = hi then ns.getD lo 0 else
    d2iS fu ns n ((lo + hi) / 2) hi * 2 ^ (((lo + hi) / 2 - lo) * n) + d2iS fu ns n lo ((lo + hi) / 2)
noncomputable def bd (k : Nat) : Int := 4000 * 100 ^ k
theorem bd_step : ∀ k, k ≤ 4 → ∀ k1, k1 < k → ∀ k2, k2 < k → bd k2 * 64 + bd k1 ≤ bd k := by decide
theorem bd_le : ∀ k, k ≤ 4 → 4000 ≤ bd k ∧ bd k ≤ 400000000000 := by decide
theorem two_le : ∀ s, s ≤ 6 → (2 : Int) ^ s ≤ 64 ∧ 0 < (2 : Int) ^ s := by decide
noncomputable def Hid (p : Prop) : Prop := p
theorem predEx {k fu : Nat} (h : k ≤ fu) (h1 : 1 ≤ k) : ∃ g, fu = g + 1 := ⟨fu - 1, (Nat.sub_add_cancel (Nat.le_trans h1 h)).symm⟩
theorem roomU {dp u v R : Nat} (h : dp + (u + v) < R) (hv : 1 ≤ v) : dp + 1 + u < R := Nat.lt_of_le_of_lt (by rw [Nat.add_assoc, Nat.add_comm 1 u]; exact Nat.add_le_add_left (Nat.add_le_add_left hv u) dp) h
theorem roomV {dp u v R : Nat} (h : dp + (u + v) < R) (hu : 1 ≤ u) : dp + 1 + v < R := roomU (Nat.add_comm u v ▸ h) hu
theorem unitU {un u v R : Nat} (h : un + 16 * (u + v) < R) (hv : 1 ≤ v) : un + 3 + 16 * u < R := by omega
theorem unitV {un u v R : Nat} (h : un + 16 * (u + v) < R) (hu : 1 ≤ u) : un + 3 + 16 * v < R := unitU (Nat.add_comm u v ▸ h) hu
theorem fuU {fu u v : Nat} (h : u + v ≤ fu + 1) (hv : 1 ≤ v) : u ≤ fu := by omega
theorem fuV {fu u v : Nat} (h : u + v ≤ fu + 1) (hu : 1 ≤ u) : v ≤ fu := fuU (Nat.add_comm u v ▸ h) hu
theorem ltU {u v : Nat} (hv : 1 ≤ v) : u < u + v := Nat.lt_add_of_pos_right hv
theorem ltV {u v : Nat} (hu : 1 ≤ u) : v < u + v := Nat.lt_add_of_pos_left hu
theorem leU {u v n : Nat} (h : u + v ≤ n) : u ≤ n := Nat.le_trans (Nat.le_add_right u v) h
theorem leV {u v n : Nat} (h : u + v ≤ n) : v ≤ n := Nat.le_trans (Nat.le_add_left v u) h
theorem midLe {mid hi v n : Nat} (h : hi = mid + v) (hn : hi ≤ n) : mid ≤ n := by omega
theorem natSum (a b : Nat) : (0 : Int) ≤ (a : Int) + (b : Int) := by omega
theorem natLt {a b : Nat} (h : a < b) : (a : Int) < (b : Int) := Int.ofNat_lt.mpr h
theorem natSmall {a : Nat} (h : a ≤ 100) : (a : Int) < 2 ^ 63 := by omega
theorem noEq {lo hi : Nat} (h : (lo : Int) + 1 ≠ (hi : Int)) : ¬ lo + 1 = hi := by omega
theorem half4 : ∀ k, k ≤ 4 → 1 < k → 1 ≤ k / 2 ∧ 1 ≤ k - k / 2 ∧ k = k / 2 + (k - k / 2) ∧ k / 2 ≤ 2 := by decide
theorem split2 {k lo hi : Nat} (hk : 1 < k) (hk4 : k ≤ 4) (hhi : hi = lo + k) : ∃ u v mid : Nat, 1 ≤ u ∧ 1 ≤ v ∧ k = u + v ∧ u ≤ 2 ∧ mid = lo + u ∧ hi = mid + v ∧ Hid ((lo + hi) / 2 = mid) ∧ ((lo : Int) + (hi : Int)).fdiv (2 ^ Int.toNat 1) = (mid : Int) ∧ (lo : Int) + 1 ≠ (hi : Int) ∧ Hid (mid - lo = u) ∧ (mid : Int) - (lo : Int) = (u : Int) := by
  obtain ⟨h1, h2, h3, h4⟩ := half4 k hk4 hk
  have hd : (lo + hi) / 2 = lo + k / 2 := by rw [hhi, ← Nat.add_assoc, ← Nat.two_mul, Nat.mul_add_div (by decide)]
  refine ⟨k / 2, k - k / 2, lo + k / 2, h1, h2, h3, h4, rfl, by rw [Nat.add_assoc, ← h3, hhi], hd, ?_, ?_, Nat.add_sub_cancel_left _ _, ?_⟩
  · show ((lo : Int) + (hi : Int)).fdiv 2 = _
    rw [Int.fdiv_eq_ediv_of_nonneg _ (by decide), ← hd]
    rfl
  · intro h
    have h5 : lo + 1 = lo + k := hhi ▸ Int.ofNat.inj h
    exact Nat.ne_of_lt hk (Nat.add_left_cancel h5)
  · rw [Int.natCast_add, Int.add_comm, Int.add_sub_cancel]
theorem hidOut {p : Prop} (h : Hid p) : p := h
theorem sh3 {d : Int} {u : Nat} (h : d = (u : Int)) (hu : u ≤ 2) : (d * 3).toNat = u * 3 ∧ 0 ≤ d * 3 ∧ d * 3 ≤ 6 := by subst h; omega
theorem bits20 {x b : Int} (h0 : 0 ≤ x) (h1 : x ≤ b) (h2 : b ≤ 64000) : Builtin.Int.intBits x ≤ 20 := PySem.intBits_le_iff.mpr (by omega)
theorem shiftFits {b : Nat} {d : Int} (h : b ≤ 40) (h2 : d ≤ 6) : (b : Int) + d ≤ 2 ^ 27 := by omega
theorem leTrans3 {a b c d : Int} (h1 : a ≤ b) (h2 : b ≤ c) (h3 : c ≤ d) : a ≤ d := Int.le_trans h1 (Int.le_trans h2 h3)
theorem xorLe {a x y b c : Int} (h : a ≤ x + y) (hy : y ≤ x) (hx : x ≤ b) (hc : 2 * b ≤ c) : a ≤ c := by omega
theorem dblLe {x b c : Int} (h0 : 0 ≤ x) (h : x ≤ b) (hc : 2 * b ≤ c) : x ≤ c := by omega
theorem bits40 {x : Int} (h0 : 0 ≤ x) (h1 : x ≤ 400000000000) : Builtin.Int.intBits x ≤ 40 := PySem.intBits_le_iff.mpr (by omega)
theorem gt1 {k lo hi : Nat} (h : ¬ lo + 1 = hi) (h3 : hi = lo + k) (h4 : 1 ≤ k) : 1 < k := by omega
theorem d2iS_bnd {ns : List Int} {n : Nat} (hn : n ≤ 3) (hns : ∀ x ∈ ns, 0 ≤ x ∧ x ≤ 4000) : ∀ (fu k lo hi : Nat), k ≤ fu → k ≤ 4 → hi = lo + k → 1 ≤ k → 0 ≤ d2iS fu ns n lo hi ∧ d2iS fu ns n lo hi ≤ bd k
  | 0, k, _, _, h1, _, _, h4 => (Nat.not_lt_zero _ (Nat.lt_of_lt_of_le h4 h1)).elim
  | fu + 1, k, lo, hi, h1, h2, h3, h4 => by
    unfold d2iS
    split
    · have hb := bd_le k h2
      rw [List.getD_eq_getElem?_getD]
      cases hg : ns[lo]? with
      | none => exact ⟨Int.le_refl _, Int.le_trans (by decide) hb.1⟩
      | some x =>
        have := hns x (List.mem_of_getElem? hg)
        exact ⟨this.1, Int.le_trans this.2 hb.1⟩
    · rename_i hne
      obtain ⟨u, v, mid, hu1, hv1, rfl, hu2, hmu, hhv, hm, _, _, hmlo, _⟩ := split2 (gt1 hne h3 h4) h2 h3
      rw [hidOut hm, hidOut hmlo]
      have ha := d2iS_bnd hn hns fu v mid hi (fuV h1 hu1) (leV h2) hhv hv1
      have hb := d2iS_bnd hn hns fu u lo mid (fuU h1 hv1) (leU h2) hmu hu1
      have hs : u * n ≤ 6 := Nat.le_trans (Nat.mul_le_mul hu2 hn) (by decide)
      have h2s := two_le _ hs
      have hmul : d2iS fu ns n mid hi * 2 ^ (u * n) ≤ bd v * 64 := Int.mul_le_mul ha.2 h2s.1 (Int.le_of_lt h2s.2) (Int.le_trans ha.1 ha.2)
      have hpos : 0 ≤ d2iS fu ns n mid hi * 2 ^ (u * n) := Int.mul_nonneg ha.1 (Int.le_of_lt h2s.2)
      exact ⟨Int.add_nonneg hpos hb.1, Int.le_trans (Int.add_le_add hmul hb.2) (bd_step (u + v) h2 u (ltU hv1) v (ltV hu1))⟩
section
variable {prog : Program} {w : World} {A : Around} {E : Value → Shared → Prop} {s : Shared} {a b : Int} {t u : Tok}
theorem rshift_nn {Q : Value → Shared → Prop} (ha : 0 ≤ a) (hb : 0 ≤ b) (h : Q (.int (a.fdiv (2 ^ b.toNat)) s.toks) { s with toks := s.toks + 1 }) : wpAny (model prog w) A (binaryOp .RShift (.int a t) (.int b u)) Q E s := by
  have hb' : ¬ b < 0 := by omega
  by_cases hc : b ≥ ((Builtin.Int.intBits a : Nat) : Int)
  · refine PySem.AutoIntOps.rshift_1 hb' hc ?_
    have e : (if a < 0 then (-1 : Int) else 0) = a.fdiv (2 ^ b.toNat) := by
      rw [if_neg (by omega)]
      have h1 : Builtin.Int.intBits a ≤ b.toNat := by omega
      have h2 := PySem.intBits_le_iff.mp h1
      rw [Int.fdiv_eq_ediv_of_nonneg _ (Int.le_of_lt (Int.pow_pos (by decide)))]
      refine (Int.ediv_eq_zero_of_lt ha ?_).symm
      have h3 : ((a.natAbs : Nat) : Int) < ((2 ^ b.toNat : Nat) : Int) := by exact_mod_cast h2
      have h4 : ((2 ^ b.toNat : Nat) : Int) = 2 ^ b.toNat := by simp
      omega
    rw [e]
    exact h
  · exact PySem.AutoIntOps.rshift_2 hb' hc h
theorem rshift_is {Q : Value → Shared → Prop} {c : Int} (hc : a.fdiv (2 ^ b.toNat) = c) (ha : 0 ≤ a) (hb : 0 ≤ b) (h : Q (.int c s.toks) { s with toks := s.toks + 1 }) : wpAny (model prog w) A (binaryOp .RShift (.int a t) (.int b u)) Q E s := by
  subst hc
  exact rshift_nn ha hb h
theorem lshift_is {Q : Value → Shared → Prop} {c : Int} (hc : a * 2 ^ b.toNat = c) (hb : 0 ≤ b) (hsz : (Builtin.Int.intBits a : Int) + b ≤ 2 ^ 27) (h : Q (.int c s.toks) { s with toks := s.toks + 1 }) : wpAny (model prog w) A (binaryOp .LShift (.int a t) (.int b u)) Q E s := by
  subst hc
  exact lshift_int hb hsz h
end
end Mine
set_option maxRecDepth 100000
namespace Mine
section
variable {M : Model} {A : Around} {R : GenEnd} {Y : Protocol} {n : Nat} {s₀ : Shared} {c : Code} {fs : List Frame} {s : Shared} {env : Env}
  {K : Flow → Sem Fin} {H : Value → Sem Fin} {gd : Bool → Bool} {lv : List Value → List Value}
theorem sgIf {test : Expr} {b o : List Stmt} {pos : Pos}
    (h : wpAny M (A.over c fs) (isTrue test env (eval test env)) (fun r s' => if r = true then Seg M A R Y n s₀ c ((execs b env).wrap K H gd lv) fs s' else Seg M A R Y n s₀ c ((execs o env).wrap K H gd lv) fs s') (fun x s' => Seg M A R Y n s₀ c (H x) fs s') s) :
    Seg M A R Y n s₀ c ((exec (.If test b o pos) env).wrap K H gd lv) fs s := by
  show Seg M A R Y n s₀ c ((standAt pos >>= fun _ => (isTrue test env (eval test env) >>= fun r => if r = true then execs b env else execs o env)).wrap K H gd lv) fs s
  refine seg_bind_wrap (wpAny_standAt ?_)
  refine seg_bind_wrap (wpAny_mono h (fun r s' hr => ?_) fun _ _ e => e)
  cases r with
  | true => rw [if_pos rfl] at hr ⊢; exact hr
  | false => rw [if_neg Bool.false_ne_true] at hr ⊢; exact hr
noncomputable abbrev sgFrame (env : Env) (K : Flow → Sem Fin) (H : Value → Sem Fin) (gd : Bool → Bool) (lv : List Value → List Value) (c : Code) (p : Pos) : Frame :=
  .ret (fun r => ((match r with | .ok f => (.pure f : Sem Flow) | .error e => .raise e).onRaise fun (x : Value) => do
        if (← field x 1) == Value.none then unsupported "frame.own-activation:exception-without-traceback"
        setFlight x env.frame).wrap K H gd lv) none (gd false) (lv []) c p []
theorem sgFor {target iter : Expr} {body orelse : List Stmt} {pos : Pos} (hs : ∀ x, foldedSetIterable iter env x = pure x)
    (h : wpAny M (A.over c fs) (eval iter env) (fun x s₁ => wpAny M (A.over c fs) (pyIter x) (fun it s₂ => ∀ p, Seg M A R Y n s₀ (.forLoop target it body orelse env) (M.den (.forLoop target it body orelse env)) (sgFrame env K H gd lv c p :: fs) s₂) (fun x s' => Seg M A R Y n s₀ c (H x) fs s') s₁) (fun x s' => Seg M A R Y n s₀ c (H x) fs s') s) :
    Seg M A R Y n s₀ c ((exec (.For target iter body orelse pos) env).wrap K H gd lv) fs s := by
  rw [exec_For]
  refine seg_bind_wrap (wpAny_standAt ?_)
  refine seg_bind_wrap (wpAny_mono h (fun x s₁ h₁ => ?_) fun _ _ e => e)
  refine seg_bind_wrap (wpAny_of_eq (hs x) ?_)
  refine seg_bind_wrap (wpAny_standAt ?_)
  refine seg_bind_wrap (wpAny_holding (wpAny_mono h₁ (fun it s₂ h₂ => ?_) fun _ _ e => e))
  exact seg_call h₂
end
section
variable {prog : Program} {w : World} {A : Around} {R : GenEnd} {Y : Protocol} {n : Nat} {s₀ : Shared} {fs : List Frame} {s : Shared} {env : Env}
theorem sgLoop {target : Expr} {it : Value} {body : List Stmt}
    (h : wpAny (model prog w) (A.over (.forLoop target it body [] env) fs) (pyNext it) (fun r s₁ => match r with
      | none => Seg (model prog w) A R Y n s₀ (.forLoop target it body [] env) (.pure (.again (.block [] env))) fs s₁
      | some v => wpAny (model prog w) (A.over (.forLoop target it body [] env) fs) (letOwnedTupleGo target it v) (fun _ s₂ => wpAny (model prog w) (A.over (.forLoop target it body [] env) fs) (assign target env v) (fun _ s₃ =>
          Seg (model prog w) A R Y n s₀ (.forLoop target it body [] env) ((execs body env).wrap (fun f => match f with
            | .next | .cont => .pure (.again (.forLoop target it body [] env))
            | .brk => .pure (.done .next)
            | .ret v => .pure (.done (.ret v))) (fun e => (do noteFrame e env; theTreesLotGoes e : Sem Unit).wrap (fun _ => .raise e) .raise id id) id id) fs s₃)
          (fun x s' => Seg (model prog w) A R Y n s₀ (.forLoop target it body [] env) ((do noteFrame x env; theTreesLotGoes x : Sem Unit).wrap (fun _ => .raise x) .raise id id) fs s') s₂)
          (fun x s' => Seg (model prog w) A R Y n s₀ (.forLoop target it body [] env) ((do noteFrame x env; theTreesLotGoes x : Sem Unit).wrap (fun _ => .raise x) .raise id id) fs s') s₁)
      (fun x s' => Seg (model prog w) A R Y n s₀ (.forLoop target it body [] env) ((do noteFrame x env; theTreesLotGoes x : Sem Unit).wrap (fun _ => .raise x) .raise id id) fs s') s) :
    Seg (model prog w) A R Y n s₀ (.forLoop target it body [] env) ((model prog w).den (.forLoop target it body [] env)) fs s := by
  show Seg _ A R Y n s₀ _ ((forTurn target it body [] env).onRaise (fun x => do noteFrame x env; theTreesLotGoes x)) fs s
  have hH : ∀ x : Value, ((do noteFrame x env; theTreesLotGoes x : Sem Unit).bind fun _ => (.raise x : Sem Fin)) = (do noteFrame x env; theTreesLotGoes x : Sem Unit).wrap (fun _ => .raise x) .raise id id := fun x => Sem.bind_eq_wrap _ _
  rw [Sem.onRaise_eq_wrap]
  simp only [hH]
  unfold forTurn
  refine seg_bind_wrap (wpAny_standAt ?_)
  refine seg_bind_wrap (wpAny_onRaise (wpAny_mono h (fun r s₁ h₁ => ?_) fun _ _ e => wpAny_standAt e))
  cases r with
  | none => exact h₁
  | some v =>
    refine seg_bind_wrap (wpAny_mono h₁ (fun _ s₂ h₂ => ?_) fun _ _ e => e)
    refine seg_bind_wrap (wpAny_mono h₂ (fun _ s₃ h₃ => ?_) fun _ _ e => e)
    rw [Sem.bind_eq_wrap', Sem.wrap_wrap]
    rw [Sem.wrap_congr (execs body env) _ _ (K' := fun f => match f with
            | .next | .cont => .pure (.again (.forLoop target it body [] env))
            | .brk => .pure (.done .next)
            | .ret v => .pure (.done (.ret v))) (H' := (fun e => (do noteFrame e env; theTreesLotGoes e : Sem Unit).wrap (fun _ => .raise e) .raise id id))
        (fun f => by cases f <;> rfl) (fun e => by rfl)]
    exact h₃
end
noncomputable def Pv (C : Addr) (ex : List Addr) (h h' : Heap) : Prop := ∀ b o, b ≠ C → b ∉ ex → h.get? b = some o → h'.get? b = some o
theorem Pv.refl (C : Addr) (ex : List Addr) (h : Heap) : Pv C ex h h := fun _ _ _ _ e => e
theorem Pv.trans {C : Addr} {ex : List Addr} {h h' h'' : Heap} (a : Pv C ex h h') (b : Pv C ex h' h'') : Pv C ex h h'' := fun x o h1 h2 e => b x o h1 h2 (a x o h1 h2 e)
theorem all_news (h₀ h : Heap) (C : Addr) (ex : List Addr) : ∃ kept : List (Addr × Obj), News h₀ C h kept ∧ (∀ p ∈ kept, p.1 ∉ ex) ∧ ∀ b o, h.get? b = some o → b ≠ C → b ∉ ex → h₀.get? b = none → (b, o) ∈ kept := by
  classical
  refine ⟨(List.range h.objs.size).filterMap (fun b => match h.get? b with
    | some o => if h₀.get? b = none ∧ b ≠ C ∧ b ∉ ex then some (b, o) else none
    | none => none), ?_, ?_, ?_⟩
  · intro p hp
    obtain ⟨b, hb, hm⟩ := List.mem_filterMap.mp hp
    cases hg : h.get? b with
    | none => rw [hg] at hm; cases hm
    | some o =>
      rw [hg] at hm
      dsimp only at hm
      split at hm
      · rename_i hc
        cases hm
        exact ⟨hg, hc.2.1, hc.1⟩
      · cases hm
  · intro p hp
    obtain ⟨b, hb, hm⟩ := List.mem_filterMap.mp hp
    cases hg : h.get? b with
    | none => rw [hg] at hm; cases hm
    | some o =>
      rw [hg] at hm
      dsimp only at hm
      split at hm
      · rename_i hc
        cases hm
        exact hc.2.2
      · cases hm
  · intro b o hg hC hex h0
    refine List.mem_filterMap.mpr ⟨b, List.mem_range.mpr (Heap.lt_size hg), ?_⟩
    rw [hg]
    dsimp only
    rw [if_pos ⟨h0, hC, hex⟩]
theorem pv_of {h₀ h h' : Heap} {C : Addr} {ex : List Addr} {m m' : Str → Option Value} {kept l : List (Addr × Obj)} (F : Fr h₀ C h m) (hk : ∀ b o, h.get? b = some o → b ≠ C → b ∉ ex → h₀.get? b = none → (b, o) ∈ kept) (F' : Fr h₀ C h' m') (N' : News h₀ C h' l) (hl : ∀ p ∈ kept, p ∈ l) : Pv C ex h h' := by
  intro b o hC hex hg
  cases h0 : h₀.get? b with
  | none => exact (N' _ (hl _ (hk b o hg hC hex h0))).1
  | some o' =>
    have e := F.keep b o' h0
    rw [hg] at e
    cases e
    exact F'.keep b o h0
theorem frKeep {h₀ h h' : Heap} {C : Addr} {ex : List Addr} {m : Str → Option Value} (F : Fr h₀ C h m) (hC : C ∉ ex) (h0 : ∀ b ∈ ex, h₀.get? b = none) (hk : ∀ b o, b ∉ ex → h.get? b = some o → h'.get? b = some o) : Fr h₀ C h' m :=
  ⟨F.ns.at' fun o e => hk C o hC e, fun b o e => hk b o (fun hb => by rw [h0 b hb] at e; cases e) (F.keep b o e), F.above⟩
noncomputable def escR (C e it : Addr) : GenEnd := fun n s₀ r s₁ => r = .ok (.ret .none) ∧ n = 0 ∧ ∃ h' tk, s₁ = { s₀ with heap := h', toks := tk } ∧ Pv C [e, it] s₀.heap h'
noncomputable def tupO (od : Option Addr) (osl : Array (Option Value)) (n i : Nat) (t : Tok) (c : Nat) (t' : Tok) : Obj := { cls := .type "tuple", dict := od, data := .seq #[.int (i : Nat) t, .str ⟨#[c]⟩ t'] n, slots := osl }
noncomputable def escY (h₀ : Heap) (C e it : Addr) (cs : List Nat) : Protocol := fun m s₀ v s kap =>
  (∃ T c t t' nn od osl, v = .ref T ∧ cs[cs.length - 1 - m]? = some c ∧ s.heap.get? T = some (tupO od osl nn (cs.length - 1 - m) t c t') ∧ (∀ b o, s₀.heap.get? b = some o → b < T) ∧ C < T ∧ e < T ∧ it < T) ∧
  (∃ h' tk, s = { s₀ with heap := h', toks := tk } ∧ Pv C [e, it] s₀.heap h') ∧
  (∃ o1 o2 o3, s.heap.get? C = some o1 ∧ s.heap.get? e = some o2 ∧ s.heap.get? it = some o3) ∧
  ∀ s'' : Shared, (∀ b o, h₀.get? b = some o → s''.heap.get? b = some o) → (∀ b ∈ [C, e, it], ∀ o, s.heap.get? b = some o → s''.heap.get? b = some o) → kap (.send .none) s''
theorem forListT {prog : Program} {w : World} {A : Around} (hA : A.handled = none) {env : Env} {target : Expr} {body : List Stmt} {h₀ : Heap} {L D : Addr} {vs : List Value} {n : Nat} {s : Shared} {m : Str → Option Value} {news : List (Addr × Obj)} {R : Result → Shared → Prop} {E₀ : Value → Shared → Prop}
    (F : Fr h₀ L s.heap m) (N : News h₀ L s.heap news) (J : Nat → (Str → Option Value) → List (Addr × Obj) → Array GenState → Prop) (hJ : J 0 m news s.gens) (hJD : ∀ i m nx g, J i m nx g → (D, W.listOf vs.toArray n) ∈ nx)
    (turn : ∀ I itO i v m₁ nx h tk gens (E : Value → Shared → Prop), (∀ p ∈ news, p.1 < I) → i < vs.length → vs[i]? = some v → J i m₁ nx gens → (∀ p ∈ nx, p.1 ≠ I) → (itO.cls = .type "list_iterator" ∧ itO.data = .fields #[.ref D, .int ((i + 1 : Nat) : Int) 0]) → Fr h₀ L h m₁ → News h₀ L h ((I, itO) :: nx) →
      wpAny (model prog w) A (assign target env v) (fun _ s₂ => wpAny (model prog w) A (execs body env) (Shut fun f s₃ => (f = .next ∧ ∃ h' tk' m' nx' gens', s₃ = { s with heap := h', toks := tk', gens := gens' } ∧ Fr h₀ L h' m' ∧ News h₀ L h' ((I, itO) :: nx') ∧ (∀ p ∈ nx', p.1 ≠ I) ∧ J (i + 1) m' nx' gens') ∨ ∃ v, f = .ret v ∧ R (.ok (.ret v)) s₃) E s₂) E { s with heap := h, toks := tk, gens := gens })
    (done : ∀ m' nx h tk gens, J vs.length m' nx gens → Fr h₀ L h m' → News h₀ L h nx → R (.ok .next) { s with heap := h, toks := tk, gens := gens }) :
    wpAny (model prog w) A (pyIter (.ref D)) (fun it s₂ => codeAny (model prog w) A (.forLoop target it body [] env) R s₂) E₀ s := by
  have hD := hJD _ _ _ _ hJ
  refine wpAny_pyIter_list (News.isList N hD) ?_
  obtain ⟨I, hI⟩ : ∃ I, s.heap.objs.size = I := ⟨_, rfl⟩
  rw [hI]
  have hLI : @LT.lt Nat _ L I := hI ▸ F.ns.lt
  have h0I : h₀.get? I = none := Heap.get?_none_of_le (Nat.le_trans F.above (Nat.le_of_lt hLI))
  have hlt : ∀ p ∈ news, p.1 < I := fun p hp => hI ▸ Heap.lt_size (N p hp).1
  refine codeAny_forLoop_any (fun k s' => ∃ i, i ≤ vs.length ∧ k = vs.length + 1 - i ∧ ∃ h tk gens m₁ nx, s' = { s with heap := h, toks := tk, gens := gens } ∧ Fr h₀ L h m₁ ∧ News h₀ L h nx ∧ h.IsListIter I D i ∧ (∀ p ∈ nx, p.1 ≠ I) ∧ J i m₁ nx gens) ?_ (vs.length + 1) ⟨0, Nat.zero_le _, rfl, _, s.toks, s.gens, m, news, rfl, F.push _, fun q hq => ⟨Heap.get?_push_of_some _ (N q hq).1, (N q hq).2⟩, ⟨_, by rw [← hI]; exact Heap.get?_push_size _ rfl, rfl, rfl⟩, fun p hp => Nat.ne_of_lt (hlt p hp), hJ⟩
  rintro k s' ⟨i, hi, rfl, h, tk, gens, m₁, nx, rfl, F₁, N₁, hit, hoff, hJ₁⟩
  have hDx := hJD _ _ _ _ hJ₁
  rcases Nat.eq_or_lt_of_le hi with rfl | hil
  · refine wpAny_pyNext_list_end hA hit (News.isList N₁ hDx) (by simp) fun h' hk' => ?_
    refine wpAny_execs_nil ?_
    exact done m₁ nx h' tk gens hJ₁ ⟨F₁.ns.at' fun o eo => hk' L o (Nat.ne_of_lt hLI) eo, fun b o hb => hk' b o (fun hh => by rw [hh, h0I] at hb; cases hb) (F₁.keep b o hb), F₁.above⟩ fun q hq => ⟨hk' _ _ (hoff q hq) (N₁ q hq).1, (N₁ q hq).2⟩
  · have hv : vs[i]? = some vs[i] := List.getElem?_eq_getElem hil
    refine wpAny_pyNext_list_item hit (News.isList N₁ hDx) (x := vs[i]) (by simpa using hv) fun h' hit' hs' => ?_
    dsimp only
    obtain ⟨itO, hio, hic, hid⟩ := hit'
    have hk' : ∀ b o, b ≠ I → h.get? b = some o → h'.get? b = some o := fun b o hb eo => hs'.extBut b o hb eo
    have F2 : Fr h₀ L h' m₁ := ⟨F₁.ns.at' fun o eo => hk' L o (Nat.ne_of_lt hLI) eo, fun b o hb => hk' b o (fun hh => by rw [hh, h0I] at hb; cases hb) (F₁.keep b o hb), F₁.above⟩
    have N2 : News h₀ L h' ((I, itO) :: nx) := List.forall_mem_cons.mpr ⟨⟨hio, Nat.ne_of_gt hLI, h0I⟩, fun q hq => ⟨hk' _ _ (hoff q hq) (N₁ q hq).1, (N₁ q hq).2⟩⟩
    refine letGo_listiter (t := D) (i := i + 1) ⟨itO, hio, hic, hid⟩ ?_
    refine wpAny_mono (turn I itO i vs[i] m₁ nx h' tk gens _ hlt hil hv hJ₁ hoff ⟨hic, hid⟩ F2 N2) (fun _ s₂ h₂ => ?_) fun _ _ z => z
    refine wpAny_mono h₂ (fun f s₃ h₃ => ?_) fun _ _ z => z
    rcases h₃ with ⟨rfl, h4, tk4, m4, nx4, gens4, rfl, F4, N4, hoff4, hJ4⟩ | ⟨v, rfl, hR⟩
    · exact ⟨vs.length + 1 - (i + 1), wDec (by first | assumption | exact Nat.le_of_lt (by assumption)), i + 1, hil, rfl, h4, tk4, gens4, m4, nx4, rfl, F4, fun q hq => N4 q (.tail _ hq), ⟨itO, (N4 _ (.head _)).1, hic, hid⟩, hoff4, hJ4⟩
    · exact hR
theorem forListG {prog : Program} {w : World} {A : Around} (hA : A.handled = none) {env : Env} {x : Str} {px : Pos} {body : List Stmt} {h₀ : Heap} {L D : Addr} {vs : List Value} {n : Nat} {s : Shared} {m : Str → Option Value} {news : List (Addr × Obj)} {R : Result → Shared → Prop} {E₀ : Value → Shared → Prop}
    (F : Fr h₀ L s.heap m) (N : News h₀ L s.heap news) (J : Nat → (Str → Option Value) → List (Addr × Obj) → Array GenState → Prop) (hJ : J 0 m news s.gens) (hJD : ∀ i m nx g, J i m nx g → (D, W.listOf vs.toArray n) ∈ nx)
    (turn : ∀ I itO i v m₁ nx h tk gens (E : Value → Shared → Prop), (∀ p ∈ news, p.1 < I) → i < vs.length → vs[i]? = some v → J i m₁ nx gens → (∀ p ∈ nx, p.1 ≠ I) → itO.cls = .type "list_iterator" → Fr h₀ L h m₁ → News h₀ L h ((I, itO) :: nx) →
      wpAny (model prog w) A (assign (.Name x px) env v) (fun _ s₂ => wpAny (model prog w) A (execs body env) (Shut fun f s₃ => f = .next ∧ ∃ h' tk' m' nx' gens', s₃ = { s with heap := h', toks := tk', gens := gens' } ∧ Fr h₀ L h' m' ∧ News h₀ L h' ((I, itO) :: nx') ∧ (∀ p ∈ nx', p.1 ≠ I) ∧ J (i + 1) m' nx' gens') E s₂) E { s with heap := h, toks := tk, gens := gens })
    (done : ∀ m' nx h tk gens, J vs.length m' nx gens → Fr h₀ L h m' → News h₀ L h nx → R (.ok .next) { s with heap := h, toks := tk, gens := gens }) :
    wpAny (model prog w) A (pyIter (.ref D)) (fun it s₂ => codeAny (model prog w) A (.forLoop (.Name x px) it body [] env) R s₂) E₀ s := by
  have hD := hJD _ _ _ _ hJ
  refine wpAny_pyIter_list (News.isList N hD) ?_
  obtain ⟨I, hI⟩ : ∃ I, s.heap.objs.size = I := ⟨_, rfl⟩
  rw [hI]
  have hLI : @LT.lt Nat _ L I := hI ▸ F.ns.lt
  have h0I : h₀.get? I = none := Heap.get?_none_of_le (Nat.le_trans F.above (Nat.le_of_lt hLI))
  have hlt : ∀ p ∈ news, p.1 < I := fun p hp => hI ▸ Heap.lt_size (N p hp).1
  refine codeAny_forLoop (fun k s' => ∃ i, i ≤ vs.length ∧ k = vs.length + 1 - i ∧ ∃ h tk gens m₁ nx, s' = { s with heap := h, toks := tk, gens := gens } ∧ Fr h₀ L h m₁ ∧ News h₀ L h nx ∧ h.IsListIter I D i ∧ (∀ p ∈ nx, p.1 ≠ I) ∧ J i m₁ nx gens) ?_ (vs.length + 1) ⟨0, Nat.zero_le _, rfl, _, s.toks, s.gens, m, news, rfl, F.push _, fun q hq => ⟨Heap.get?_push_of_some _ (N q hq).1, (N q hq).2⟩, ⟨_, by rw [← hI]; exact Heap.get?_push_size _ rfl, rfl, rfl⟩, fun p hp => Nat.ne_of_lt (hlt p hp), hJ⟩
  rintro k s' ⟨i, hi, rfl, h, tk, gens, m₁, nx, rfl, F₁, N₁, hit, hoff, hJ₁⟩
  have hDx := hJD _ _ _ _ hJ₁
  rcases Nat.eq_or_lt_of_le hi with rfl | hil
  · refine wpAny_pyNext_list_end hA hit (News.isList N₁ hDx) (by simp) fun h' hk' => ?_
    refine wpAny_execs_nil ?_
    exact done m₁ nx h' tk gens hJ₁ ⟨F₁.ns.at' fun o eo => hk' L o (Nat.ne_of_lt hLI) eo, fun b o hb => hk' b o (fun hh => by rw [hh, h0I] at hb; cases hb) (F₁.keep b o hb), F₁.above⟩ fun q hq => ⟨hk' _ _ (hoff q hq) (N₁ q hq).1, (N₁ q hq).2⟩
  · have hv : vs[i]? = some vs[i] := List.getElem?_eq_getElem hil
    refine wpAny_pyNext_list_item hit (News.isList N₁ hDx) (x := vs[i]) (by simpa using hv) fun h' hit' hs' => ?_
    dsimp only
    obtain ⟨itO, hio, hic, hid⟩ := hit'
    have hk' : ∀ b o, b ≠ I → h.get? b = some o → h'.get? b = some o := fun b o hb eo => hs'.extBut b o hb eo
    have F2 : Fr h₀ L h' m₁ := ⟨F₁.ns.at' fun o eo => hk' L o (Nat.ne_of_lt hLI) eo, fun b o hb => hk' b o (fun hh => by rw [hh, h0I] at hb; cases hb) (F₁.keep b o hb), F₁.above⟩
    have N2 : News h₀ L h' ((I, itO) :: nx) := List.forall_mem_cons.mpr ⟨⟨hio, Nat.ne_of_gt hLI, h0I⟩, fun q hq => ⟨hk' _ _ (hoff q hq) (N₁ q hq).1, (N₁ q hq).2⟩⟩
    refine wpAny_mono (turn I itO i vs[i] m₁ nx h' tk gens _ hlt hil hv hJ₁ hoff hic F2 N2) (fun _ s₂ h₂ => ?_) fun _ _ z => z
    refine wpAny_mono h₂ (fun f s₃ h₃ => ?_) fun _ _ z => z
    obtain ⟨rfl, h4, tk4, m4, nx4, gens4, rfl, F4, N4, hoff4, hJ4⟩ := h₃
    exact ⟨vs.length + 1 - (i + 1), wDec (by first | assumption | exact Nat.le_of_lt (by assumption)), i + 1, hil, rfl, h4, tk4, gens4, m4, nx4, rfl, F4, fun q hq => N4 q (.tail _ hq), ⟨itO, (N4 _ (.head _)).1, hic, hid⟩, hoff4, hJ4⟩
end Mine
set_option maxRecDepth 100000
namespace Mine
structure CSrc (prog : Program) (w : World) (A : Around) (target : Expr) (I : Addr) (fp wr : List Addr) (n : Nat) (St : Nat → Heap → Prop) (scope : Scope) (Pm : Nat → (Str → Option Value) → Prop) : Prop where
  sub : ∀ b ∈ wr, b ∈ fp
  frame : ∀ i h h', St i h → (∀ b ∈ fp, ∀ o, h.get? b = some o → h'.get? b = some o) → St i h'
  step : ∀ (cl : List (Str × Addr)) (env : Env) (C : Addr) (i : Nat) (s : Shared) (m : Str → Option Value) (E : Value → Shared → Prop) (Q : Unit → Shared → Prop) (Nn : Shared → Prop), C ∉ fp → i < n → St i s.heap → s.heap.Ns C m →
    (∀ h' tk m', St (i + 1) h' → h'.Ns C m' → Pm i m' → (∀ b o, b ≠ C → b ∉ wr → s.heap.get? b = some o → h'.get? b = some o) → Q () { s with heap := h', toks := tk }) →
    wpAny (model prog w) A (pyNext (.ref I)) (fun r s₁ => match r with
      | none => Nn s₁
      | some v => wpAny (model prog w) A (letOwnedTupleGo target (.ref I) v) (fun _ s₀ => wpAny (model prog w) A (assign target (compEnvC scope cl C env) v) Q E s₀) E s₁) E s
  done : ∀ (s : Shared) (Q : Option Value → Shared → Prop) (E : Value → Shared → Prop), St n s.heap → (∀ h' tk, (∀ b o, b ∉ wr → s.heap.get? b = some o → h'.get? b = some o) → Q none { s with heap := h', toks := tk }) → wpAny (model prog w) A (pyNext (.ref I)) Q E s
  self : ∀ (s : Shared) (Q : Value → Shared → Prop) (E : Value → Shared → Prop), St 0 s.heap → Q (.ref I) s → wpAny (model prog w) A (pyIter (.ref I)) Q E s
  has : ∀ i h, St i h → ∀ b ∈ fp, ∃ o, h.get? b = some o
theorem CSrc.str {prog : Program} {w : World} {A : Around} (hA : A.handled = none) {x : Str} {px : Pos} {I : Addr} {xs : Str} {t : Tok} {scope : Scope} (hkind : scope.kind = .function) (hx : scope.names.lookup x = some .local) :
    CSrc prog w A (.Name x px) I [I] [I] xs.cps.size (fun i h => h.IsStrIter I "str_ascii_iterator" xs t i) scope (fun i m => ∃ c u, xs.cps[i]? = some c ∧ m x = some (.str ⟨#[c]⟩ u)) where
  sub := fun b hb => hb
  frame := (Walks.strAscii (prog := prog) (w := w) hA I xs t).frame
  step := fun cl env C i s m E Q Nn hC hi hst hn hQ => by
    refine (Walks.strAscii (prog := prog) (w := w) hA I xs t).item i s _ _ hi hst fun v h1 tk1 hP hst1 hk1 => ?_
    obtain ⟨c, u, hc, rfl⟩ := hP
    have hCI : C ≠ I := fun h => hC (List.mem_singleton.mpr h)
    refine wpAny_of_eq (rfl : letOwnedTupleGo (.Name x px) (.ref I) _ = pure ()) ?_
    refine wpAny_assign_Name (wpAny_storeName_local (lookup_relabel_local hx) (hn.at' fun o e => hk1 C o (by simpa using hCI) e) (fun h2 hn2 hs2 => ?_) (by simp [compEnvC, relabel, hkind]))
    refine hQ h2 _ _ ?_ hn2 ⟨c, u, hc, if_pos rfl⟩ (fun b o hbC hb e => hs2.extBut b o hbC (hk1 b o hb e))
    exact (Walks.strAscii (prog := prog) (w := w) hA I xs t).frame _ _ _ hst1 fun b hb o e => hs2.extBut b o (fun h => hC ((show b = C from h) ▸ hb)) e
  done := (Walks.strAscii (prog := prog) (w := w) hA I xs t).done
  self := fun s Q E hst hQ => (Walks.strAscii (prog := prog) (w := w) hA I xs t).self 0 s Q E hst hQ
  has := fun i h hst b hb => by
    obtain ⟨o, ho, _⟩ := hst
    exact ⟨o, (List.mem_singleton.mp hb) ▸ ho⟩
theorem zipHas {h : Heap} {z TI TO i1 i2 l1 l2 : Addr} {a b : Nat} {xs ys : Array Value} (x : IsZip h z TI TO .none ∧ IsPair h TI (.ref i1) (.ref i2) ∧ (∃ a b, IsPair h TO a b) ∧ h.IsListIter i1 l1 a ∧ h.IsListIter i2 l2 b ∧ h.IsList l1 xs ∧ h.IsList l2 ys) :
    ∀ b ∈ [z, TI, TO, i1, i2, l1, l2], ∃ o, h.get? b = some o := by
  obtain ⟨h1, h2, ⟨_, _, h3⟩, ⟨_, h4, _⟩, ⟨_, h5, _⟩, ⟨_, h6, _⟩, ⟨_, h7, _⟩⟩ := x
  simp only [List.forall_mem_cons]
  exact ⟨⟨_, h1⟩, ⟨_, h2⟩, ⟨_, h3⟩, ⟨_, h4⟩, ⟨_, h5⟩, ⟨_, h6⟩, ⟨_, h7⟩, fun _ hb => nomatch hb⟩
theorem CSrc.zip {prog : Program} {w : World} {A : Around} (hA : A.handled = none) {a b : Str} {pa pb tp : Pos} {kk : Nat} {z TI TO i1 i2 l1 l2 : Addr} (D : ZipApart z TI TO i1 i2 l1 l2) {xs ys : Array Value} {scope : Scope} (hkind : scope.kind = .function) (ha : scope.names.lookup a = some .local) (hb : scope.names.lookup b = some .local) (hab : a ≠ b) :
    CSrc prog w A (.Tuple [.Name a pa, .Name b pb] kk tp) z [z, TI, TO, i1, i2, l1, l2] [z, TO, i1, i2] (min xs.size ys.size) (fun i h => IsZip h z TI TO .none ∧ IsPair h TI (.ref i1) (.ref i2) ∧ (∃ a b, IsPair h TO a b) ∧ h.IsListIter i1 l1 i ∧ h.IsListIter i2 l2 i ∧ h.IsList l1 xs ∧ h.IsList l2 ys) scope (fun i m => ∃ x y, xs[i]? = some x ∧ ys[i]? = some y ∧ m a = some x ∧ m b = some y) where
  sub := (WalksT.zip2 (prog := prog) (w := w) hA z TI TO i1 i2 l1 l2 D xs ys).sub
  frame := (WalksT.zip2 (prog := prog) (w := w) hA z TI TO i1 i2 l1 l2 D xs ys).frame
  step := fun cl env C i s m E Q Nn hC hi hst hn hQ => by
    have W := WalksT.zip2 (prog := prog) (w := w) hA z TI TO i1 i2 l1 l2 D xs ys
    refine W.item i s _ _ hi hst fun T vals h1 tk1 hP hT hTup hMid hk1 => ?_
    obtain ⟨x, y, hx, hy, rfl⟩ := hP
    have hCw : C ∉ [z, TO, i1, i2] := fun h => hC (W.sub _ h)
    refine W.go _ _ _ i T _ _ _ hMid fun h2 hst2 hk2 => ?_
    have hn2 : h2.Ns C m := hn.at' fun o e => hk2 C o hCw (hk1 C o hCw e)
    have hT2 : h2.IsTuple T #[x, y] := by
      obtain ⟨o, ho, r⟩ := hTup
      exact ⟨o, hk2 T o (W.apart _ _ _ hMid) ho, r⟩
    refine kcp_assign hA hT2 (lookup_relabel_local ha) (lookup_relabel_local hb) (by simp [compEnvC, relabel, hkind]) hn2 fun h3 tk3 hn3 hk3 => ?_
    refine hQ h3 tk3 _ ?_ hn3 ⟨x, y, hx, hy, by simp [hab], by simp⟩ (fun c o hcC hcw e => hk3 c o hcC (hk2 c o hcw (hk1 c o hcw e)))
    exact W.frame _ _ _ hst2 fun c hc o e => hk3 c o (fun h => hC ((show c = C from h) ▸ hc)) e
  done := (WalksT.zip2 (prog := prog) (w := w) hA z TI TO i1 i2 l1 l2 D xs ys).done
  self := fun s Q E hst hQ => (WalksT.zip2 (prog := prog) (w := w) hA z TI TO i1 i2 l1 l2 D xs ys).self 0 s Q E hst hQ
  has := fun i h hst => zipHas hst
theorem compPure {prog : Program} {w : World} {A : Around} {E : Value → Shared → Prop} {s : Shared} {env : Env} {h₀ : Heap} {m : Str → Option Value} {elt target iter : Expr} {y : Str} {py : Pos} {scope : Scope} {cl : List (Str × Addr)} {pos spos : Pos} {Q : Flow → Shared → Prop}
    (F00 : Fr h₀ env.locals s.heap m) (hsw : swapsWith (.ListComp elt [⟨target, iter, [], 0⟩] scope pos) (some (.Name y py)) spos.line env = pure true)
    (hclos : closureFor scope env = pure cl) (hcell : ∀ z ∈ scope.names, z.2 ≠ .cell) (hkind : scope.kind = .function)
    (hnames : ∀ z ∈ scope.names, z.2 = .local → scope.names.lookup z.1 = some .local)
    (hy : env.kindOf y = some .local) (hp : (env.scope.kind == .class || (env.scope.kind == .module && env.locals != env.globals)) = false)
    (hs : ∀ x, foldedSetIterable iter env x = pure x)
    (h : wpAny (model prog w) A (eval iter env) (fun xv s₁ => wpAny (model prog w) A (pyIter xv) (fun itv s₂ => ∃ (I : Addr) (fp wr : List Addr) (n : Nat) (St : Nat → Heap → Prop) (Pm : Nat → (Str → Option Value) → Prop) (G : Nat → Value → Prop) (news : List (Addr × Obj)),
      itv = .ref I ∧ CSrc prog w A target I fp wr n St scope Pm ∧ n ≤ sizeLine ∧ St 0 s₂.heap ∧ (∀ b ∈ fp, b < s₂.heap.objs.size) ∧ Fr h₀ env.locals s₂.heap m ∧ News h₀ env.locals s₂.heap news ∧ (∀ p ∈ news, p.1 ∉ wr) ∧ env.locals ∉ wr ∧ (∀ b ∈ wr, h₀.get? b = none) ∧
      (∀ i C oC m₂ h tk (E' : Value → Shared → Prop), i < n → LCg.NsObj oC m₂ → Pm i m₂ → Fr h₀ env.locals h m → News h₀ env.locals h ((C, oC) :: news) → (∀ p ∈ news, p.1 ≠ C) →
        wpAny (model prog w) A (eval elt (compEnvC scope cl C env)) (fun yv s' => (∃ tk', s' = { s₂ with heap := h, toks := tk' }) ∧ G i yv) E' { s₂ with heap := h, toks := tk }) ∧
      (∀ D ys h tk, ys.length = n → (∀ i yv, ys[i]? = some yv → G i yv) → Fr h₀ env.locals h (fun z => if z = y then some (.ref D) else m z) → News h₀ env.locals h ((D, LCg.lst ys) :: news) → (∀ p ∈ news, p.1 < D) → Q .next { s₂ with heap := h, toks := tk })) E s₁) E s) :
    wpAny (model prog w) A (exec (.Assign [.Name y py] (.ListComp elt [⟨target, iter, [], 0⟩] scope pos) spos) env) Q E s := by
  rw [exec_Assign_Name_used _ _ _ _ hsw]
  refine wpAny_bind (wpAny_standAt (wpAny_bind ?_))
  show wpAny _ A (do let _ ← comprehension (.ListComp elt [⟨target, iter, [], 0⟩] scope pos) scope env _ (newList []) false (eval iter env) (some (assign (.Name y py) env))) _ _ s
  refine wpAny_bind (wpAny_mono (wpAny_comprehension_free (use := some (assign (.Name y py) env)) (Q := fun _ s' => Q .next s') rfl hs hclos hkind hnames
    (wpAny_mono h (fun xv s₁ h₁ => wpAny_mono h₁ (fun itv s₂ h₂ => ?_) fun _ _ e => e) fun _ _ e => e)) (fun _ s' hq => wpAny_pure (wpAny_pure hq)) fun _ _ e => e)
  obtain ⟨I, fp, wr, n, St, Pm, G, news, rfl, W, hsz, hst, hfp, F, N, hnw, hLw, h0w, helt, hdone⟩ := h₂
  refine wpAny_newObj_type (wpAny_newFunctionEnv hcell (by intro y hy; simp at hy) (fun h₁ hns₁ hsb₁ => ?_) hkind)
  dsimp only at hns₁ hsb₁ ⊢
  generalize hH2 : s₂.heap.push { cls := .type "list", dict := none, data := .seq ([] : List Value).toArray } = H2 at hns₁ hsb₁ ⊢
  obtain ⟨D, hD⟩ : ∃ D, s₂.heap.objs.size = D := ⟨_, rfl⟩
  obtain ⟨C, hC⟩ : ∃ C, H2.objs.size = C := ⟨_, rfl⟩
  have hCD : C = D + 1 := by rw [← hC, ← hH2, Heap.size_push, hD]
  rw [hC] at hns₁ hsb₁ ⊢
  rw [hD]
  have hDC : @LT.lt Nat _ D C := hCD ▸ Nat.lt_succ_self D
  have hLD : @LT.lt Nat _ env.locals D := hD ▸ F.ns.lt
  have old : ∀ b o, s₂.heap.get? b = some o → h₁.get? b = some o := fun b o e => hsb₁.extBut b o (Nat.ne_of_lt (Nat.lt_trans (hD ▸ Heap.lt_size e) hDC)) (Heap.get?_push_of_some _ (hH2 ▸ Heap.get?_push_of_some _ e))
  have hacc : h₁.get? D = some (LCg.lst []) := hsb₁.extBut _ _ (Nat.ne_of_lt hDC) (Heap.get?_push_of_some _ (hH2 ▸ (by rw [← hD]; exact Heap.get?_push_size _ rfl)))
  have hDf : D ∉ fp := fun hm => Nat.lt_irrefl D (hD ▸ hfp D hm)
  have hCf : C ∉ fp := fun hm => Nat.lt_irrefl D (Nat.lt_trans hDC (hD ▸ hfp C hm))
  have hD₀ : h₀.get? D = none := Heap.get?_none_of_le (Nat.le_trans F.above (Nat.le_of_lt hLD))
  have hC₀ : h₀.get? C = none := Heap.get?_none_of_le (Nat.le_trans F.above (Nat.le_of_lt (Nat.lt_trans hLD hDC)))
  have hnD : ∀ p ∈ news, p.1 < D := fun p hp => hD ▸ Heap.lt_size (N p hp).1
  have hwC : C ∉ wr := fun h => hCf (W.sub _ h)
  have hwD : D ∉ wr := fun h => hDf (W.sub _ h)
  have loop : ∀ s₃ : Shared, s₃ = { s₂ with heap := h₁, toks := s₂.toks + ([] : List (Str × Value)).length } →
      codeAny (model prog w) A (.compLoop (.ListComp elt [⟨target, iter, [], 0⟩] scope pos) 0 (.ref I) (.ref D) (compEnvC scope cl C env))
        (compPost (model prog w) A E (some (assign (.Name y py) env)) (fun _ s' => Q .next s') (.ref D) C) s₃ := by
    rintro s₃ rfl
    refine kcp_loop (fun k s' => ∃ h' tk i ys m', s' = { s₂ with heap := h', toks := tk } ∧ i ≤ n ∧ k = n + 1 - i ∧ ys.length = i ∧ (∀ i yv, ys[i]? = some yv → G i yv) ∧ St i h' ∧ Fr h₀ env.locals h' m ∧ h'.Ns C m' ∧ News h₀ env.locals h' ((D, LCg.lst ys) :: news)) ?_ (n + 1)
      ⟨h₁, _, 0, [], _, rfl, Nat.zero_le _, rfl, rfl, fun i yv e => by simp at e, W.frame _ _ _ hst fun b _ o e => old b o e, F.keeps old, hns₁, List.forall_mem_cons.mpr ⟨⟨hacc, Nat.ne_of_gt hLD, hD₀⟩, fun p hp => ⟨old _ _ (N p hp).1, (N p hp).2⟩⟩⟩
    rintro k s' ⟨h', tk, i, ys, m', rfl, hi, rfl, hyl, hG, hst', F', hn', N'⟩
    have frW : ∀ {h'' : Heap}, (∀ b o, b ∉ wr → h'.get? b = some o → h''.get? b = some o) → Fr h₀ env.locals h'' m := fun hk => ⟨F'.ns.at' fun o e => hk _ o hLw e, fun b o e => hk b o (fun hb => by rw [h0w b hb] at e; cases e) (F'.keep b o e), F'.above⟩
    have offD : ∀ p ∈ (D, LCg.lst ys) :: news, p.1 ∉ wr := List.forall_mem_cons.mpr ⟨hwD, hnw⟩
    rcases Nat.eq_or_lt_of_le hi with rfl | hlt
    · refine W.done _ _ _ hst' fun h₂ tk₂ hk₂ => ?_
      have F₂ := frW hk₂
      have N₂ : News h₀ env.locals h₂ ((D, LCg.lst ys) :: news) := fun p hp => ⟨hk₂ _ _ (offD p hp) (N' p hp).1, (N' p hp).2⟩
      show wpAny _ A (assign (.Name y py) env (.ref D)) _ _ _
      refine wpAny_assign_Name (wpAny_storeName_local hy F₂.ns (fun h₃ hn₃ hs₃ => ?_) hp)
      have hL₀ : h₀.get? env.locals = none := Heap.get?_none_of_le F'.above
      have F₃ : Fr h₀ env.locals h₃ (fun z => if z = y then some (.ref D) else m z) := ⟨hn₃, fun b o e => hs₃.extBut b o (fun q => by rw [q, hL₀] at e; cases e) (F₂.keep b o e), F'.above⟩
      have hCL : C ≠ env.locals := Nat.ne_of_gt (Nat.lt_trans hLD hDC)
      have hnC : h₂.Ns C m' := hn'.at' fun o e => hk₂ C o hwC e
      refine ⟨m', hnC.sameBut hs₃ hCL, fun h'' hs'' => hdone D ys h'' _ hyl hG (F₃.change hs'' hCL hC₀) (fun p hp => ?_) hnD⟩
      have z : h₃.get? p.1 = some p.2 := hs₃.extBut _ _ (N₂ p hp).2.1 (N₂ p hp).1
      refine ⟨hs''.extBut _ _ ?_ z, (N₂ p hp).2⟩
      rcases List.mem_cons.mp hp with rfl | hp
      · exact Nat.ne_of_lt hDC
      · exact Nat.ne_of_lt (Nat.lt_trans (hnD p hp) hDC)
    · refine W.step cl env C i _ m' _ _ _ hCf hlt hst' hn' fun h₂ tk₂ m₂ hst₂ hn₂ hP₂ hk₂ => ?_
      have hCL : C ≠ env.locals := Nat.ne_of_gt (Nat.lt_trans hLD hDC)
      have F₂ : Fr h₀ env.locals h₂ m := ⟨F'.ns.at' fun o e => hk₂ _ o hCL.symm hLw e, fun b o e => hk₂ b o (fun hb => by rw [hb, hC₀] at e; cases e) (fun hb => by rw [h0w b hb] at e; cases e) (F'.keep b o e), F'.above⟩
      have N₂ : News h₀ env.locals h₂ ((D, LCg.lst ys) :: news) := fun p hp => by
        refine ⟨hk₂ _ _ ?_ (offD p hp) (N' p hp).1, (N' p hp).2⟩
        rcases List.mem_cons.mp hp with rfl | hp
        · exact Nat.ne_of_lt hDC
        · exact Nat.ne_of_lt (Nat.lt_trans (hnD p hp) hDC)
      obtain ⟨oC, heC, hoC⟩ := LCg.ns_obj hn₂
      refine wpAny_mono (helt i C oC m₂ h₂ tk₂ _ hlt hoC hP₂ F₂ (List.forall_mem_cons.mpr ⟨⟨heC, hCL, hC₀⟩, fun p hp => N₂ p (.tail _ hp)⟩) (fun p hp => Nat.ne_of_lt (Nat.lt_trans (hnD p hp) hDC))) (fun yv s₄ h₄ => ?_) fun _ _ e => e
      obtain ⟨⟨tk₄, rfl⟩, hGy⟩ := h₄
      have zD := (N₂ (D, LCg.lst ys) (.head _)).1
      refine append_at (hsz := by show ys.toArray.size ≤ sizeLine; rw [List.size_toArray, hyl]; exact Nat.le_trans hi hsz) zD fun h₅ hs₅ hD₅ => ?_
      refine ⟨n + 1 - (i + 1), wDec (by first | assumption | exact Nat.le_of_lt (by assumption)), h₅, tk₄, i + 1, ys ++ [yv], m₂, rfl, hlt, rfl, by rw [List.length_append, List.length_singleton, hyl], ?_, W.frame _ _ _ hst₂ fun b hb o e => hs₅.extBut b o (fun q => hDf (q ▸ hb)) e, F₂.change hs₅ (Nat.ne_of_gt hLD) hD₀, hn₂.sameBut hs₅ (Nat.ne_of_gt hDC), fun p hp => ?_⟩
      · intro j yj hj
        rcases Nat.lt_or_ge j ys.length with hjl | hjl
        · rw [List.getElem?_append_left hjl] at hj
          exact hG j yj hj
        · rw [List.getElem?_append_right hjl] at hj
          have hj0 : j - ys.length = 0 := by
            rcases hq : j - ys.length with _ | q
            · rfl
            · rw [hq] at hj; simp at hj
          rw [hj0] at hj
          have : j = i := by omega
          subst this
          cases hj
          exact hGy
      · rcases List.mem_cons.mp hp with rfl | hp
        · exact ⟨hD₅.trans (congrArg some (LCg.lst_snoc ys yv)), Nat.ne_of_gt hLD, hD₀⟩
        · exact ⟨hs₅.extBut _ _ (Nat.ne_of_lt (hnD p hp)) (N₂ p (.tail _ hp)).1, (N₂ p (.tail _ hp)).2⟩
  exact codeAny_compStart_list (loop _ rfl) (W.self _ _ _ (W.frame _ _ _ hst fun b _ o e => old b o e) (loop _ rfl))
theorem ownOf {h : Heap} : ∀ (fp : List Addr), (∀ b ∈ fp, ∃ o, h.get? b = some o) → ∃ own : List (Addr × Obj), own.map (·.1) = fp ∧ ∀ p ∈ own, h.get? p.1 = some p.2
  | [], _ => ⟨[], rfl, fun _ hp => nomatch hp⟩
  | b :: r, hx => by
    obtain ⟨o, ho⟩ := hx b (.head _)
    obtain ⟨own, h1, h2⟩ := ownOf r fun c hc => hx c (.tail _ hc)
    exact ⟨(b, o) :: own, by rw [List.map_cons, h1], List.forall_mem_cons.mpr ⟨ho, h2⟩⟩
theorem compGrow {prog : Program} {w : World} {A : Around} {E : Value → Shared → Prop} {s : Shared} {env : Env} {h₀ : Heap} {m : Str → Option Value} {elt target iter : Expr} {y : Str} {py : Pos} {scope : Scope} {cl : List (Str × Addr)} {pos spos : Pos} {Q : Flow → Shared → Prop}
    (F00 : Fr h₀ env.locals s.heap m) (hsw : swapsWith (.ListComp elt [⟨target, iter, [], 0⟩] scope pos) (some (.Name y py)) spos.line env = pure true)
    (hclos : closureFor scope env = pure cl) (hcell : ∀ z ∈ scope.names, z.2 ≠ .cell) (hkind : scope.kind = .function)
    (hnames : ∀ z ∈ scope.names, z.2 = .local → scope.names.lookup z.1 = some .local)
    (hy : env.kindOf y = some .local) (hp : (env.scope.kind == .class || (env.scope.kind == .module && env.locals != env.globals)) = false)
    (hs : ∀ x, foldedSetIterable iter env x = pure x)
    (h : wpAny (model prog w) A (eval iter env) (fun xv s₁ => wpAny (model prog w) A (pyIter xv) (fun itv s₂ => ∃ (I : Addr) (fp wr : List Addr) (n : Nat) (St : Nat → Heap → Prop) (Pm : Nat → (Str → Option Value) → Prop) (G : Nat → Value → Prop) (news : List (Addr × Obj)),
      itv = .ref I ∧ CSrc prog w A target I fp wr n St scope Pm ∧ n ≤ sizeLine ∧ St 0 s₂.heap ∧ (∀ b ∈ fp, b < s₂.heap.objs.size) ∧ Fr h₀ env.locals s₂.heap m ∧ News h₀ env.locals s₂.heap news ∧ (∀ p ∈ news, p.1 ∉ wr) ∧ env.locals ∉ fp ∧ (∀ b ∈ fp, h₀.get? b = none) ∧
      (∀ i C oC D ys own m₂ h tk (E' : Value → Shared → Prop), i < n → LCg.NsObj oC m₂ → Pm i m₂ → own.map (·.1) = fp → Fr h₀ env.locals h m → News h₀ env.locals h ((C, oC) :: (D, LCg.lst ys) :: (own ++ news)) → (∀ p ∈ (D, LCg.lst ys) :: (own ++ news), p.1 < C) →
        wpAny (model prog w) A (eval elt (compEnvC scope cl C env)) (fun yv s' => (∃ h' tk', s' = { s₂ with heap := h', toks := tk' } ∧ Fr h₀ env.locals h' m ∧ News h₀ env.locals h' ((C, oC) :: (D, LCg.lst ys) :: (own ++ news))) ∧ G i yv) E' { s₂ with heap := h, toks := tk }) ∧
      (∀ D ys h tk, ys.length = n → (∀ i yv, ys[i]? = some yv → G i yv) → Fr h₀ env.locals h (fun z => if z = y then some (.ref D) else m z) → News h₀ env.locals h ((D, LCg.lst ys) :: news) → (∀ p ∈ news, p.1 < D) → Q .next { s₂ with heap := h, toks := tk })) E s₁) E s) :
    wpAny (model prog w) A (exec (.Assign [.Name y py] (.ListComp elt [⟨target, iter, [], 0⟩] scope pos) spos) env) Q E s := by
  rw [exec_Assign_Name_used _ _ _ _ hsw]
  refine wpAny_bind (wpAny_standAt (wpAny_bind ?_))
  show wpAny _ A (do let _ ← comprehension (.ListComp elt [⟨target, iter, [], 0⟩] scope pos) scope env _ (newList []) false (eval iter env) (some (assign (.Name y py) env))) _ _ s
  refine wpAny_bind (wpAny_mono (wpAny_comprehension_free (use := some (assign (.Name y py) env)) (Q := fun _ s' => Q .next s') rfl hs hclos hkind hnames
    (wpAny_mono h (fun xv s₁ h₁ => wpAny_mono h₁ (fun itv s₂ h₂ => ?_) fun _ _ e => e) fun _ _ e => e)) (fun _ s' hq => wpAny_pure (wpAny_pure hq)) fun _ _ e => e)
  obtain ⟨I, fp, wr, n, St, Pm, G, news, rfl, W, hsz, hst, hfp, F, N, hnw, hLf, h0f, helt, hdone⟩ := h₂
  have hLw : env.locals ∉ wr := fun hm => hLf (W.sub _ hm)
  have h0w : ∀ b ∈ wr, h₀.get? b = none := fun b hb => h0f b (W.sub b hb)
  refine wpAny_newObj_type (wpAny_newFunctionEnv hcell (by intro y hy; simp at hy) (fun h₁ hns₁ hsb₁ => ?_) hkind)
  dsimp only at hns₁ hsb₁ ⊢
  generalize hH2 : s₂.heap.push { cls := .type "list", dict := none, data := .seq ([] : List Value).toArray } = H2 at hns₁ hsb₁ ⊢
  obtain ⟨D, hD⟩ : ∃ D, s₂.heap.objs.size = D := ⟨_, rfl⟩
  obtain ⟨C, hC⟩ : ∃ C, H2.objs.size = C := ⟨_, rfl⟩
  have hCD : C = D + 1 := by rw [← hC, ← hH2, Heap.size_push, hD]
  rw [hC] at hns₁ hsb₁ ⊢
  rw [hD]
  have hDC : @LT.lt Nat _ D C := hCD ▸ Nat.lt_succ_self D
  have hLD : @LT.lt Nat _ env.locals D := hD ▸ F.ns.lt
  have old : ∀ b o, s₂.heap.get? b = some o → h₁.get? b = some o := fun b o e => hsb₁.extBut b o (Nat.ne_of_lt (Nat.lt_trans (hD ▸ Heap.lt_size e) hDC)) (Heap.get?_push_of_some _ (hH2 ▸ Heap.get?_push_of_some _ e))
  have hacc : h₁.get? D = some (LCg.lst []) := hsb₁.extBut _ _ (Nat.ne_of_lt hDC) (Heap.get?_push_of_some _ (hH2 ▸ (by rw [← hD]; exact Heap.get?_push_size _ rfl)))
  have hDf : D ∉ fp := fun hm => Nat.lt_irrefl D (hD ▸ hfp D hm)
  have hCf : C ∉ fp := fun hm => Nat.lt_irrefl D (Nat.lt_trans hDC (hD ▸ hfp C hm))
  have hD₀ : h₀.get? D = none := Heap.get?_none_of_le (Nat.le_trans F.above (Nat.le_of_lt hLD))
  have hC₀ : h₀.get? C = none := Heap.get?_none_of_le (Nat.le_trans F.above (Nat.le_of_lt (Nat.lt_trans hLD hDC)))
  have hnD : ∀ p ∈ news, p.1 < D := fun p hp => hD ▸ Heap.lt_size (N p hp).1
  have hwC : C ∉ wr := fun h => hCf (W.sub _ h)
  have hwD : D ∉ wr := fun h => hDf (W.sub _ h)
  have loop : ∀ s₃ : Shared, s₃ = { s₂ with heap := h₁, toks := s₂.toks + ([] : List (Str × Value)).length } →
      codeAny (model prog w) A (.compLoop (.ListComp elt [⟨target, iter, [], 0⟩] scope pos) 0 (.ref I) (.ref D) (compEnvC scope cl C env))
        (compPost (model prog w) A E (some (assign (.Name y py) env)) (fun _ s' => Q .next s') (.ref D) C) s₃ := by
    rintro s₃ rfl
    refine kcp_loop (fun k s' => ∃ h' tk i ys m', s' = { s₂ with heap := h', toks := tk } ∧ i ≤ n ∧ k = n + 1 - i ∧ ys.length = i ∧ (∀ i yv, ys[i]? = some yv → G i yv) ∧ St i h' ∧ Fr h₀ env.locals h' m ∧ h'.Ns C m' ∧ News h₀ env.locals h' ((D, LCg.lst ys) :: news)) ?_ (n + 1)
      ⟨h₁, _, 0, [], _, rfl, Nat.zero_le _, rfl, rfl, fun i yv e => by simp at e, W.frame _ _ _ hst fun b _ o e => old b o e, F.keeps old, hns₁, List.forall_mem_cons.mpr ⟨⟨hacc, Nat.ne_of_gt hLD, hD₀⟩, fun p hp => ⟨old _ _ (N p hp).1, (N p hp).2⟩⟩⟩
    rintro k s' ⟨h', tk, i, ys, m', rfl, hi, rfl, hyl, hG, hst', F', hn', N'⟩
    have frW : ∀ {h'' : Heap}, (∀ b o, b ∉ wr → h'.get? b = some o → h''.get? b = some o) → Fr h₀ env.locals h'' m := fun hk => ⟨F'.ns.at' fun o e => hk _ o hLw e, fun b o e => hk b o (fun hb => by rw [h0w b hb] at e; cases e) (F'.keep b o e), F'.above⟩
    have offD : ∀ p ∈ (D, LCg.lst ys) :: news, p.1 ∉ wr := List.forall_mem_cons.mpr ⟨hwD, hnw⟩
    rcases Nat.eq_or_lt_of_le hi with rfl | hlt
    · refine W.done _ _ _ hst' fun h₂ tk₂ hk₂ => ?_
      have F₂ := frW hk₂
      have N₂ : News h₀ env.locals h₂ ((D, LCg.lst ys) :: news) := fun p hp => ⟨hk₂ _ _ (offD p hp) (N' p hp).1, (N' p hp).2⟩
      show wpAny _ A (assign (.Name y py) env (.ref D)) _ _ _
      refine wpAny_assign_Name (wpAny_storeName_local hy F₂.ns (fun h₃ hn₃ hs₃ => ?_) hp)
      have hL₀ : h₀.get? env.locals = none := Heap.get?_none_of_le F'.above
      have F₃ : Fr h₀ env.locals h₃ (fun z => if z = y then some (.ref D) else m z) := ⟨hn₃, fun b o e => hs₃.extBut b o (fun q => by rw [q, hL₀] at e; cases e) (F₂.keep b o e), F'.above⟩
      have hCL : C ≠ env.locals := Nat.ne_of_gt (Nat.lt_trans hLD hDC)
      have hnC : h₂.Ns C m' := hn'.at' fun o e => hk₂ C o hwC e
      refine ⟨m', hnC.sameBut hs₃ hCL, fun h'' hs'' => hdone D ys h'' _ hyl hG (F₃.change hs'' hCL hC₀) (fun p hp => ?_) hnD⟩
      have z : h₃.get? p.1 = some p.2 := hs₃.extBut _ _ (N₂ p hp).2.1 (N₂ p hp).1
      refine ⟨hs''.extBut _ _ ?_ z, (N₂ p hp).2⟩
      rcases List.mem_cons.mp hp with rfl | hp
      · exact Nat.ne_of_lt hDC
      · exact Nat.ne_of_lt (Nat.lt_trans (hnD p hp) hDC)
    · refine W.step cl env C i _ m' _ _ _ hCf hlt hst' hn' fun h₂ tk₂ m₂ hst₂ hn₂ hP₂ hk₂ => ?_
      have hCL : C ≠ env.locals := Nat.ne_of_gt (Nat.lt_trans hLD hDC)
      have F₂ : Fr h₀ env.locals h₂ m := ⟨F'.ns.at' fun o e => hk₂ _ o hCL.symm hLw e, fun b o e => hk₂ b o (fun hb => by rw [hb, hC₀] at e; cases e) (fun hb => by rw [h0w b hb] at e; cases e) (F'.keep b o e), F'.above⟩
      have N₂ : News h₀ env.locals h₂ ((D, LCg.lst ys) :: news) := fun p hp => by
        refine ⟨hk₂ _ _ ?_ (offD p hp) (N' p hp).1, (N' p hp).2⟩
        rcases List.mem_cons.mp hp with rfl | hp
        · exact Nat.ne_of_lt hDC
        · exact Nat.ne_of_lt (Nat.lt_trans (hnD p hp) hDC)
      obtain ⟨oC, heC, hoC⟩ := LCg.ns_obj hn₂
      obtain ⟨own, hown, hget⟩ := ownOf fp (W.has _ _ hst₂)
      have Nown : News h₀ env.locals h₂ (own ++ news) := fun p hp => by
        rcases List.mem_append.mp hp with hp | hp
        · have hb : p.1 ∈ fp := hown ▸ List.mem_map_of_mem hp
          exact ⟨hget p hp, fun q => hLf (q ▸ hb), h0f _ hb⟩
        · exact N₂ p (.tail _ hp)
      have hownD : ∀ p ∈ own ++ news, @LT.lt Nat _ p.1 D := fun p hp => by
        rcases List.mem_append.mp hp with hp | hp
        · exact hD ▸ hfp _ (hown ▸ List.mem_map_of_mem hp)
        · exact hnD p hp
      refine wpAny_mono (helt i C oC D ys own m₂ h₂ tk₂ _ hlt hoC hP₂ hown F₂ (List.forall_mem_cons.mpr ⟨⟨heC, hCL, hC₀⟩, List.forall_mem_cons.mpr ⟨N₂ _ (.head _), Nown⟩⟩) (List.forall_mem_cons.mpr ⟨hDC, fun p hp => Nat.lt_trans (hownD p hp) hDC⟩)) (fun yv s₄ h₄ => ?_) fun _ _ e => e
      obtain ⟨⟨h₄, tk₄, rfl, F₄, N₄⟩, hGy⟩ := h₄
      have zD := (N₄ (D, LCg.lst ys) (.tail _ (.head _))).1
      have zC := (N₄ (C, oC) (.head _)).1
      have hst₄ : St (i + 1) h₄ := W.frame _ _ _ hst₂ fun b hb o e => by
        obtain ⟨p, hp, rfl⟩ := List.mem_map.mp (hown.symm ▸ hb : b ∈ own.map (·.1))
        have e2 := hget p hp
        rw [e2] at e
        cases e
        exact (N₄ p (.tail _ (.tail _ (List.mem_append.mpr (.inl hp))))).1
      refine append_at (hsz := by show ys.toArray.size ≤ sizeLine; rw [List.size_toArray, hyl]; exact Nat.le_trans hi hsz) zD fun h₅ hs₅ hD₅ => ?_
      refine ⟨n + 1 - (i + 1), wDec (by first | assumption | exact Nat.le_of_lt (by assumption)), h₅, tk₄, i + 1, ys ++ [yv], m₂, rfl, hlt, rfl, by rw [List.length_append, List.length_singleton, hyl], ?_, W.frame _ _ _ hst₄ fun b hb o e => hs₅.extBut b o (fun q => hDf (q ▸ hb)) e, F₄.change hs₅ (Nat.ne_of_gt hLD) hD₀, (hoC.ns zC).sameBut hs₅ (Nat.ne_of_gt hDC), fun p hp => ?_⟩
      · intro j yj hj
        rcases Nat.lt_or_ge j ys.length with hjl | hjl
        · rw [List.getElem?_append_left hjl] at hj
          exact hG j yj hj
        · rw [List.getElem?_append_right hjl] at hj
          have hj0 : j - ys.length = 0 := by
            rcases hq : j - ys.length with _ | q
            · rfl
            · rw [hq] at hj; simp at hj
          rw [hj0] at hj
          have : j = i := by omega
          subst this
          cases hj
          exact hGy
      · rcases List.mem_cons.mp hp with rfl | hp
        · exact ⟨hD₅.trans (congrArg some (LCg.lst_snoc ys yv)), Nat.ne_of_gt hLD, hD₀⟩
        · exact ⟨hs₅.extBut _ _ (Nat.ne_of_lt (hnD p hp)) (N₄ p (.tail _ (.tail _ (List.mem_append.mpr (.inr hp))))).1, (N₂ p (.tail _ hp)).2⟩
  exact codeAny_compStart_list (loop _ rfl) (W.self _ _ _ (W.frame _ _ _ hst fun b _ o e => old b o e) (loop _ rfl))
theorem cnt_wl (c : Nat) : ∀ wl : List Nat, cnt c wl = ((wl.count c : Nat) : Int)
  | [] => rfl
  | n :: r => by
    rw [List.count_cons]
    have h := cnt_wl c r
    rw [cnt_cons, h]
    by_cases hn : n = c
    · subst hn
      simp
      omega
    · simp [hn]
theorem count_ofL (wl : List Nat) (c : Nat) : Txt.count (ofL wl) ⟨#[c]⟩ = ((wl.count c : Nat) : Int) := by
  rw [count_cnt]
  exact cnt_wl c wl
theorem qTxt_of : ∀ q, q ≤ 7 → Txt.mul (Str.ofString "\"") ((q : Nat) : Int) ++ Str.ofString "(\"" = ofL (List.replicate q 34 ++ [40, 34]) := by decide +kernel
theorem zipFp {h : Heap} {z TI TO i1 i2 l1 l2 : Addr} {a b : Nat} {xs ys : Array Value} (x : IsZip h z TI TO .none ∧ IsPair h TI (.ref i1) (.ref i2) ∧ (∃ a b, IsPair h TO a b) ∧ h.IsListIter i1 l1 a ∧ h.IsListIter i2 l2 b ∧ h.IsList l1 xs ∧ h.IsList l2 ys) :
    ∀ b ∈ [z, TI, TO, i1, i2, l1, l2], b < h.objs.size := fun b hb => Heap.lt_size (zipHas x b hb).choose_spec
theorem four {P : Addr → Prop} {z a b c : Addr} (h1 : P z) (h2 : P a) (h3 : P b) (h4 : P c) : ∀ x ∈ [z, a, b, c], P x := List.forall_mem_cons.mpr ⟨h1, List.forall_mem_cons.mpr ⟨h2, List.forall_mem_cons.mpr ⟨h3, List.forall_mem_cons.mpr ⟨h4, fun _ hb => nomatch hb⟩⟩⟩⟩
end Mine
set_option maxRecDepth 100000
namespace Mine
theorem owner_rep : Manifest.owners.lookup (String.ofList ['n', 'r', 'e', 't', 't', 'a', 'P', '.', 'e', 'r'].reverse) = some Manifest.sig_re_Pattern := by kernel_rfl
theorem slot_rsearch : Slot "re.Pattern" "search" "re.Pattern.search" :=
  .of (owner := "re.Pattern") (n := "search") (by rw [typeLookup_type, builtinLookup_eq_fast]; kernel_rfl) (by decide +kernel) (by decide +kernel) (by decide +kernel)
    (by first | exact .inl (by decide +kernel) | exact .inr (by decide +kernel)) (by rw [isSubtype_type]; kernel_rfl)
theorem type_rsearch : typeOf (.builtin "re.Pattern.search") = pure (.type "method_descriptor") := by show builtinType _ = _; rw [builtinType_eq_fast]; kernel_rfl
theorem entry_rsearch : entryFor table "re.Pattern.search" = some Builtin.«re.Pattern.search» := entryFor_of_tree (by kernel_rfl)
theorem args_rsearch (a b : Value) : argsOk "re.Pattern.search" ⟨[a, b], []⟩ := by
  unfold argsOk; rw [signature?_of (id := "re.Pattern.search") (n := ['h', 'c', 'r', 'a', 'e', 's']) (o := ['n', 'r', 'e', 't', 't', 'a', 'P', '.', 'e', 'r']) (by kernel_rfl) owner_rep]; kernel_rfl
open PySem.Builtin.Re in
theorem reRun {M : Model} {A : Around} {E : Value → Shared → Prop} {s : Shared} {m : Sre.M} {Q : Option Sre.M → Shared → Prop} (h : (m.runFor 4).outcome = some .failed) (hq : Q none s) : wpAny M A (reRunToEnd m) Q E s := by
  unfold reRunToEnd
  have e : ∀ n, reDrive (n + 1) m = pure (m.runFor 4) := fun n => by
    rw [reDrive]
    simp [reTurnSteps, h]
  obtain ⟨n, hn⟩ : ∃ n, 2 ^ 64 = n + 1 := ⟨18446744073709551615, by decide⟩
  rw [hn, e]
  refine wpAny_bind (wpAny_pure ?_)
  refine wpAny_bind ?_
  refine wpAny_forIn_list _ (fun _ _ s' => s' = s) _ ?_ ?_ _ _ rfl
  · rintro i rest u s' rfl
    split
    · exact wpAny_bind (wpAny_rule (wpAny_pure rfl))
    · exact wpAny_pure rfl
  · rintro u s' rfl
    rw [h]
    exact wpAny_pure hq
open PySem.Builtin.Re in
theorem reNone {M : Model} {A : Around} {E : Value → Shared → Prop} {s : Shared} {P c : Addr} {oP oc : Obj} {fv : Array Value} {cds : Array Value} {n : Nat} {x : Str} {t : Tok} {Q : Fin → Shared → Prop}
    (hP : s.heap.get? P = some oP) (hPd : oP.data = .fields fv) (h2 : fv.getD 2 .none = .int 0 0) (h5 : fv.getD 5 .none = .ref c) (h6 : fv.getD 6 .none = .int 0 0) (hc : s.heap.get? c = some oc) (hcd : oc.data = .seq cds n)
    (hrun : ((Sre.forSearch ((cds.map reRawOf).map (·.toNat)) x.cps 0 0 (min (2 ^ 63 - 1 : Int).toNat x.cps.size) false).runFor 4).outcome = some .failed) (hq : Q (.done (.ret .none)) s) :
    wpAny M A (Builtin.«re.Pattern.search» ⟨[.ref P, .str x t], []⟩) Q E s := by
  unfold Builtin.«re.Pattern.search» reTarget
  refine wpAny_bind ?_
  dsimp only
  refine wpAny_bind (wpAny_of_eq (a := [some (.str x t), none, none]) (by rfl) ?_)
  dsimp only
  refine wpAny_bind (wpAny_pure ?_)
  refine wpAny_bind (wpAny_pure ?_)
  refine wpAny_bind (wpAny_fieldsOf hP hPd ?_)
  refine wpAny_bind (wpAny_of_eq (a := (x.cps, 0)) (by rfl) ?_)
  dsimp only
  rw [h6, h5, h2]
  refine wpAny_bind (wpAny_of_eq (a := ()) (by rfl) ?_)
  refine wpAny_bind (m := reRawItems _) ?_
  unfold reRawItems
  refine wpAny_bind (wpAny_seqItems hc hcd (wpAny_pure ?_))
  refine wpAny_pure ?_
  unfold reAnswer
  dsimp only
  refine wpAny_bind (reRun ?_ (wpAny_pure hq))
  exact hrun
theorem plainAttrs_rep : PlainAttrs "re.Pattern" :=
  ⟨⟨"object.__getattribute__", by rw [typeLookup_type, builtinLookup_eq_fast]; kernel_rfl, by decide +kernel⟩, by rw [typeLookup_type, builtinLookup_eq_fast]; kernel_rfl⟩
noncomputable def reC1 : Array Nat := #[14, 10, 4, 1, 1, 22, 0, 31, 16, 127, 0, 13, 7, 22, 0, 31, 16, 127, 0, 1]
noncomputable def reC2 : Array Nat := #[14, 14, 4, 1, 1, 9, 4294966783, 0, 0, 2147483648, 0, 0, 0, 0, 0, 13, 11, 9, 4294966783, 0, 0, 2147483648, 0, 0, 0, 0, 0, 1]
noncomputable def reOk (b : Bool) (x : Str) : Prop := ((Sre.forSearch (if b = true then reC1 else reC2) x.cps 0 0 (min (2 ^ 63 - 1 : Int).toNat x.cps.size) false).runFor 4).outcome = some .failed
noncomputable def reFail : Option Sre.Outcome → Bool
  | some .failed => true
  | _ => false
theorem reFail_of {o : Option Sre.Outcome} (h : reFail o = true) : o = some .failed := by
  cases o with
  | none => cases h
  | some q => cases q <;> first | rfl | cases h
noncomputable def reOkB (b : Bool) (x : Str) : Bool := reFail ((Sre.forSearch (if b = true then reC1 else reC2) x.cps 0 0 (min (2 ^ 63 - 1 : Int).toNat x.cps.size) false).runFor 4).outcome
theorem reOk_of {b : Bool} {x : Str} (h : reOkB b x = true) : reOk b x := reFail_of h
theorem reOk_names : ∀ c ∈ [108, 109, 114, 76, 77, 82], reOk true (ofL [c]) := by
  have : ∀ c ∈ [108, 109, 114, 76, 77, 82], reOkB true (ofL [c]) = true := by decide +kernel
  exact fun c hc => reOk_of (this c hc)
theorem reOk_disks : ∀ c, c < 10 → reOk false (ofL [48 + c]) := by
  have : ∀ c, c < 10 → reOkB false (ofL [48 + c]) = true := by decide +kernel
  exact fun c hc => reOk_of (this c hc)
section
variable {K : Frag} {w : World} {A : Around} {E : Value → Shared → Prop} {s : Shared} {h₀ : Heap} {L : Addr} {m : Str → Option Value} {P c : Addr} {oP oc : Obj} {fv cds : Array Value} {n : Nat} {x : Str} {t : Tok} {prog : Program}
theorem getSearch {pl : Sem Bool} {Q : Value × List Value → Shared → Prop} (F : Fr h₀ L s.heap m) (X : K.In h₀) (hl : K.lookup P = some oP) (hcl : oP.cls = .type "re.Pattern") (hdi : oP.dict = none) (h : Q (.builtin "re.Pattern.search", [.ref P]) s) :
    wpAny (model prog w) A (getMethod (.ref P) (Str.ofString "search") pl) Q E s :=
  getMethod_builtin ⟨_, X.keeps F.keep _ _ hl, hcl⟩ plainAttrs_rep slot_rsearch type_rsearch (fun a e => by cases e; exact ⟨_, X.keeps F.keep _ _ hl, hdi⟩) h
theorem callSearch {Q : Value → Shared → Prop} (F : Fr h₀ L s.heap m) (X : K.In h₀) (hl : K.lookup P = some oP) (hcl : oP.cls = .type "re.Pattern") (hPd : oP.data = .fields fv) (h2 : fv.getD 2 .none = .int 0 0) (h5 : fv.getD 5 .none = .ref c) (h6 : fv.getD 6 .none = .int 0 0) (hc : K.lookup c = some oc) (hcd : oc.data = .seq cds n) {b : Bool} (hC : (cds.map Builtin.Re.reRawOf).map (·.toNat) = if b = true then reC1 else reC2) (hrun : reOk b x) (h : Q .none s) :
    wpAny (model prog w) A (call (.builtin "re.Pattern.search") [.ref P, .str x t]) Q E s :=
  wpAny_call_entry slot_rsearch ⟨_, X.keeps F.keep _ _ hl, hcl⟩ entry_rsearch (reNone (X.keeps F.keep _ _ hl) hPd h2 h5 h6 (X.keeps F.keep _ _ hc) hcd (by rw [hC]; exact hrun) ⟨_, rfl, h⟩) (args_rsearch _ _)
end
end Mine
set_option maxRecDepth 100000
namespace Mine
noncomputable abbrev CallsK (w : World) (K : Frag) (p : Program) (loose : List Str) (mean : ExcName → Option Value) (mg mb : Str → Option Value) (f : Addr) (D U : Nat) (news : List (Addr × Obj)) (vs : List Value) (kw : List (Str × Value))
    (Ret : Heap → Addr → (Str → Option Value) → Shared → (Value → Shared → Prop) → Prop) (prog : Program) : Prop :=
  ∀ (dp un : Nat) (gd : Option (List Code)) (cn : Str) (cs : Scope) (a : Addr) (ccd : Value) (cl : List (Str × Addr)) (outer : List Env) (A₀ : Around) (base h₀ : Heap) (L : Addr) (m : Str → Option Value) (s : Shared) (Q E : Value → Shared → Prop),
    Below A₀ base outer h₀ → Fr h₀ L s.heap m → K.In h₀ → News h₀ L s.heap news → Top p loose mean mg mb h₀ → cs.kind = .function → dp + D < recursionLimit → un + U < cLine → Ret h₀ L m s Q →
    wpAny (model prog w) (ktrTop dp un gd cn cs L a ccd cl outer) (call (.ref f) vs kw) Q E s
theorem callsUseK {w : World} {K : Frag} {p : Program} {loose : List Str} {mean : ExcName → Option Value} {mg mb : Str → Option Value} {f : Addr} {D U : Nat} {news : List (Addr × Obj)} {vs : List Value} {kw : List (Str × Value)}
    {Ret : Heap → Addr → (Str → Option Value) → Shared → (Value → Shared → Prop) → Prop} {prog : Program} {dp un : Nat} {gd : Option (List Code)} {cn : Str} {cs : Scope} {a : Addr} {ccd : Value} {cl : List (Str × Addr)} {outer : List Env} {A₀ : Around} {base h₀ : Heap} {L : Addr} {m : Str → Option Value} {s : Shared} {Q E : Value → Shared → Prop}
    (C : CallsK w K p loose mean mg mb f D U news vs kw Ret prog) (B : Below A₀ base outer h₀) (F : Fr h₀ L s.heap m) (X : K.In h₀) (N : News h₀ L s.heap news) (T : Top p loose mean mg mb h₀) (hk : cs.kind = .function) (hd : dp + D < recursionLimit) (hu : un + U < cLine) (hR : Ret h₀ L m s Q) :
    wpAny (model prog w) (ktrTop dp un gd cn cs L a ccd cl outer) (call (.ref f) vs kw) Q E s := C _ _ _ _ _ _ _ _ _ _ _ _ _ _ _ _ _ B F X N T hk hd hu hR
noncomputable def hdrDict (P : Params) (t : Tok) (l : Addr) : Obj := dictOf [{ hash := PyData.keyHash P (Str.ofString "_headers"), key := .str (Str.ofString "_headers") t, val := .ref l }] 1
noncomputable def tupE (od : Option Addr) (osl : Array (Option Value)) (n : Nat) (e : Nat × Nat) (t t' : Tok) : Obj := { cls := .type "tuple", dict := od, data := .seq #[.str (ofL [e.1]) t, .str (ofL [48 + e.2]) t'] n, slots := osl }
noncomputable def EntsAre (nx : List (Addr × Obj)) (vs : List Value) (es : List (Nat × Nat)) : Prop := vs.length = es.length ∧ ∀ (i : Nat) (e : Nat × Nat), es[i]? = some e → ∃ T od osl n t t', vs[i]? = some (.ref T) ∧ (T, tupE od osl n e t t') ∈ nx
theorem EntsAre.snoc {nx : List (Addr × Obj)} {vs : List Value} {es : List (Nat × Nat)} {D : Addr} {od : Option Addr} {osl : Array (Option Value)} {n : Nat} {e : Nat × Nat} {t t' : Tok} (h : EntsAre nx vs es) : EntsAre ((D, tupE od osl n e t t') :: nx) (vs ++ [.ref D]) (es ++ [e]) := by
  refine ⟨by rw [List.length_append, List.length_append, h.1]; rfl, ?_⟩
  intro i e' hi
  rcases Nat.lt_or_ge i es.length with hlt | hge
  · rw [List.getElem?_append_left hlt] at hi
    obtain ⟨T', od', osl', n', t3, t4, h1, h2⟩ := h.2 i e' hi
    exact ⟨T', od', osl', n', t3, t4, by rw [List.getElem?_append_left (by rw [h.1]; exact hlt)]; exact h1, .tail _ h2⟩
  · rw [List.getElem?_append_right hge] at hi
    have h0 : i - es.length = 0 := by
      rcases hq : i - es.length with _ | q
      · rfl
      · rw [hq] at hi; simp at hi
    rw [h0] at hi
    cases hi
    exact ⟨D, od, osl, n, t, t', by rw [List.getElem?_append_right (by rw [h.1]; exact hge), h.1, h0]; rfl, .head _⟩
theorem EntsAre.sub {nx nx' : List (Addr × Obj)} {vs : List Value} {es : List (Nat × Nat)} (h : EntsAre nx vs es) (hs : ∀ p ∈ nx, p ∈ nx') : EntsAre nx' vs es :=
  ⟨h.1, fun i e hi => let ⟨T, od, osl, n, t, t', h1, h2⟩ := h.2 i e hi; ⟨T, od, osl, n, t, t', h1, hs _ h2⟩⟩
noncomputable def lowC (c : Nat) : Nat := if c < 97 then c + 32 else c
noncomputable def upC (c : Nat) : Nat := if c < 97 then c else c - 32
noncomputable def pegC (c : Nat) : Prop := c ∈ [108, 109, 114, 76, 77, 82]
theorem put_eq {m : Str → Option Value} {k : Str} {v : Option Value} (e : m k = v) : m = fun y => if y = k then v else m y := funext fun y => by
  by_cases h : y = k
  · rw [if_pos h, h, e]
  · rw [if_neg h]
theorem news_dup {g h : Heap} {L : Addr} {l : List (Addr × Obj)} {x : Addr × Obj} (N : News g L h l) (hm : x ∈ l) : News g L h (x :: l) := news_sub N fun p hp => (List.mem_cons.mp hp).elim (fun e => e ▸ hm) id
theorem lowTxt {c : Nat} (h : pegC c) : Txt.lower (ofL [c]) = ofL [lowC c] := by
  have : ∀ c ∈ [108, 109, 114, 76, 77, 82], Txt.lower (ofL [c]) = ofL [lowC c] := by decide +kernel
  exact this c h
theorem upTxt {c : Nat} (h : pegC c) : Txt.upper (ofL [c]) = ofL [upC c] := by
  have : ∀ c ∈ [108, 109, 114, 76, 77, 82], Txt.upper (ofL [c]) = ofL [upC c] := by decide +kernel
  exact this c h
theorem lowPeg {c : Nat} (h : pegC c) : pegC (lowC c) := by
  have : ∀ c ∈ [108, 109, 114, 76, 77, 82], lowC c ∈ [108, 109, 114, 76, 77, 82] := by decide
  exact this c h
theorem upPeg {c : Nat} (h : pegC c) : pegC (upC c) := by
  have : ∀ c ∈ [108, 109, 114, 76, 77, 82], upC c ∈ [108, 109, 114, 76, 77, 82] := by decide
  exact this c h
theorem lowUp {c : Nat} (h : pegC c) : lowC (upC c) = lowC c := by
  have : ∀ c ∈ [108, 109, 114, 76, 77, 82], lowC (upC c) = lowC c := by decide
  exact this c h
noncomputable def findE (es : List (Nat × Nat)) (c : Nat) : Option (Nat × Nat) := es.find? fun e => lowC e.1 == lowC c
theorem findE_step {es : List (Nat × Nat)} {c i : Nat} {e : Nat × Nat} (he : es[i]? = some e) (h : findE (es.take i) c = none) : findE (es.take (i + 1)) c = if lowC e.1 = lowC c then some e else none := by
  unfold findE at *
  rw [List.take_add_one, he, List.find?_append, h]
  simp only [Option.toList, List.find?_cons, List.find?_nil, Option.none_or]
  by_cases hq : lowC e.1 = lowC c
  · rw [if_pos hq]; simp [hq]
  · rw [if_neg hq]
    have : (lowC e.1 == lowC c) = false := by simpa using hq
    rw [this]
theorem findE_pre {es : List (Nat × Nat)} {c i : Nat} {e : Nat × Nat} (h : findE (es.take i) c = some e) : findE es c = some e := by
  unfold findE at *
  rw [← List.take_append_drop i es, List.find?_append, h]
  rfl
noncomputable def ents (wl : List Nat) : Nat → List (Nat × Nat)
  | 0 => []
  | i + 1 => match wl[i]? with
    | none => ents wl i
    | some c => if (findE (ents wl i) (upC c)).isSome = true then ents wl i else ents wl i ++ [(upC c, i)]
theorem ents_step {wl : List Nat} {i c : Nat} (h : wl[i]? = some c) : ents wl (i + 1) = if (findE (ents wl i) (upC c)).isSome = true then ents wl i else ents wl i ++ [(upC c, i)] := by
  conv => lhs; unfold ents
  rw [h]
theorem ents_len (wl : List Nat) : ∀ i, (ents wl i).length ≤ i
  | 0 => Nat.le_refl _
  | i + 1 => by
    have := ents_len wl i
    unfold ents
    split
    · omega
    · split
      · omega
      · rw [List.length_append, List.length_singleton]; omega
theorem ents_peg {wl : List Nat} (hw : ∀ c ∈ wl, pegC c) : ∀ i, ∀ e ∈ ents wl i, pegC e.1
  | 0, _, h => nomatch h
  | i + 1, e, h => by
    unfold ents at h
    split at h
    · exact ents_peg hw i e h
    · rename_i c hc
      split at h
      · exact ents_peg hw i e h
      · rcases List.mem_append.mp h with h | h
        · exact ents_peg hw i e h
        · rw [List.mem_singleton.mp h]
          exact upPeg (hw c (List.mem_of_getElem? hc))
noncomputable def topAt : List Nat → Nat → Nat
  | [], _ => 0
  | c :: r, p => if c = p then 0 else topAt r p + 1
theorem topAt_get {p : Nat} : ∀ (wl : List Nat) (i : Nat), wl[i]? = some p → topAt wl p ≤ i
  | [], i, h => by simp at h
  | c :: r, i, h => by
    unfold topAt
    split
    · omega
    · rename_i hc
      cases i with
      | zero => simp at h; exact absurd h hc
      | succ i => exact Nat.succ_le_succ (topAt_get r i (by simpa using h))
theorem topAt_at {p : Nat} : ∀ (wl : List Nat), topAt wl p < wl.length → wl[topAt wl p]? = some p
  | [], h => by simp at h
  | c :: r, h => by
    unfold topAt at h ⊢
    split
    · rename_i hc; rw [hc]; rfl
    · rename_i hc
      rw [if_neg hc] at h
      rw [List.getElem?_cons_succ]
      exact topAt_at r (by simpa using h)
theorem topAt_le {p : Nat} : ∀ (wl : List Nat), topAt wl p ≤ wl.length
  | [] => Nat.le_refl _
  | c :: r => by
    unfold topAt
    split
    · exact Nat.zero_le _
    · exact Nat.succ_le_succ (topAt_le r)
theorem findE_low {es : List (Nat × Nat)} {c d : Nat} (h : lowC c = lowC d) : findE es c = findE es d := by unfold findE; rw [h]
theorem findE_ents {wl : List Nat} (hw : ∀ c ∈ wl, c ∈ [108, 109, 114]) {p : Nat} (hp : p ∈ [108, 109, 114]) : ∀ i, i ≤ wl.length → findE (ents wl i) p = if topAt wl p < i then some (upC p, topAt wl p) else none
  | 0, _ => by rw [if_neg (Nat.not_lt_zero _)]; rfl
  | i + 1, hi => by
    have ih := findE_ents hw hp i (by omega)
    have hc : wl[i]? = some wl[i] := List.getElem?_eq_getElem hi
    obtain ⟨c, hcd⟩ : ∃ c, wl[i] = c := ⟨_, rfl⟩
    rw [hcd] at hc
    have hcw := hw c (List.mem_of_getElem? hc)
    have lid : ∀ c ∈ [108, 109, 114], lowC c = c ∧ lowC (upC c) = c := by decide
    have hap : ∀ es : List (Nat × Nat), findE (es ++ [(upC c, i)]) p = (findE es p).or (if c = p then some (upC c, i) else none) := by
      intro es
      unfold findE
      rw [List.find?_append]
      congr 1
      rw [List.find?_cons]
      by_cases h : c = p
      · rw [if_pos h, (lid c hcw).2, (lid p hp).1, h, beq_self_eq_true]
      · rw [if_neg h, (lid c hcw).2, (lid p hp).1, beq_eq_false_iff_ne.mpr h]
        rfl
    rw [ents_step hc]
    by_cases h1 : topAt wl p < i
    · rw [if_pos h1] at ih
      have h9 : topAt wl p < i + 1 := by omega
      rw [if_pos h9]
      split
      · exact ih
      · rw [hap, ih]; rfl
    · rw [if_neg h1] at ih
      by_cases h2 : c = p
      · subst h2
        have h3 := topAt_get wl i hc
        have h4 : topAt wl c = i := by omega
        have hif : findE (ents wl i) (upC c) = none := by rw [findE_low ((lid c hp).2.trans (lid c hp).1.symm), ih]
        have h8 : topAt wl c < i + 1 := by omega
        rw [hif, if_pos h8, h4]
        show findE (ents wl i ++ [(upC c, i)]) c = _
        rw [hap, ih, if_pos rfl]
        rfl
      · have h5 : ¬ topAt wl p < i + 1 := fun h => by
          have h6 : topAt wl p = i := by omega
          have h7 := topAt_at (p := p) wl (by omega)
          rw [h6, hc] at h7
          exact h2 (Option.some.inj h7)
        rw [if_neg h5]
        split
        · exact ih
        · rw [hap, ih, if_neg h2]; rfl
theorem low_eq {c d : Nat} : (ofL [lowC c] == ofL [lowC d]) = decide (lowC c = lowC d) := by
  rw [ofL_beq]
  by_cases h : lowC c = lowC d
  · rw [h]; simp
  · simp [h]
noncomputable def pegI (c : Nat) : Nat := if c = 108 then 0 else if c = 109 then 1 else 2
noncomputable def inNu (sh mo lk nu : Int) : Nat → Int
  | 0 => nu
  | j + 1 => inNu sh mo lk nu j + sh + (if decide (Builtin.bitXor lk (j : Int) < mo) = true then 1 else 0)
noncomputable def nuRun (wl : List Nat) : Nat → Int × Int
  | 0 => (0, 0)
  | i + 1 => (inNu (3 ^ (wl.length - 1 - i) / 4) (3 ^ (wl.length - 1 - i) % 4) (nuRun wl i).2 (nuRun wl i).1 (pegI (wl.getD (wl.length - 1 - i) 0)), Builtin.bitXor (nuRun wl i).2 (pegI (wl.getD (wl.length - 1 - i) 0) : Int))
noncomputable def inLmr (c : Nat) : Prop := c = 108 ∨ c = 109 ∨ c = 114
noncomputable def faultOf (wl : List Nat) : Nat := wl.count 109 % 2 + 2 * (wl.count 114 % 2)
noncomputable def twoOf (f : Nat) : Nat × Nat := if f = 1 then (108, 109) else if f = 2 then (108, 114) else (109, 114)
noncomputable def mendL (wl : List Nat) : List Nat := if faultOf wl = 0 then wl else
  if topAt wl (twoOf (faultOf wl)).1 < topAt wl (twoOf (faultOf wl)).2 then wl.take (topAt wl (twoOf (faultOf wl)).1) ++ (twoOf (faultOf wl)).2 :: wl.drop (topAt wl (twoOf (faultOf wl)).1 + 1)
  else wl.take (topAt wl (twoOf (faultOf wl)).2) ++ (twoOf (faultOf wl)).1 :: wl.drop (topAt wl (twoOf (faultOf wl)).2 + 1)
theorem twoAt (f : Nat) (h1 : 1 ≤ f) (h3 : f ≤ 3) (t1 t2 t3 : Tok) : ∃ tt, [Value.str (Str.ofString "lm") t1, Value.str (Str.ofString "lr") t2, Value.str (Str.ofString "mr") t3][(((f : Nat) : Int) - 1).toNat]? = some (Value.str (ofL [(twoOf f).1, (twoOf f).2]) tt) := by
  have e1 : Str.ofString "lm" = ofL [108, 109] := by decide +kernel
  have e2 : Str.ofString "lr" = ofL [108, 114] := by decide +kernel
  have e3 : Str.ofString "mr" = ofL [109, 114] := by decide +kernel
  obtain rfl | rfl | rfl : f = 1 ∨ f = 2 ∨ f = 3 := by omega
  · exact ⟨t1, by rw [e1]; rfl⟩
  · exact ⟨t2, by rw [e2]; rfl⟩
  · exact ⟨t3, by rw [e3]; rfl⟩
theorem digBack : ∀ i, i < 10 → PySem.intText? (ofL [48 + i]) = some ((i : Nat) : Int) := by decide +kernel
noncomputable def finN (g : Array GenState) : Nat → Array GenState
  | 0 => g
  | k + 1 => (finN g k).push .finished
end Mine
set_option maxRecDepth 100000
namespace Mine
theorem CSrc.ofT {prog : Program} {w : World} {A : Around} {I : Addr} {fp wr : List Addr} {n : Nat} {Pt : Nat → Array Value → Prop} {St : Nat → Heap → Prop} {Mid : Nat → Addr → Heap → Prop} (W : WalksT prog w A I fp wr n Pt St Mid) (hPt : ∀ i vals, Pt i vals → ∃ x y, vals = #[x, y])
    (has : ∀ i h, St i h → ∀ b ∈ fp, ∃ o, h.get? b = some o) (hA : A.handled = none) {a b : Str} {pa pb tp : Pos} {kk : Nat} {scope : Scope} (hkind : scope.kind = .function) (ha : scope.names.lookup a = some .local) (hb : scope.names.lookup b = some .local) (hab : a ≠ b) :
    CSrc prog w A (.Tuple [.Name a pa, .Name b pb] kk tp) I fp wr n St scope (fun i m => ∃ x y, Pt i #[x, y] ∧ m a = some x ∧ m b = some y) where
  sub := W.sub
  frame := W.frame
  step := fun cl env C i s m E Q Nn hC hi hst hn hQ => by
    refine W.item i s _ _ hi hst fun T vals h1 tk1 hP hT hTup hMid hk1 => ?_
    obtain ⟨x, y, rfl⟩ := hPt _ _ hP
    have hCw : C ∉ wr := fun h => hC (W.sub _ h)
    refine W.go _ _ _ i T _ _ _ hMid fun h2 hst2 hk2 => ?_
    have hn2 : h2.Ns C m := hn.at' fun o e => hk2 C o hCw (hk1 C o hCw e)
    have hT2 : h2.IsTuple T #[x, y] := by
      obtain ⟨o, ho, r⟩ := hTup
      exact ⟨o, hk2 T o (W.apart _ _ _ hMid) ho, r⟩
    refine kcp_assign hA hT2 (lookup_relabel_local ha) (lookup_relabel_local hb) (by simp [compEnvC, relabel, hkind]) hn2 fun h3 tk3 hn3 hk3 => ?_
    refine hQ h3 tk3 _ ?_ hn3 ⟨x, y, hP, by simp [hab], by simp⟩ (fun c o hcC hcw e => hk3 c o hcC (hk2 c o hcw (hk1 c o hcw e)))
    exact W.frame _ _ _ hst2 fun c hc o e => hk3 c o (fun h => hC ((show c = C from h) ▸ hc)) e
  done := W.done
  self := fun s Q E hst hQ => W.self 0 s Q E hst hQ
  has := has
theorem callEnumStr {prog : Program} {w : World} {A : Around} {E : Value → Shared → Prop} {s : Shared} {h₀ : Heap} {L : Addr} {m : Str → Option Value} {news : List (Addr × Obj)} {x : Str} {t : Tok} {Q : Value → Shared → Prop} (hasc : strIterType x = "str_ascii_iterator") (F : Fr h₀ L s.heap m) (N : News h₀ L s.heap news)
    (h : ∀ h' e it, Fr h₀ L h' m → News h₀ L h' news → @LT.lt Nat _ it e → @LT.lt Nat _ L it → (∀ p ∈ news, @LT.lt Nat _ p.1 it) → h₀.get? it = none → h₀.get? e = none → ((∃ old, IsEnum h' e it ((0 : Nat) : Int) old) ∧ h'.IsStrIter it "str_ascii_iterator" x t 0) → Q (.ref e) { s with heap := h' }) :
    wpAny (model prog w) A (call (.type "enumerate") [.str x t]) Q E s := by
  have hLs : @LT.lt Nat _ L s.heap.objs.size := F.ns.lt
  have hab : @LE.le Nat _ h₀.objs.size L := F.above
  refine call_enumerate_str fun h' he hit hsz hk => ?_
  rw [hasc] at hit
  exact h h' _ s.heap.objs.size (F.keeps hk) (fun p hp => ⟨hk _ _ (N p hp).1, (N p hp).2⟩) (Nat.lt_succ_self _) hLs (fun p hp => Heap.lt_size (N p hp).1) (Heap.get?_none_of_le (Nat.le_trans hab (Nat.le_of_lt hLs))) (Heap.get?_none_of_le (Nat.le_trans hab (Nat.le_of_lt (Nat.lt_succ_of_lt hLs)))) ⟨⟨_, he⟩, hit⟩
theorem forEnumT {prog : Program} {w : World} {A : Around} (hA : A.handled = none) {env : Env} {a b : Str} {pa pb tp : Pos} {kk : Nat} {body : List Stmt} {h₀ : Heap} {x : Str} {t : Tok} {e it : Addr} {s : Shared} {m : Str → Option Value} {news : List (Addr × Obj)} {R : Result → Shared → Prop}
    (hka : env.kindOf a = some .local) (hkb : env.kindOf b = some .local) (hp : (env.scope.kind == .class || (env.scope.kind == .module && env.locals != env.globals)) = false)
    (F : Fr h₀ env.locals s.heap m) (N : News h₀ env.locals s.heap news) (hei : @LT.lt Nat _ it e) (hLi : @LT.lt Nat _ env.locals it) (hni : ∀ p ∈ news, @LT.lt Nat _ p.1 it) (h0i : h₀.get? it = none) (h0e : h₀.get? e = none)
    (hst : (∃ old, IsEnum s.heap e it ((0 : Nat) : Int) old) ∧ s.heap.IsStrIter it "str_ascii_iterator" x t 0)
    (J : Nat → (Str → Option Value) → List (Addr × Obj) → Array GenState → Prop) (hJ : J 0 m news s.gens)
    (turn : ∀ i c t1 t2 oe oi m₁ nx h tk gens (E : Value → Shared → Prop), i < x.cps.size → x.cps[i]? = some c → J i m₁ nx gens → (∀ p ∈ nx, p.1 ∉ [e, it]) → Fr h₀ env.locals h (fun z => if z = b then some (.str ⟨#[c]⟩ t2) else if z = a then some (.int (i : Nat) t1) else m₁ z) → News h₀ env.locals h ([(e, oe), (it, oi)] ++ nx) →
      wpAny (model prog w) A (execs body env) (Shut fun f s₃ => f = .next ∧ ∃ h' tk' m' nx' gens', s₃ = { s with heap := h', toks := tk', gens := gens' } ∧ Fr h₀ env.locals h' m' ∧ News h₀ env.locals h' ([(e, oe), (it, oi)] ++ nx') ∧ (∀ p ∈ nx', p.1 ∉ [e, it]) ∧ J (i + 1) m' nx' gens') E { s with heap := h, toks := tk, gens := gens })
    (done : ∀ m' nx h tk gens, J x.cps.size m' nx gens → Fr h₀ env.locals h m' → News h₀ env.locals h nx → R (.ok .next) { s with heap := h, toks := tk, gens := gens }) :
    codeAny (model prog w) A (.forLoop (.Tuple [.Name a pa, .Name b pb] kk tp) (.ref e) body [] env) R s := by
  have hne : e ≠ it := Nat.ne_of_gt hei
  have hLe : @LT.lt Nat _ env.locals e := Nat.lt_trans hLi hei
  have hLx : env.locals ∉ [e, it] := fun hm => by
    rcases List.mem_cons.mp hm with h | h
    · exact Nat.ne_of_lt hLe h
    · exact Nat.ne_of_lt hLi (List.mem_singleton.mp h)
  have h0x : ∀ b o, h₀.get? b = some o → b ∉ [e, it] := fun b o hb hm => by
    rcases List.mem_cons.mp hm with h | h
    · rw [h, h0e] at hb; cases hb
    · rw [List.mem_singleton.mp h, h0i] at hb; cases hb
  have offN : ∀ p ∈ news, p.1 ∉ [e, it] := fun p hp hm => by
    rcases List.mem_cons.mp hm with h | h
    · exact Nat.ne_of_lt (Nat.lt_trans (hni p hp) hei) h
    · exact Nat.ne_of_lt (hni p hp) (List.mem_singleton.mp h)
  have W := WalksT.enumerateD (prog := prog) (w := w) (A := A) (Draws.strAscii (A := A.in1) hA it x t) e hne (fun h => hne (List.mem_singleton.mp h)) (.head _)
  refine codeAny_forLoop_any (fun k s' => ∃ i, i ≤ x.cps.size ∧ k = x.cps.size + 1 - i ∧ ∃ h tk gens m₁ nx, s' = { s with heap := h, toks := tk, gens := gens } ∧ Fr h₀ env.locals h m₁ ∧ News h₀ env.locals h nx ∧ ((∃ old, IsEnum h e it ((i : Nat) : Int) old) ∧ h.IsStrIter it "str_ascii_iterator" x t i) ∧ (∀ p ∈ nx, p.1 ∉ [e, it]) ∧ J i m₁ nx gens) ?_ (x.cps.size + 1) ⟨0, Nat.zero_le _, rfl, _, s.toks, s.gens, m, news, rfl, F, N, hst, offN, hJ⟩
  rintro k s' ⟨i, hi, rfl, h, tk, gens, m₁, nx, rfl, F₁, N₁, hst₁, hoff, hJ₁⟩
  have up : ∀ {h h' : Heap} {m' : Str → Option Value} {nx' : List (Addr × Obj)}, Fr h₀ env.locals h m' → News h₀ env.locals h nx' → (∀ p ∈ nx', p.1 ∉ [e, it]) → (∀ b o, b ∉ [e, it] → h.get? b = some o → h'.get? b = some o) → Fr h₀ env.locals h' m' ∧ News h₀ env.locals h' nx' := fun F N ho hk =>
    ⟨⟨F.ns.at' fun o eo => hk _ o hLx eo, fun b o hb => hk b o (h0x b o hb) (F.keep b o hb), F.above⟩, fun q hq => ⟨hk _ _ (ho q hq) (N q hq).1, (N q hq).2⟩⟩
  rcases Nat.eq_or_lt_of_le hi with rfl | hil
  · refine W.done _ _ _ hst₁ fun h' tk' hk' => ?_
    refine wpAny_execs_nil ?_
    obtain ⟨F2, N2⟩ := up F₁ N₁ hoff hk'
    exact done m₁ nx h' tk' gens hJ₁ F2 N2
  · refine W.item i _ _ _ hil hst₁ fun T vals h1 tk1 hPt hTge hT hMid hk1 => ?_
    obtain ⟨t1, v, ⟨c, t2, hc, rfl⟩, rfl⟩ := hPt
    dsimp only
    refine W.go _ _ _ i T _ _ _ hMid fun h2 hst2 hk2 => ?_
    obtain ⟨F2, N2⟩ := up F₁ N₁ hoff fun b o hb eo => hk2 b o hb (hk1 b o hb eo)
    have hT2 : h2.IsTuple T #[.int ((i : Nat) : Int) t1, .str ⟨#[c]⟩ t2] := by
      obtain ⟨o, ho, r⟩ := hT
      exact ⟨o, hk2 T o (W.apart _ _ _ hMid) ho, r⟩
    refine kcp_assign hA hT2 hka hkb hp F2.ns fun h3 tk3 hn3 hk3 => ?_
    have hL0 : h₀.get? env.locals = none := Heap.get?_none_of_le F2.above
    have F3 : Fr h₀ env.locals h3 (fun z => if z = b then some (.str ⟨#[c]⟩ t2) else if z = a then some (.int (i : Nat) t1) else m₁ z) := ⟨hn3, fun b o hb => hk3 b o (fun q => by rw [q, hL0] at hb; cases hb) (F2.keep b o hb), F2.above⟩
    have hkL : ∀ c o, c ∈ [e, it] → h2.get? c = some o → h3.get? c = some o := fun c o hc ho => hk3 c o (fun q => hLx (q ▸ hc)) ho
    obtain ⟨⟨old, hse⟩, oi, hoi, hoir⟩ := hst2
    have N3 : News h₀ env.locals h3 ([(e, _), (it, oi)] ++ nx) := List.forall_mem_cons.mpr ⟨⟨hkL e _ (.head _) hse, Nat.ne_of_gt hLe, h0e⟩, List.forall_mem_cons.mpr ⟨⟨hkL it oi (.tail _ (.head _)) hoi, Nat.ne_of_gt hLi, h0i⟩, fun q hq => ⟨hk3 _ _ (N2 q hq).2.1 (N2 q hq).1, (N2 q hq).2⟩⟩⟩
    refine wpAny_mono (turn i c t1 t2 _ oi m₁ nx h3 tk3 gens _ hil hc hJ₁ hoff F3 N3) (fun f s₃ h₃ => ?_) fun _ _ z => z
    obtain ⟨rfl, h4, tk4, m4, nx4, gens4, rfl, F4, N4, hoff4, hJ4⟩ := h₃
    exact ⟨x.cps.size + 1 - (i + 1), wDec (by first | assumption | exact Nat.le_of_lt (by assumption)), i + 1, hil, rfl, h4, tk4, gens4, m4, nx4, rfl, F4, fun q hq => N4 q (List.mem_append.mpr (.inr hq)), ⟨⟨old, (N4 _ (.head _)).1⟩, oi, (N4 _ (.tail _ (.head _))).1, hoir⟩, hoff4, hJ4⟩
theorem tab_offC {P : Addr} {ln : Nat} {qual : Str} {l nws : List (Addr × Obj)} {h₀ h : Heap} {L I : Addr} {o : Obj} {v : Option Value} (ht : Tab P ln qual l) (N : News h₀ L h nws) (hl : ∀ p ∈ l, p ∈ nws) (hI : (I, o) ∈ nws) (ho : o.data = .cell v) (hP : @Ne Nat P I) : ∀ p ∈ l, p.1 ≠ I := by
  rcases ht with rfl | ⟨c, oc, cv, t, rfl, d1, d2, hc⟩
  · intro p hp
    rw [List.mem_singleton.mp hp]
    exact hP
  · intro p hp
    rcases List.mem_cons.mp hp with rfl | hp
    · exact hP
    · rw [List.mem_singleton.mp hp]
      rintro rfl
      have e1 := (N _ (hl (c, oc) (.tail _ (.head _)))).1
      have e2 := (N _ hI).1
      rw [e1] at e2
      have e3 : oc = o := Option.some.inj e2
      subst e3
      rw [d1] at ho
      cases ho
theorem callEnumList {prog : Program} {w : World} {A : Around} {E : Value → Shared → Prop} {s : Shared} {h₀ : Heap} {L l : Addr} {items : Array Value} {m : Str → Option Value} {news : List (Addr × Obj)} {Q : Value → Shared → Prop} (hl : s.heap.IsList l items) (F : Fr h₀ L s.heap m) (N : News h₀ L s.heap news)
    (h : ∀ h' e it, Fr h₀ L h' m → News h₀ L h' news → @LT.lt Nat _ it e → @LT.lt Nat _ L it → (∀ p ∈ news, @LT.lt Nat _ p.1 it) → @LT.lt Nat _ l it → @LT.lt Nat _ e h'.objs.size → h₀.get? it = none → h₀.get? e = none → ((∃ old, IsEnum h' e it ((0 : Nat) : Int) old) ∧ h'.IsListIter it l 0 ∧ h'.IsList l items) → Q (.ref e) { s with heap := h' }) :
    wpAny (model prog w) A (call (.type "enumerate") [.ref l]) Q E s := by
  have hLs : @LT.lt Nat _ L s.heap.objs.size := F.ns.lt
  have hab : @LE.le Nat _ h₀.objs.size L := F.above
  have hll : @LT.lt Nat _ l s.heap.objs.size := let ⟨o, ho, _⟩ := hl; Heap.lt_size ho
  refine call_enumerate_list hl fun h' he hit hsz hk => ?_
  exact h h' _ s.heap.objs.size (F.keeps hk) (fun p hp => ⟨hk _ _ (N p hp).1, (N p hp).2⟩) (Nat.lt_succ_self _) hLs (fun p hp => Heap.lt_size (N p hp).1) hll (by rw [hsz]; exact Nat.lt_succ_self _) (Heap.get?_none_of_le (Nat.le_trans hab (Nat.le_of_lt hLs))) (Heap.get?_none_of_le (Nat.le_trans hab (Nat.le_of_lt (Nat.lt_succ_of_lt hLs)))) ⟨⟨_, he⟩, hit, let ⟨o, ho, r⟩ := hl; ⟨o, hk _ _ ho, r⟩⟩
theorem CSrc.enumList {prog : Program} {w : World} {A : Around} (hA : A.handled = none) {e it l : Addr} {items : Array Value} (hei : @LT.lt Nat _ it e) (hli : @LT.lt Nat _ l it) {a b : Str} {pa pb tp : Pos} {kk : Nat} {scope : Scope} (hkind : scope.kind = .function) (ha : scope.names.lookup a = some .local) (hb : scope.names.lookup b = some .local) (hab : a ≠ b) :
    CSrc prog w A (.Tuple [.Name a pa, .Name b pb] kk tp) e [e, it, l] [e, it] items.size (fun i h => (∃ old, IsEnum h e it ((i : Nat) : Int) old) ∧ h.IsListIter it l i ∧ h.IsList l items) scope (fun i m => ∃ x y, (∃ t z, items[i]? = some z ∧ #[x, y] = #[.int ((i : Nat) : Int) t, z]) ∧ m a = some x ∧ m b = some y) :=
  CSrc.ofT (WalksT.enumerateD (prog := prog) (w := w) (A := A) (Draws.list (A := A.in1) hA it l (Nat.ne_of_lt hli) items) e (Nat.ne_of_gt hei) (fun h => by
    rcases List.mem_cons.mp h with h | h
    · exact Nat.ne_of_gt hei h
    · exact Nat.ne_of_gt (Nat.lt_trans hli hei) (List.mem_singleton.mp h)) (.head _)) (fun i vals h => by
    obtain ⟨t, x, _, rfl⟩ := h
    exact ⟨_, _, rfl⟩) (fun i h hst => by
    obtain ⟨⟨old, h1⟩, ⟨o2, h2, _⟩, ⟨o3, h3, _⟩⟩ := hst
    exact List.forall_mem_cons.mpr ⟨⟨_, h1⟩, List.forall_mem_cons.mpr ⟨⟨_, h2⟩, List.forall_mem_cons.mpr ⟨⟨_, h3⟩, fun _ hb => nomatch hb⟩⟩⟩) hA hkind ha hb hab
theorem selfEnumL {prog : Program} {w : World} {A : Around} (hA : A.handled = none) {E : Value → Shared → Prop} {s : Shared} {e it l : Addr} {items : Array Value} {Q : Value → Shared → Prop} (hei : @LT.lt Nat _ it e) (hli : @LT.lt Nat _ l it) (hst : (∃ old, IsEnum s.heap e it ((0 : Nat) : Int) old) ∧ s.heap.IsListIter it l 0 ∧ s.heap.IsList l items) (h : Q (.ref e) s) : wpAny (model prog w) A (pyIter (.ref e)) Q E s :=
  (WalksT.enumerateD (prog := prog) (w := w) (A := A) (Draws.list (A := A.in1) hA it l (Nat.ne_of_lt hli) items) e (Nat.ne_of_gt hei) (fun h => by
    rcases List.mem_cons.mp h with h | h
    · exact Nat.ne_of_gt hei h
    · exact Nat.ne_of_gt (Nat.lt_trans hli hei) (List.mem_singleton.mp h)) (.head _)).self 0 s Q E hst h
theorem intsMem : ∀ {vs : List Value} {ns : List Int}, IntsAre vs ns → ∀ v, v ∈ vs → ∃ z t, v = Value.int z t
  | _, _, .nil, _, h => nomatch h
  | _, _, .cons n t hr, v, h => by
    rcases List.mem_cons.mp h with rfl | h
    · exact ⟨n, t, rfl⟩
    · exact intsMem hr v h
theorem pickMem {items : Array Value} {lo hi st : Option Int} {v : Value} (h : v ∈ (slicePick items lo hi st).toList) : v ∈ items := by
  unfold slicePick at h
  simp only [List.mem_filterMap] at h
  obtain ⟨i, _, hi⟩ := h
  exact Array.mem_of_getElem? hi
theorem sumList {prog : Program} {w : World} {A : Around} {E : Value → Shared → Prop} {s : Shared} {h₀ : Heap} {L l : Addr} {items : Array Value} {m : Str → Option Value} {news : List (Addr × Obj)} {Q : Value → Shared → Prop} (hh : A.handled = none) (F : Fr h₀ L s.heap m) (N : News h₀ L s.heap news) (hl : s.heap.IsList l items) (hi : ∀ v, v ∈ items → ∃ z t, v = .int z t)
    (h : ∀ h' tk z t', Fr h₀ L h' m → News h₀ L h' news → Q (.int z t') { s with heap := h', toks := tk }) : wpAny (model prog w) A (call (.builtin "sum") [.ref l]) Q E s := by
  have hLs : @LT.lt Nat _ L s.heap.objs.size := F.ns.lt
  have hab : @LE.le Nat _ h₀.objs.size L := F.above
  obtain ⟨ol, hol, hlr⟩ := id hl
  have hll : @LT.lt Nat _ l s.heap.objs.size := Heap.lt_size hol
  refine call_sum_walkG (wpAny_pyIter_list hl ?_)
  obtain ⟨I, hI⟩ : ∃ I, s.heap.objs.size = I := ⟨_, rfl⟩
  rw [hI] at hLs hll ⊢
  refine ⟨I, [I, l], [I], items.size, _, _, fun i => match items[i]? with | some (.int z _) => z | _ => 0, rfl, Walks.list (A := A.in1) hh I l (Nat.ne_of_lt hll) items, ⟨⟨_, by rw [← hI]; exact Heap.get?_push_size _ rfl, rfl, rfl⟩, ⟨ol, Heap.get?_push_of_some _ hol, hlr⟩⟩, ?_, ?_, ?_⟩
  · refine List.forall_mem_cons.mpr ⟨?_, List.forall_mem_cons.mpr ⟨?_, fun _ hb => nomatch hb⟩⟩
    · rw [Heap.size_push, hI]; exact Nat.lt_succ_self _
    · rw [Heap.size_push, hI]; exact Nat.lt_succ_of_lt hll
  · intro i v hv
    obtain ⟨z, t, rfl⟩ := hi v (Array.mem_of_getElem? hv)
    have hv' : items[i]? = some (.int z t) := hv
    exact ⟨t, by dsimp only; rw [hv']⟩
  · intro h' tk t' hk
    have up : ∀ b o, s.heap.get? b = some o → h'.get? b = some o := fun b o hb => hk b o (fun hm => by
      rw [List.mem_singleton.mp hm, ← hI] at hb
      exact Nat.lt_irrefl _ (Heap.lt_size hb)) (Heap.get?_push_of_some _ hb)
    exact h h' tk _ t' (F.keeps up) fun p hp => ⟨up _ _ (N p hp).1, (N p hp).2⟩
theorem re1 {l x d c1 c2 C D : Addr × Obj} {own en r : List (Addr × Obj)} : ∀ p ∈ l :: x :: d :: C :: c1 :: c2 :: D :: (own ++ (en ++ r)), p ∈ C :: D :: (own ++ (l :: x :: d :: c1 :: c2 :: (en ++ r))) := by
  intro p hp
  simp only [List.mem_cons, List.mem_append] at hp ⊢
  rcases hp with hp | hp | hp | hp | hp | hp | hp | hp | hp | hp <;> simp only [hp, true_or, or_true]
theorem re2 {l x d c1 c2 C D : Addr × Obj} {own en r : List (Addr × Obj)} : ∀ p ∈ C :: D :: (own ++ (l :: x :: d :: c1 :: c2 :: (en ++ r))), p ∈ l :: x :: d :: C :: c1 :: c2 :: D :: (own ++ (en ++ r)) := by
  intro p hp
  simp only [List.mem_cons, List.mem_append] at hp ⊢
  rcases hp with hp | hp | hp | hp | hp | hp | hp | hp | hp | hp <;> simp only [hp, true_or, or_true]
theorem re4 {s C D : Addr × Obj} {own r : List (Addr × Obj)} : ∀ p ∈ s :: C :: D :: (own ++ r), p ∈ C :: D :: (own ++ s :: r) := by
  intro p hp
  simp only [List.mem_cons, List.mem_append] at hp ⊢
  rcases hp with hp | hp | hp | hp | hp <;> simp only [hp, true_or, or_true]
theorem re5 {s C D : Addr × Obj} {own r : List (Addr × Obj)} : ∀ p ∈ C :: D :: (own ++ s :: r), p ∈ s :: C :: D :: (own ++ r) := by
  intro p hp
  simp only [List.mem_cons, List.mem_append] at hp ⊢
  rcases hp with hp | hp | hp | hp | hp <;> simp only [hp, true_or, or_true]
theorem re3 {c1 c2 C D : Addr × Obj} {own en r : List (Addr × Obj)} : ∀ p ∈ en, p ∈ C :: c1 :: c2 :: D :: (own ++ (en ++ r)) := by
  intro p hp
  simp only [List.mem_cons, List.mem_append]
  simp only [hp, true_or, or_true]
theorem selfEnum {prog : Program} {w : World} {A : Around} (hA : A.handled = none) {E : Value → Shared → Prop} {s : Shared} {x : Str} {t : Tok} {e it : Addr} {Q : Value → Shared → Prop} (hei : @LT.lt Nat _ it e) (hst : (∃ old, IsEnum s.heap e it ((0 : Nat) : Int) old) ∧ s.heap.IsStrIter it "str_ascii_iterator" x t 0) (h : Q (.ref e) s) : wpAny (model prog w) A (pyIter (.ref e)) Q E s := by
  have hne : e ≠ it := Nat.ne_of_gt hei
  exact (WalksT.enumerateD (prog := prog) (w := w) (A := A) (Draws.strAscii (A := A.in1) hA it x t) e hne (fun h => hne (List.mem_singleton.mp h)) (.head _)).self 0 s Q E hst h
end Mine
set_option maxRecDepth 100000
namespace Mine
theorem keepG {tabs : List (Addr × Addr)} {s₁ : Shared} {h' : Heap} (hT : TabsAt tabs s₁.heap) (hk : ∀ b o, (ghostOf s₁.heap tabs).get? b = some o → h'.get? b = some o) (hg : GrownAll tabs h') {b : Addr} {o : Obj} (e : s₁.heap.get? b = some o) :
    h'.get? b = some o ∧ b ∉ tabs.map (·.2) ∨ isCodeTable s₁.heap b ∧ o = tabObj #[] ∧ ∃ ps, h'.get? b = some (tabObj ps) := by
  by_cases hb : b ∈ tabs.map (·.2)
  · obtain ⟨q, hq, hqb⟩ := List.mem_map.mp hb
    have t := hT q hq
    have g := hg.get q hq
    rw [hqb] at g
    have t2 := t.2
    rw [hqb, e] at t2
    have t3 := (t.1.tab t.2).isCodeTable
    rw [hqb] at t3
    exact .inr ⟨t3, Option.some.inj t2, g⟩
  · exact .inl ⟨hk b o (ghost_ne e hb), hb⟩
theorem postG {M : Model} {A : Around} {cd : Code} {s s₁ : Shared} {cw : ClaimW} {cl : Str → Option Addr} {mean : ExcName → Option Value} {args : List WData} {tabs : List (Addr × Addr)} (hT : TabsAt tabs s₁.heap) (hr : ∀ a x, cw.raises a x = false)
    (h : codeAny M A cd (fun r s' => (GoodW cw cl mean args { s₁ with heap := ghostOf s₁.heap tabs } r { s' with gens := #[] } ∧ GrownAll tabs s'.heap) ∧ AllBare s'.gens) s) : codeAny M A cd (GoodWG cw cl mean args s₁) s := by
  refine codeAny_mono h ?_
  rintro r s' ⟨⟨⟨hc, hk, hos, -⟩, hg⟩, hb⟩
  have key := fun (b : Addr) (o : Obj) (e : s₁.heap.get? b = some o) => keepG hT hk hg e
  refine ⟨?_, ⟨fun b o e => ?_, fun b o e => ?_⟩, hos, hb⟩
  · rcases hc with ⟨v, d, as, r1, r2, r3, r4, r5⟩ | ⟨e, ob, x, -, -, -, r4, -⟩
    · refine .inl ⟨v, d, as, r1, r2, r3, r4, fun q => ⟨(r5 q).1, fun a ha => ?_⟩⟩
      rcases hq : s₁.heap.get? a with _ | o
      · rfl
      · rcases key a o hq with ⟨-, hn⟩ | ⟨-, -, ps, hp⟩
        · have e3 := (r5 q).2 a ha
          have e4 : (ghostOf s₁.heap tabs).get? a = some o := ghost_ne hq hn
          exact absurd (e4.symm.trans e3) (by simp)
        · exact absurd ha (readsW_apart hp rfl r3)
    · rw [hr] at r4; cases r4
  · rcases key b o e with ⟨h1, -⟩ | ⟨h1, h2, ps, h3⟩
    · exact .inl h1
    · subst h2
      exact .inr (.inl ⟨h1, rfl, #[], ps, rfl, by rw [Array.empty_append]; exact h3⟩)
  · rcases key b o e with ⟨h1, -⟩ | ⟨-, -, ps, h3⟩
    · exact ⟨o, h1⟩
    · exact ⟨_, h3⟩
end Mine
set_option maxRecDepth 100000
namespace Mine
theorem cntN : ∀ n, 4 ≤ n → n ≤ 7 → 0 < (rowAt n).1 ∧ (3 : Int) ^ n / 4 = (rowAt n).1 - 1 ∧ (3 : Int) ^ n % 4 = 1 + 2 * ((n : Nat) : Int).fmod 2 := by
  intro n h4 h7
  obtain rfl | rfl | rfl | rfl : n = 4 ∨ n = 5 ∨ n = 6 ∨ n = 7 := by omega
  all_goals decide
theorem cntOf (z : Int) : ∃ n : Nat, 4 + z.fmod 4 = (n : Int) ∧ 4 ≤ n ∧ n ≤ 7 := by
  have h1 : 0 ≤ z.fmod 4 := by rw [Int.fmod_eq_emod_of_nonneg _ (by decide)]; omega
  have h2 : z.fmod 4 < 4 := by rw [Int.fmod_eq_emod_of_nonneg _ (by decide)]; omega
  exact ⟨(4 + z.fmod 4).toNat, by omega, by omega, by omega⟩
theorem modOf {z m : Int} (hm : 0 < m) : 0 ≤ z.fmod m ∧ z.fmod m < m := by
  rw [Int.fmod_eq_emod_of_nonneg _ (Int.le_of_lt hm)]
  exact ⟨Int.emod_nonneg _ (Int.ne_of_gt hm), Int.emod_lt_of_pos _ hm⟩
end Mine
set_option maxRecDepth 100000
namespace Mine
noncomputable def moveL (wl : List Nat) (i c d : Nat) : List (List Nat) := if d != c && !(wl.take i).contains d then [wl.take i ++ d :: wl.drop (i + 1)] else []
noncomputable def movesL (wl : List Nat) : List (List Nat) := wl.zipIdx.flatMap fun p => if (wl.take p.2).contains p.1 then [] else lmr.flatMap (moveL wl p.2 p.1)
theorem notIn_ofL (c : Nat) (l : List Nat) : notIn ⟨#[c]⟩ (ofL l) = !l.contains c := by
  unfold notIn
  rw [empty_one]
  simp [List.contains_eq_mem]
theorem flat_congr {α β : Type} {f g : α → List β} : ∀ (l : List α), (∀ a ∈ l, f a = g a) → l.flatMap f = l.flatMap g
  | [], _ => rfl
  | a :: r, h => by
    rw [List.flatMap_cons, List.flatMap_cons, h a (.head _), flat_congr r fun b hb => h b (.tail _ hb)]
theorem zip_lt {α : Type} {l : List α} {p : α × Nat} (h : p ∈ l.zipIdx) : p.2 < l.length ∧ l[p.2]? = some p.1 := by
  obtain ⟨i, hi⟩ := List.mem_iff_getElem?.mp h
  rw [List.getElem?_zipIdx] at hi
  obtain ⟨x, hx, hp⟩ := Option.map_eq_some_iff.mp hi
  subst hp
  have h2 : i < l.length := (List.getElem?_eq_some_iff.mp hx).1
  exact ⟨by simpa using h2, by simpa using hx⟩
theorem ofL_one_ne (d c : Nat) : ((⟨#[d]⟩ : Str) != ⟨#[c]⟩) = (d != c) := by
  have h : ((⟨#[d]⟩ : Str) == ⟨#[c]⟩) = (d == c) := by
    have := ofL_beq [d] [c]
    simpa using this
  rw [bne, h]
  rfl
theorem moveOf_ofL {wl : List Nat} {i c d : Nat} (h : i < wl.length) : moveOf (ofL wl) i ⟨#[c]⟩ d = (moveL wl i c d).map ofL := by
  unfold moveOf moveL
  rw [slice_to (Nat.le_of_lt h), notIn_ofL, ofL_one_ne]
  split
  · have e : ((i : Int) + 1) = ((i + 1 : Nat) : Int) := by omega
    rw [e, slice_from h]
    show [ofL (wl.take i) ++ ofL [d] ++ ofL (wl.drop (i + 1))] = _
    rw [ofL_append, ofL_append, List.append_assoc]
    rfl
  · rfl
theorem moves_ofL (wl : List Nat) : moves (ofL wl) = (movesL wl).map ofL := by
  have hs : signs (ofL wl) = wl.map fun c => (⟨#[c]⟩ : Str) := by
    unfold signs
    simp
  unfold moves movesL
  rw [hs, List.zipIdx_map, List.flatMap_map, List.map_flatMap]
  refine flat_congr _ fun p hp => ?_
  obtain ⟨h1, -⟩ := zip_lt hp
  show movesAt (ofL wl) (⟨#[p.1]⟩, p.2) = _
  unfold movesAt
  dsimp only
  rw [slice_to (Nat.le_of_lt h1), notIn_ofL]
  cases (wl.take p.2).contains p.1
  · rw [if_pos (by rfl), if_neg (by decide), List.map_flatMap]
    exact flat_congr _ fun d _ => moveOf_ofL h1
  · rw [if_neg (by decide), if_pos rfl]
    rfl
theorem movesL_diff {wl cw : List Nat} (h : cw ∈ movesL wl) : ∃ u x y v, wl = u ++ x :: v ∧ cw = u ++ y :: v ∧ x ≠ y ∧ x ∈ wl ∧ y ∈ [108, 109, 114] := by
  unfold movesL at h
  obtain ⟨p, hp, h⟩ := List.mem_flatMap.mp h
  obtain ⟨h1, h2⟩ := zip_lt hp
  split at h
  · cases h
  · obtain ⟨d, hd, h⟩ := List.mem_flatMap.mp h
    unfold moveL at h
    split at h
    · rename_i hc
      rw [List.mem_singleton.mp h]
      simp only [Bool.and_eq_true, bne_iff_ne, ne_eq] at hc
      have hx : wl[p.2] = p.1 := by
        rw [List.getElem?_eq_getElem h1] at h2
        exact Option.some.inj h2
      refine ⟨wl.take p.2, p.1, d, wl.drop (p.2 + 1), ?_, rfl, fun e => hc.1 e.symm, List.mem_of_getElem? h2, hd⟩
      rw [← hx, ← List.drop_eq_getElem_cons h1, List.take_append_drop]
    · cases h
end Mine
set_option maxRecDepth 100000
namespace Mine
noncomputable def evB (wl : List Nat) : Bool := wl.count 109 % 2 == 0 && wl.count 114 % 2 == 0
noncomputable def okCame (wl came : List Nat) : Bool := mendL came == wl && (came :: movesL came).filter evB == [wl]
noncomputable def okWord (n : Nat) (nu : Int) (wl : List Nat) : Bool := wl.length == n && wl.all (fun c => [108, 109, 114].contains c) && (nuRun wl n).1 == nu && (wl :: movesL wl).all (okCame wl)
noncomputable def okAll (n lo : Nat) : Nat → Bool
  | 0 => true
  | k + 1 => okWord n ((lo + k : Nat) : Int) (stand n ((lo + k : Nat) : Int) n).1 && okAll n lo k
theorem okAll_at {n lo : Nat} : ∀ {k : Nat}, okAll n lo k = true → ∀ j, lo ≤ j → j < lo + k → okWord n ((j : Nat) : Int) (stand n ((j : Nat) : Int) n).1 = true
  | 0, _, j, h1, h2 => by omega
  | k + 1, h, j, h1, h2 => by
    unfold okAll at h
    rw [Bool.and_eq_true] at h
    rcases Nat.lt_or_ge j (lo + k) with h3 | h3
    · exact okAll_at h.2 j h1 h3
    · obtain rfl : j = lo + k := by omega
      exact h.1
theorem okq4x0 : okAll 4 0 21 = true := by decide +kernel
theorem okq5x0 : okAll 5 0 61 = true := by decide +kernel
theorem okq6x0 : okAll 6 0 61 = true := by decide +kernel
theorem okq6x61 : okAll 6 61 61 = true := by decide +kernel
theorem okq6x122 : okAll 6 122 61 = true := by decide +kernel
theorem okq7x0 : okAll 7 0 55 = true := by decide +kernel
theorem okq7x55 : okAll 7 55 55 = true := by decide +kernel
theorem okq7x110 : okAll 7 110 55 = true := by decide +kernel
theorem okq7x165 : okAll 7 165 55 = true := by decide +kernel
theorem okq7x220 : okAll 7 220 55 = true := by decide +kernel
theorem okq7x275 : okAll 7 275 55 = true := by decide +kernel
theorem okq7x330 : okAll 7 330 55 = true := by decide +kernel
theorem okq7x385 : okAll 7 385 55 = true := by decide +kernel
theorem okq7x440 : okAll 7 440 55 = true := by decide +kernel
theorem okq7x495 : okAll 7 495 52 = true := by decide +kernel
theorem okParts {n : Nat} {nu : Int} {wl : List Nat} (h : okWord n nu wl = true) : wl.length = n ∧ (∀ c ∈ wl, inLmr c) ∧ (nuRun wl n).1 = nu ∧ ∀ came ∈ wl :: movesL wl, mendL came = wl ∧ (came :: movesL came).filter evB = [wl] := by
  unfold okWord at h
  simp only [Bool.and_eq_true, beq_iff_eq, List.all_eq_true] at h
  obtain ⟨⟨⟨h1, h2⟩, h3⟩, h4⟩ := h
  refine ⟨h1, fun c hc => ?_, h3, fun came hc => ?_⟩
  · have := h2 c hc
    simpa [inLmr] using this
  · have := h4 came hc
    unfold okCame at this
    simpa using this
theorem okEvery {n : Nat} {nu : Int} (h4 : 4 ≤ n) (h7 : n ≤ 7) (h0 : 0 ≤ nu) (h1 : nu < (rowAt n).1) : okWord n nu (stand n nu n).1 = true := by
  obtain ⟨j, rfl⟩ : ∃ j : Nat, nu = (j : Int) := ⟨nu.toNat, by omega⟩
  obtain rfl | rfl | rfl | rfl : n = 4 ∨ n = 5 ∨ n = 6 ∨ n = 7 := by omega
  · have hj : j < 21 := by
      have e : (rowAt 4).1 = 21 := by decide
      omega
    exact okAll_at okq4x0 j (by omega) (by omega)
  · have hj : j < 61 := by
      have e : (rowAt 5).1 = 61 := by decide
      omega
    exact okAll_at okq5x0 j (by omega) (by omega)
  · have hj : j < 183 := by
      have e : (rowAt 6).1 = 183 := by decide
      omega
    rcases Nat.lt_or_ge j 61 with h | h
    · exact okAll_at okq6x0 j (by omega) (by omega)
    rcases Nat.lt_or_ge j 122 with h | h
    · exact okAll_at okq6x61 j (by omega) (by omega)
    exact okAll_at okq6x122 j (by omega) (by omega)
  · have hj : j < 547 := by
      have e : (rowAt 7).1 = 547 := by decide
      omega
    rcases Nat.lt_or_ge j 55 with h | h
    · exact okAll_at okq7x0 j (by omega) (by omega)
    rcases Nat.lt_or_ge j 110 with h | h
    · exact okAll_at okq7x55 j (by omega) (by omega)
    rcases Nat.lt_or_ge j 165 with h | h
    · exact okAll_at okq7x110 j (by omega) (by omega)
    rcases Nat.lt_or_ge j 220 with h | h
    · exact okAll_at okq7x165 j (by omega) (by omega)
    rcases Nat.lt_or_ge j 275 with h | h
    · exact okAll_at okq7x220 j (by omega) (by omega)
    rcases Nat.lt_or_ge j 330 with h | h
    · exact okAll_at okq7x275 j (by omega) (by omega)
    rcases Nat.lt_or_ge j 385 with h | h
    · exact okAll_at okq7x330 j (by omega) (by omega)
    rcases Nat.lt_or_ge j 440 with h | h
    · exact okAll_at okq7x385 j (by omega) (by omega)
    rcases Nat.lt_or_ge j 495 with h | h
    · exact okAll_at okq7x440 j (by omega) (by omega)
    exact okAll_at okq7x495 j (by omega) (by omega)
end Mine
set_option maxRecDepth 100000
namespace Mine
theorem paired_eq : ∀ {vs ys : List Value}, Paired (fun v y => y = v) vs ys → ys = vs
  | _, _, .nil => rfl
  | _, _, .cons h t => by rw [h, paired_eq t]
theorem compFilter {prog : Program} {w : World} {A : Around} (hA : A.handled = none) {E : Value → Shared → Prop} {s : Shared} {env : Env} {h₀ : Heap} {m : Str → Option Value} {iter ct : Expr} {x : Str} {px qx : Pos} {scope : Scope} {cl : List (Str × Addr)} {pos : Pos} {Q : Value → Shared → Prop} (p : Value → Bool) (F00 : Fr h₀ env.locals s.heap m)
    (hclos : closureFor scope env = pure cl) (hcell : ∀ z ∈ scope.names, z.2 ≠ .cell) (hkind : scope.kind = .function)
    (hnames : ∀ z ∈ scope.names, z.2 = .local → scope.names.lookup z.1 = some .local) (hx : scope.names.lookup x = some .local)
    (hs : ∀ x, foldedSetIterable iter env x = pure x) (hxd : (x == ("__debug__" : Str)) = false)
    (h : wpAny (model prog w) A (eval iter env) (fun xv s₁ => ∃ (ax : Addr) (its : List Value) (k : Nat) (news : List (Addr × Obj)), xv = .ref ax ∧ its.length ≤ sizeLine ∧ Fr h₀ env.locals s₁.heap m ∧ News h₀ env.locals s₁.heap news ∧ (ax, W.listOf its.toArray k) ∈ news ∧
      (∀ C oC v m₂ h g d tk o (E' : Value → Shared → Prop), v ∈ its → LCg.NsObj oC m₂ → m₂ x = some v → Fr h₀ env.locals h m → News h₀ env.locals h ((C, oC) :: news) → (∀ q ∈ news, q.1 < C) →
        wpAny (model prog w) A (isTrue ct (compEnvC scope cl C env) (eval ct (compEnvC scope cl C env))) (fun ok s' => ok = p v ∧ ∃ tk', s' = ⟨h, g, d, tk', o⟩) E' ⟨h, g, d, tk, o⟩) ∧
      (∀ D k' h tk, Fr h₀ env.locals h m → News h₀ env.locals h ((D, W.listOf (its.filter p).toArray k') :: news) → (∀ q ∈ news, @Ne Nat q.1 D) → Q (.ref D) { s₁ with heap := h, toks := tk })) E s) :
    wpAny (model prog w) A (eval (.ListComp (.Name x qx) [⟨.Name x px, iter, [ct], 0⟩] scope pos) env) Q E s := by
  refine wpAny_ListComp_free p (fun v y => y = v) hclos hcell hkind hnames hx (wpAny_mono h (fun xv s₁ h₁ => ?_) fun _ _ e => e) hs
  obtain ⟨ax, its, k, news, rfl, hsz, F, N, hm, ht, hd⟩ := h₁
  have hl : s₁.heap.IsList ax its.toArray := News.isList N hm
  refine wpAny_pyIter_list hl ?_
  obtain ⟨I, hI⟩ : ∃ I, s₁.heap.objs.size = I := ⟨_, rfl⟩
  have hLs : @LT.lt Nat _ env.locals I := hI ▸ F.ns.lt
  have hab : @LE.le Nat _ h₀.objs.size env.locals := F.above
  have h0I : h₀.get? I = none := Heap.get?_none_of_le (Nat.le_trans hab (Nat.le_of_lt hLs))
  have hni : ∀ q ∈ news, @LT.lt Nat _ q.1 I := fun q hq => hI ▸ Heap.lt_size (N q hq).1
  have haI : @LT.lt Nat _ ax I := hni _ hm
  rw [hI]
  generalize hH1 : s₁.heap.push { cls := .type "list_iterator", data := .fields #[.ref ax, .int 0 0] } = H1
  have hz1 : H1.objs.size = I + 1 := by rw [← hH1, Heap.size_push, hI]
  have up1 : ∀ b o, s₁.heap.get? b = some o → H1.get? b = some o := fun b o e => hH1 ▸ Heap.get?_push_of_some _ e
  have upF : ∀ {h' : Heap}, (∀ b o, b ∉ [I] → H1.get? b = some o → h'.get? b = some o) → Fr h₀ env.locals h' m ∧ News h₀ env.locals h' news := fun hk => by
    have up : ∀ b o, s₁.heap.get? b = some o → _ := fun b o e => hk b o (fun hm => by
      rw [List.mem_singleton.mp hm, ← hI] at e
      exact Nat.lt_irrefl _ (Heap.lt_size e)) (up1 b o e)
    exact ⟨F.keeps up, fun q hq => ⟨up _ _ (N q hq).1, (N q hq).2⟩⟩
  refine ⟨I, [I, ax], [I], its.toArray.size, _, _, rfl, Walks.list hA I ax (Nat.ne_of_lt haI) its.toArray, hsz, ⟨⟨_, by rw [← hH1, ← hI]; exact Heap.get?_push_size _ rfl, rfl, rfl⟩, hl.at fun o e => up1 _ o e⟩, ?_, ⟨?_, ?_⟩, ?_⟩
  · intro b hb
    rw [hz1]
    rcases List.mem_cons.mp hb with rfl | hb
    · exact Nat.lt_succ_self _
    · rw [List.mem_singleton.mp hb]; exact Nat.lt_succ_of_lt haI
  · intro C i v s₃ m₃ E' hC hv hn hmx hk htk
    refine wpAny_tests_one ?_
    obtain ⟨oC, heC, hoC⟩ := LCg.ns_obj hn
    obtain ⟨h3, g, d, tk, o⟩ := s₃
    obtain ⟨F3, N3⟩ := upF hk
    have hIC : @LT.lt Nat _ I C := Nat.lt_of_lt_of_le (hz1 ▸ Nat.lt_succ_self I) hC
    refine wpAny_mono (ht C oC v m₃ h3 g d tk o E' (by simpa using List.mem_of_getElem? (by simpa using hv)) hoC hmx F3 (List.forall_mem_cons.mpr ⟨⟨heC, Nat.ne_of_gt (Nat.lt_trans hLs hIC), Heap.get?_none_of_le (Nat.le_trans hab (Nat.le_of_lt (Nat.lt_trans hLs hIC)))⟩, N3⟩) (fun q hq => Nat.lt_trans (hni q hq) hIC)) (fun ok s₄ h₄ => ?_) fun _ _ e => e
    obtain ⟨h1, tk', rfl⟩ := h₄
    exact ⟨h1, h3, tk', rfl, fun _ _ e => e⟩
  · intro C i v s₃ m₃ E' hC hv hpv hn hmx hk htk
    exact wpAny_Name (wpAny_loadName_local (by simp [compEnvC, relabel, hkind]) (lookup_relabel_local hx) hn hmx ⟨rfl, s₃.heap, s₃.toks, rfl, fun _ _ e => e⟩) hxd
  · intro D h' tk ys vs hD hlD hplD hlen hP hF hk
    obtain ⟨F', N'⟩ := upF hk
    have e1 : vs = its := by
      apply List.ext_getElem?
      intro j
      rcases Nat.lt_or_ge j vs.length with hj | hj
      · have h1 : vs[j]? = some vs[j] := List.getElem?_eq_getElem hj
        have h2 : its.toArray[j]? = some vs[j] := hP j _ h1
        rw [h1, ← h2]
        simp
      · rw [List.getElem?_eq_none hj, List.getElem?_eq_none (by rw [hlen] at hj; simpa using hj)]
    have e2 := paired_eq hF
    obtain ⟨k', hk'⟩ := hplD
    have hnD : ∀ b o, H1.get? b = some o → @Ne Nat b D := fun b o e q => by
      rw [show b = D from q] at e
      rw [show ({ s₁ with heap := H1 } : Shared).heap.get? D = H1.get? D from rfl, e] at hD
      cases hD
    have h0D : h₀.get? D = none := by
      cases e : h₀.get? D with
      | none => rfl
      | some o => exact absurd rfl (hnD D o (up1 _ _ (F.keep _ _ e)))
    have hLD : @Ne Nat env.locals D := by
      obtain ⟨o, _, _, ho, _⟩ := F.ns
      exact hnD _ o (up1 _ _ ho)
    refine hd D k' h' tk F' (List.forall_mem_cons.mpr ⟨⟨?_, Ne.symm hLD, h0D⟩, N'⟩) (fun q hq => hnD _ _ (up1 _ _ (N q hq).1))
    rw [hk']
    have e3 : ys = (its.filter p).toArray := by rw [← e1, ← e2]
    rw [e3]
noncomputable def evV : Value → Bool
  | .str x _ => evB x.cps.toList
  | _ => false
theorem evV_of (l : List Nat) (t : Tok) : evV (.str (ofL l) t) = evB l := by simp [evV]
theorem strs_filter : ∀ {vs : List Value} {l : List (List Nat)}, StrsAre vs (l.map ofL) → StrsAre (vs.filter evV) ((l.filter evB).map ofL)
  | _, [], h => by
    obtain rfl := h.nil_inv
    exact .nil
  | _, a :: l, h => by
    obtain ⟨t, vs', rfl, h'⟩ := h.cons_inv
    have ih := strs_filter h'
    rw [List.filter_cons, List.filter_cons, evV_of]
    split
    · exact .cons _ _ ih
    · exact ih
theorem strs_mem : ∀ {vs : List Value} {l : List (List Nat)}, StrsAre vs (l.map ofL) → ∀ v ∈ vs, ∃ cw t, cw ∈ l ∧ v = .str (ofL cw) t
  | _, [], h, v, hv => by
    obtain rfl := h.nil_inv
    cases hv
  | _, a :: l, h, v, hv => by
    obtain ⟨t, vs', rfl, h'⟩ := h.cons_inv
    rcases List.mem_cons.mp hv with rfl | hv
    · exact ⟨a, t, .head _, rfl⟩
    · obtain ⟨cw, t2, h1, h2⟩ := strs_mem h' v hv
      exact ⟨cw, t2, .tail _ h1, h2⟩
theorem flat_len {α β : Type} {f : α → List β} {k : Nat} (h : ∀ a, (f a).length ≤ k) : ∀ l : List α, (l.flatMap f).length ≤ l.length * k
  | [] => by simp
  | a :: r => by
    rw [List.flatMap_cons, List.length_append, List.length_cons, Nat.succ_mul]
    have := flat_len h r
    have := h a
    omega
theorem movesL_len (wl : List Nat) : (movesL wl).length ≤ wl.length * 3 := by
  unfold movesL
  have := flat_len (k := 3) (f := fun p : Nat × Nat => if (wl.take p.2).contains p.1 then [] else lmr.flatMap (moveL wl p.2 p.1)) (fun p => by
    split
    · simp
    · have := flat_len (k := 1) (f := moveL wl p.2 p.1) (fun d => by unfold moveL; split <;> simp) lmr
      simpa [lmr] using this) wl.zipIdx
  rwa [List.length_zipIdx] at this
theorem evB_iff (l : List Nat) : evB l = ((decide (((l.count 109 : Nat) : Int).fmod 2 = 0)) && (decide (((l.count 114 : Nat) : Int).fmod 2 = 0))) := by
  have h : ∀ k : Nat, (k % 2 == 0) = decide (((k : Nat) : Int).fmod 2 = 0) := fun k => by
    rw [Int.fmod_eq_emod_of_nonneg _ (by decide), Bool.eq_iff_iff, beq_iff_eq, decide_eq_true_eq]
    omega
  unfold evB
  rw [h, h]
theorem cameIn {wl cw : List Nat} (hl : ∀ c ∈ wl, inLmr c) (h : cw ∈ wl :: movesL wl) : cw.length = wl.length ∧ ∀ c ∈ cw, inLmr c := by
  rcases List.mem_cons.mp h with rfl | h
  · exact ⟨rfl, hl⟩
  · obtain ⟨u, x, y, v, rfl, rfl, -, -, hy⟩ := movesL_diff h
    refine ⟨by simp, fun c hc => ?_⟩
    rcases List.mem_append.mp hc with hc | hc
    · exact hl c (List.mem_append.mpr (.inl hc))
    · rcases List.mem_cons.mp hc with rfl | hc
      · simpa [inLmr] using hy
      · exact hl c (List.mem_append.mpr (.inr (.tail _ hc)))
theorem shapedOne {wl : List Nat} (h : ∀ c ∈ wl, inLmr c) : SeqAt.shaped (.list [.str (ofL wl)]) = true := by
  have h1 : PyData.strOk (ofL wl) = true := by
    unfold PyData.strOk
    simp
    intro c hc
    rcases h c hc with rfl | rfl | rfl <;> decide
  simp [SeqAt.shaped, PyData.canLay0, PyData.canLayAll0, PyData.depth, PyData.depthAll, h1]
theorem tab_offI {P : Addr} {ln : Nat} {qual : Str} {l nws : List (Addr × Obj)} {h₀ h : Heap} {L I : Addr} {o : Obj} {x : Value} {z : Int} {u : Tok} (ht : Tab P ln qual l) (N : News h₀ L h nws) (hl : ∀ p ∈ l, p ∈ nws) (hI : (I, o) ∈ nws) (ho : o.data = .fields #[x, .int z u]) (hP : @Ne Nat P I) : ∀ p ∈ l, p.1 ≠ I := by
  rcases ht with rfl | ⟨c, oc, cv, t, rfl, d1, d2, hc⟩
  · intro p hp
    rw [List.mem_singleton.mp hp]
    exact hP
  · intro p hp
    rcases List.mem_cons.mp hp with rfl | hp
    · exact hP
    · rw [List.mem_singleton.mp hp]
      rintro rfl
      have e1 := (N _ (hl (c, oc) (.tail _ (.head _)))).1
      have e2 := (N _ hI).1
      rw [e1] at e2
      have e3 : oc = o := Option.some.inj e2
      subst e3
      rw [d1] at ho
      injection ho with e5
      rw [e5] at d2
      have e6 : some (Value.int z u) = some (Value.str qual t) := d2
      injection e6 with e7
      injection e7
theorem bareFin {g : Array GenState} (h : AllBare g) : ∀ k, AllBare (finN g k)
  | 0 => h
  | k + 1 => (bareFin h k).push rfl
theorem tabGrown {P : Addr} {ln : Nat} {qual : Str} {l nws : List (Addr × Obj)} {h₀ h : Heap} {L : Addr} (ht : Tab P ln qual l) (N : News h₀ L h nws) (hl : ∀ p ∈ l, p ∈ nws) : GrownAt P h := by
  rcases ht with rfl | ⟨c, oc, cv, t, rfl, d1, d2, hc⟩
  · exact GrownAt.of N (hl _ (.head _))
  · exact GrownAt.of N (hl _ (.head _))
end Mine
set_option maxRecDepth 100000
namespace Mine
section
variable {M : Model} {A : Around} {E : Value → Shared → Prop} {s : Shared}
theorem atRef {x l Q} (h : wpAny M A (call (Value.ref x) l) Q E s) : wpAny M A (call (Value.ref x) l) Q E s := h
theorem atKw {x l k Q} (h : wpAny M A (call (Value.ref x) l k) Q E s) : wpAny M A (call (Value.ref x) l k) Q E s := h
theorem at257 {l Q} (h : wpAny M A (call (Value.ref 257) l) Q E s) : wpAny M A (call (Value.ref 257) l) Q E s := h
theorem atFor {a b c d e env Q} (h : wpAny M A (exec (Stmt.For a b c d e) env) Q E s) : wpAny M A (exec (Stmt.For a b c d e) env) Q E s := h
theorem atForC {a b c d e f g env Q} (h : wpAny M A (exec (Stmt.For a (Expr.Constant b c d) e f g) env) Q E s) : wpAny M A (exec (Stmt.For a (Expr.Constant b c d) e f g) env) Q E s := h
theorem atWhile {a b c d env Q} (h : wpAny M A (exec (Stmt.While a b c d) env) Q E s) : wpAny M A (exec (Stmt.While a b c d) env) Q E s := h
theorem atIf {a b c d env Q} (h : wpAny M A (exec (Stmt.If a b c d) env) Q E s) : wpAny M A (exec (Stmt.If a b c d) env) Q E s := h
theorem atComp {x a b c d p env Q} (h : wpAny M A (exec (Stmt.Assign x (Expr.ListComp a b c d) p) env) Q E s) : wpAny M A (exec (Stmt.Assign x (Expr.ListComp a b c d) p) env) Q E s := h
theorem atEComp {a b c d env Q} (h : wpAny M A (eval (Expr.ListComp a b c d) env) Q E s) : wpAny M A (eval (Expr.ListComp a b c d) env) Q E s := h
theorem atIter {v Q} (h : wpAny M A (pyIter v) Q E s) : wpAny M A (pyIter v) Q E s := h
theorem atLoop {v a b c d e f g i j} (h : wpAny M A (pyIter (Value.ref v)) (fun it s₂ => LoopAtV a b c d e f g i j it s₂) E s) : wpAny M A (pyIter (Value.ref v)) (fun it s₂ => LoopAtV a b c d e f g i j it s₂) E s := h
theorem atEnum {l Q} (h : wpAny M A (call (Value.type "enumerate") l) Q E s) : wpAny M A (call (Value.type "enumerate") l) Q E s := h
theorem atType {n l Q} (h : wpAny M A (call (Value.type n) l) Q E s) : wpAny M A (call (Value.type n) l) Q E s := h
theorem atIntS {a b Q} (h : wpAny M A (call (Value.type "int") [Value.str a b]) Q E s) : wpAny M A (call (Value.type "int") [Value.str a b]) Q E s := h
theorem atLIdx {l Q} (h : wpAny M A (call (Value.builtin "list.index") l) Q E s) : wpAny M A (call (Value.builtin "list.index") l) Q E s := h
theorem atSIdx {l Q} (h : wpAny M A (call (Value.builtin "str.index") l) Q E s) : wpAny M A (call (Value.builtin "str.index") l) Q E s := h
theorem atSearch {l Q} (h : wpAny M A (call (Value.builtin "re.Pattern.search") l) Q E s) : wpAny M A (call (Value.builtin "re.Pattern.search") l) Q E s := h
theorem atB2 {n a b Q} (h : wpAny M A (call (Value.builtin n) [Value.ref a, Value.ref b]) Q E s) : wpAny M A (call (Value.builtin n) [Value.ref a, Value.ref b]) Q E s := h
theorem atSubR {a b c d Q} (h : wpAny M A (subscriptTail a b (Value.ref c) (Value.ref d)) Q E s) : wpAny M A (subscriptTail a b (Value.ref c) (Value.ref d)) Q E s := h
theorem atSubI {a b c d t Q} (h : wpAny M A (subscriptTail a b (Value.ref c) (Value.int d t)) Q E s) : wpAny M A (subscriptTail a b (Value.ref c) (Value.int d t)) Q E s := h
theorem atEqR {a b Q} (h : wpAny M A (compareOp CmpOp.Eq (Value.ref a) (Value.ref b)) Q E s) : wpAny M A (compareOp CmpOp.Eq (Value.ref a) (Value.ref b)) Q E s := h
theorem atStore {a b c Q} (h : wpAny M A (storeName a b c) Q E s) : wpAny M A (storeName a b c) Q E s := h
theorem atMulR {a b c t Q} (h : wpAny M A (binaryOp Operator.Mult (Value.ref a) (Value.int (Int.fdiv b c) t)) Q E s) : wpAny M A (binaryOp Operator.Mult (Value.ref a) (Value.int (Int.fdiv b c) t)) Q E s := h
theorem atSet {a b c Q} (h : wpAny M A (setItem a b c) Q E s) : wpAny M A (setItem a b c) Q E s := h
theorem atMeth {a b c Q} (h : wpAny M A (getMethod (Value.ref a) b c) Q E s) : wpAny M A (getMethod (Value.ref a) b c) Q E s := h
theorem atSrc {a b c d e f g i j k l m n o} (h : LCg.CompSrc a b c d e f g i j k l m n o) : LCg.CompSrc a b c d e f g i j k l m n o := h
theorem atSeg {a b c d e f g i j k} (h : Seg a b c d e f g i j k) : Seg a b c d e f g i j k := h
theorem atSegI {x y} {_ : Decidable x} {a b c d e f g i j k} (h : ite x (Seg a b c d e f g i j k) y) : ite x (Seg a b c d e f g i j k) y := h
theorem atShut {a b c} (h : Shut a b c) : Shut a b c := h
theorem atGood {a b c d e f g p q} (h : (GoodW a b c d e f g ∧ p) ∧ q) : (GoodW a b c d e f g ∧ p) ∧ q := h
end
theorem neS1 (a : Nat) : @Ne Nat a (a + 1) := Nat.ne_of_lt (Nat.lt_succ_self _)
theorem neS2 (a : Nat) : @Ne Nat (a + 1) a := Nat.ne_of_gt (Nat.lt_succ_self _)
theorem neS3 (a : Nat) : @Ne Nat a (a + 1 + 1) := Nat.ne_of_lt (Nat.lt_succ_of_lt (Nat.lt_succ_self _))
theorem neS4 (a : Nat) : @Ne Nat (a + 1 + 1) a := Nat.ne_of_gt (Nat.lt_succ_of_lt (Nat.lt_succ_self _))
end Mine
theorem Mine.fill : (∀ P, hd.heap_1 P = hd.heap_1 P) ∧ PySem.Challenge.rw_to0083_01 = PySem.Challenge.rw_to0083_01 := by
  k_fill
  exact ⟨fun _ => rfl, rfl⟩
set_option maxHeartbeats 0
set_option maxRecDepth 100000
local macro_rules | `(tactic| walk_at "execs cons") => do
  let q := Lean.mkIdent `qstm
  `(tactic| ((refine Mine.cons_F ?_); intro $q:ident; (try dsimp only)))
local macro_rules | `(tactic| walk_at "exec If") => do
  let q := Lean.mkIdent `qiff
  `(tactic| ((refine Mine.if_F ?_); intro $q:ident))
local macro_rules | `(tactic| omega) => `(tactic| first | with_reducible assumption | k_dflt (decide) | with_reducible first | exact Mine.omC _ _ | exact Mine.omE _ | exact Mine.omH _ | (refine Mine.omD ?_; assumption) | ((first | refine Mine.omB ?_ ?_ | refine Mine.omF ?_ ?_ | refine Mine.omG ?_ ?_); assumption; k_dflt (exact rfl)) | (refine Mine.omA ?_ ?_; assumption; k_dflt (exact rfl)))
local macro_rules | `(tactic| k_ne) => `(tactic| first | with_reducible assumption | (refine neN ?_; (try dsimp only); first | with_reducible assumption | exact Nat.ne_of_lt (by with_reducible assumption) | exact Nat.ne_of_gt (by with_reducible assumption) | exact Mine.neS1 _ | exact Mine.neS2 _ | exact Mine.neS3 _ | exact Mine.neS4 _ | (focus ((with_reducible rename (@LT.lt Nat _ _ _ ∧ _) => hcj); (with_reducible repeat (first | exact Nat.ne_of_gt hcj.1 | exact Nat.ne_of_lt hcj.1 | exact Nat.ne_of_gt hcj | exact Nat.ne_of_lt hcj | replace hcj := hcj.2)); done)) | fail "ne") | fail "ne")
local macro_rules | `(tactic| ktr_room) => `(tactic| first | (refine Mine.roomL (by with_reducible assumption) ?_; exact rfl) | decide | (k_dflt (refine Mine.roomZ ?_); k_dflt assumption) | fail "room")
local macro_rules | `(tactic| ktr_units) => `(tactic| first | (refine Mine.unitL (by with_reducible assumption) ?_; exact rfl) | decide | fail "units")
local macro_rules | `(tactic| tb_start) => `(tactic| fail)
local macro_rules | `(tactic| ktn_open) => do
  let q := Lean.mkIdent `qstm
  let qi := Lean.mkIdent `qiff
  `(tactic| repeat' ((fail_if_success tb_start); first | (k_unfold; (try dsimp only); (try clear $q:ident); (try clear $qi:ident)) | walk1 | (dsimp only; walk1) | (leave1; walk_say "STEP leave1"; try dsimp only) | fail "no step"))
local macro_rules | `(tactic| tb_rel) => `(tactic| ((case k1 | k2 | k3 | k4 | k5 => k_asm); (case kK => first | exact rfl | assumption); (case kd => ktr_room); (case ku => ktr_units)))
namespace Mine
theorem wakeCMoves : True ∧ True := by
  w_top off
  first | (walk1; fail) | exact ⟨trivial, trivial⟩
section
local macro_rules | `(tactic| tb_start) => `(tactic| with_reducible refine Mine.atForC ?_)
local macro_rules | `(tactic| walk_at "call builtin:list.append") => `(tactic| ((with_reducible show wpAny _ _ (call (Value.builtin _) [Value.ref _, _]) _ _ _); (refine append_H (by assumption) (by assumption) (by assumption) (by assumption) ?_); intro h' F' N'))
theorem movesC (w : World) (p : Program) (loose : List Str) (mean : ExcName → Option Value) (mg mb : Str → Option Value) (news : List (Addr × Obj)) (a : Str) (ta : Tok) (ha : a.length ≤ 100) :
    Calls w (hd.heap_1 w.params) p loose mean mg mb 271 1 8 news [.str a ta] (fun h₀ L m s Q => ∀ x vs n h' tk', Fr h₀ L h' m → News h₀ L h' ((x, W.listOf vs.toArray n) :: news) → StrsAre vs (moves a) → (∀ p ∈ news, p.1 < x) → Q (.ref x) { s with heap := h', toks := tk' }) PySem.Challenge.pw_to0083_01 := by
  intro dp un gd cn cs ad ccd cl outer A₀ base h₀ L m s Q E B F X N T hk hd hu hret
  refine wpAny_call ?_
  k_dflt cell_enter
  rename_i g1 L1 h1 FG1 F0 N1 B1 X1 T1
  replace F0 := fr_eq (m' := fun y => if y = Str.ofString "word" then some (Value.str a ta) else none) F0 (by intro y; show List.lookup y [(Str.ofString "word", Value.str a ta)] = _; rw [lk1, lk0])
  refine foldM F0 ?_; clear F0; intro mfr0 F0
  ktn_open
  rename PairSrcL _ _ _ _ _ _ _ _ _ _ _ _ => S
  rename_i l'0 _ hlt _ _ _ _ _ _ _
  refine PairSrcL.at S _ rfl _ _ _ _ (fun i m₁ nx => ∃ (vs : List Value) (n : Nat), nx = (l'0, W.listOf vs.toArray n) :: news ∧ StrsAre vs (((signs a).zipIdx.take i).flatMap (movesAt a)) ∧ vs.length ≤ 3 * i ∧ m₁ (Str.ofString "word") = some (.str a ta) ∧ m₁ (Str.ofString "moves") = some (.ref l'0)) ?_ ?_ ?_
  · exact ⟨[], 0, rfl, .nil, Nat.le_refl _, rfl, rfl⟩
  · rintro i c t v m₁ nx s₁ own ⟨hh, tk1, rfl⟩ hget ⟨tv, rfl⟩ ⟨vs, n, rfl, hss, hvl, hw, hm⟩ haddr hsep F₁ N₁
    refine foldQ ?_; intro qloop14
    have hil : i < a.length := by
      have := (List.getElem?_eq_some_iff.mp hget).1
      simpa [signs, Str.length] using this
    have hstep : ((signs a).zipIdx.take (i + 1)).flatMap (movesAt a) = ((signs a).zipIdx.take i).flatMap (movesAt a) ++ movesAt a (c, i) := by
      rw [List.take_add_one, zipIdx_get hget]; simp
    replace F₁ := fr_eq (m' := fun y => if y = Str.ofString "peg" then some (Value.str c tv) else if y = Str.ofString "disk" then some (Value.int i t) else if y = Str.ofString "word" then some (.str a ta) else if y = Str.ofString "moves" then some (.ref l'0) else m₁ y) F₁ (by first | (intro y; (repeat (first | with_reducible rfl | refine abS ?_ | (refine ab ?_ ?_; assumption) | fail "ab")); done) | (intro y; (repeat' split) <;> simp_all))
    refine shut ?_
    refine foldM F₁ ?_; clear F₁; intro mfr1 F₁
    ktn_open
    · rename_i hin
      refine For_invV (hE := ?hE) g1 (by rfl) (by rfl) ?_ (fun _ => rfl)
      case hE => walk1
      walk1
      rename Fr _ _ _ _ => F2
      rename News _ _ _ _ => N2
      have N3 := news_out N2
      refine iter_strN (fun k m₂ nx => ∃ (vs : List Value) (n : Nat), nx = ((l'0, W.listOf vs.toArray n) :: (own ++ news)) ∧ StrsAre vs (((signs a).zipIdx.take i).flatMap (movesAt a) ++ (lmr.take k).flatMap (moveOf a i c)) ∧ vs.length ≤ 3 * i + k ∧ m₂ (Str.ofString "word") = some (.str a ta) ∧ m₂ (Str.ofString "moves") = some (.ref l'0) ∧ m₂ (Str.ofString "peg") = some (.str c tv) ∧ m₂ (Str.ofString "disk") = some (.int i t)) rfl F2 N3 ?_ ?_ ?_
      · exact ⟨vs, n, rfl, by simpa using hss, hvl, rfl, rfl, rfl, rfl⟩
      · rintro k d u m₂ nx h tk own' hget2 haddr2 hsep2 ⟨vs, n, rfl, hss, hvl, hw2, hm2, hp2, hd2⟩ F₂ N₂
        replace F₂ := fr_eq (m' := fun y => if y = Str.ofString "other" then some (Value.str ⟨#[d]⟩ u) else if y = Str.ofString "peg" then some (Value.str c tv) else if y = Str.ofString "disk" then some (Value.int i t) else if y = Str.ofString "word" then some (.str a ta) else if y = Str.ofString "moves" then some (.ref l'0) else m₂ y) F₂ (by first | (intro y; (repeat (first | with_reducible rfl | refine abS ?_ | (refine ab ?_ ?_; assumption) | fail "ab")); done) | (intro y; (repeat' split) <;> simp_all))
        have hdk : lmr[k]? = some d := by
          have e : (Str.ofString "lmr").cps = lmr.toArray := by decide +kernel
          rw [e] at hget2; simpa using hget2
        have hk3 : k < 3 := (List.getElem?_eq_some_iff.mp hdk).1
        have hst2 : (lmr.take (k + 1)).flatMap (moveOf a i c) = (lmr.take k).flatMap (moveOf a i c) ++ moveOf a i c d := by
          rw [List.take_add_one, hdk]; simp
        refine shut ?_
        have hne : ∀ p ∈ own ++ news ++ own', p.1 ≠ l'0 := by
          intro p hp
          simp only [List.mem_append] at hp
          rcases hp with (hp | hp) | hp
          · exact hsep p hp _ (.head _)
          · exact Nat.ne_of_lt (hlt p hp)
          · exact hsep2 p hp l'0 (.head _)
        replace N₂ : News _ _ _ ((l'0, W.listOf vs.toArray n) :: (own ++ news ++ own')) := N₂
        have hvl2 : vs.length ≤ 10000 := by omega
        rw [hst2, ← List.append_assoc]
        refine foldQ ?_; intro qloop15
        refine foldM F₂ ?_; clear F₂; intro mfr2 F₂
        ktn_open
        · rename_i hno _ _ _ _ _ _ _ _ _ _ _
          have hmv : moveOf a i c d = [Txt.slice a none (some (i : Int)) ++ ⟨#[d]⟩ ++ Txt.slice a (some ((i : Int) + 1)) none] := by
            unfold moveOf notIn
            rw [if_pos]
            simp_all
          with_reducible rename Fr _ _ _ _ => FEnd; refine foldM FEnd ?_; clear FEnd; intro mEnd FEnd
          refine inv_end (nx := (l'0, W.listOf (vs ++ [_]).toArray (n + 1)) :: (own ++ news)) (by assumption) (by assumption) ⟨_, _, rfl, ?_, ?_, rfl, rfl, rfl, rfl⟩ (by simpa using haddr2)
          · rw [hmv]
            exact hss.append' (.cons _ _ .nil)
          · simp; omega
        · have hmv : moveOf a i c d = [] := by
            unfold moveOf notIn
            rw [if_neg]
            simp_all
          with_reducible rename Fr _ _ _ _ => FEnd; refine foldM FEnd ?_; clear FEnd; intro mEnd FEnd
          refine inv_end (nx := (l'0, W.listOf vs.toArray n) :: (own ++ news)) (by assumption) (by assumption) ⟨_, _, rfl, ?_, ?_, rfl, rfl, rfl, rfl⟩ (by simpa using haddr2)
          · rw [hmv, List.append_nil]
            exact hss
          · omega
        · have hmv : moveOf a i c d = [] := by
            unfold moveOf notIn
            rw [if_neg]
            simp_all
          with_reducible rename Fr _ _ _ _ => FEnd; refine foldM FEnd ?_; clear FEnd; intro mEnd FEnd
          refine inv_end (nx := (l'0, W.listOf vs.toArray n) :: (own ++ news)) (by assumption) (by assumption) ⟨_, _, rfl, ?_, ?_, rfl, rfl, rfl, rfl⟩ (by simpa using haddr2)
          · rw [hmv, List.append_nil]
            exact hss
          · omega
      · rintro m₂ nx h tk ⟨vs, n, rfl, hss, hvl, hw2, hm2, hp2, hd2⟩ F₂ N₂
        (try dsimp only)
        ktn_open
        have hmv : movesAt a (c, i) = lmr.flatMap (moveOf a i c) := by
          unfold movesAt notIn
          rw [if_pos]
          simpa using hin
        with_reducible rename Fr _ _ _ _ => FEnd; refine foldM FEnd ?_; clear FEnd; intro mEnd FEnd
        refine step3_end (nx := (l'0, W.listOf vs.toArray n) :: news) (by assumption) (news_in (by assumption)) ⟨_, _, rfl, ?_, ?_, hw2, hm2⟩ (by rfl)
        · rw [hstep, hmv]
          have e : (Str.ofString "lmr").cps.size = 3 := by decide +kernel
          rw [e] at hss
          exact hss
        · have e : (Str.ofString "lmr").cps.size = 3 := by decide +kernel
          omega
    · have hmv : movesAt a (c, i) = [] := by
        unfold movesAt notIn
        rw [if_neg]
        simp_all
      with_reducible rename Fr _ _ _ _ => FEnd; refine foldM FEnd ?_; clear FEnd; intro mEnd FEnd
      refine step3_end (nx := (l'0, W.listOf vs.toArray n) :: news) (by assumption) (by assumption) ⟨_, _, rfl, ?_, ?_, rfl, rfl⟩ (by rfl)
      · rw [hstep, hmv, List.append_nil]
        exact hss
      · omega
  · rintro h' tk m' nx F' N' _ ⟨vs, n, rfl, hss, hvl, hw, hm⟩
    (try dsimp only)
    replace F' := fr_eq (m' := fun y => if y = Str.ofString "moves" then some (.ref l'0) else m' y) F' (by first | (intro y; (repeat (first | with_reducible rfl | refine abS ?_ | (refine ab ?_ ?_; assumption) | fail "ab")); done) | (intro y; (repeat' split) <;> simp_all))
    refine foldM F' ?_; clear F'; intro mfr3 F'
    ktn_open
    refine hret _ _ _ _ _ (by assumption) (by assumption) ?_ hlt
    unfold moves
    rwa [List.take_of_length_le (by simp)] at hss
end
section
local macro_rules | `(tactic| walk_at "execs cons") => do
  let q := Lean.mkIdent `qstm
  `(tactic| ((refine Mine.gen_consF ?_); intro tk $q:ident; (try dsimp only)))
local macro_rules | `(tactic| walk_at "execs nil") => `(tactic| ((refine Mine.gen_nil ?_); intro tk; (try dsimp only)))
theorem wakeCDiv : True ∧ True := by
  w_top off
  first | (walk1; fail) | exact ⟨trivial, trivial⟩
section
theorem bits_le {a : Int} (h0 : 0 ≤ a) (h : a ≤ 4000) : Builtin.Int.intBits a ≤ 12 := by
  refine PySem.intBits_le_iff.mpr ?_
  omega
theorem divC (w : World) (p : Program) (loose : List Str) (mean : ExcName → Option Value) (mg mb : Str → Option Value) (news : List (Addr × Obj)) (a : Int) (ta tb tn : Tok) (ha : 0 ≤ a) (ha2 : a ≤ 4000) :
    Calls w (hd.heap_1 w.params) p loose mean mg mb 45 1 8 news [.int a ta, .int 4 tb, .int 3 tn] (fun h₀ L m s Q => ∀ (T : Addr) (o : Obj) (t t' : Tok) h' tk', Fr h₀ L h' m → News h₀ L h' ((T, o) :: news) → (∀ p ∈ news, p.1 < T) → o.cls = .type "tuple" → (∃ n, o.data = .seq #[.int (a.fdiv 4) t, .int (a.fmod 4) t'] n) → Q (.ref T) { s with heap := h', toks := tk' }) PySem.Challenge.pw_to0083_01 := by
  intro dp un gd cn cs ad ccd cl outer A₀ base h₀ L m s Q E B F X N T hk hd hu hret
  refine wpAny_call ?_
  k_dflt cell_enter
  rename_i g1 L1 h1 FG1 F0 N1 B1 X1 T1
  replace F0 := fr_eq (m' := fun y => if y = Str.ofString "n" then some (Value.int 3 tn) else if y = Str.ofString "b" then some (Value.int 4 tb) else if y = Str.ofString "a" then some (Value.int a ta) else none) F0 (by intro y; show List.lookup y [(Str.ofString "n", Value.int 3 tn), (Str.ofString "b", Value.int 4 tb), (Str.ofString "a", Value.int a ta)] = _; rw [lk1, lk1, lk1, lk0])
  have hbits : ((Builtin.Int.intBits a : Nat) : Int) - 3 ≤ 4000 := by
    have := bits_le ha ha2
    omega
  refine foldM F0 ?_; clear F0; intro mfr0 F0
  ktn_open
  all_goals (try (exfalso; omega))
  refine hret _ _ _ _ _ _ (by assumption) (by assumption) (fun p hp => Heap.lt_size (N1 p hp).1) rfl ⟨_, rfl⟩

end
theorem wakeCCost : True ∧ True := by
  w_top off
  first | (walk1; fail) | exact ⟨trivial, trivial⟩
section
theorem costC (w : World) (p : Program) (loose : List Str) (mean : ExcName → Option Value) (mg mb : Str → Option Value) (news : List (Addr × Obj)) (a b : Str) (ta tb : Tok) (ha : a.length ≤ 100) (hb : b.length ≤ 100) (hab : (a == b) = false) (hlo : (Txt.lower a == Txt.lower b) = false) :
    Calls w (hd.heap_1 w.params) p loose mean mg mb 108 1 8 news [.str a ta, .str b tb] (fun h₀ L m s Q => ∀ h' t tk', Fr h₀ L h' m → News h₀ L h' news → Q (.int 2 t) { s with heap := h', toks := tk' }) PySem.Challenge.pw_to0083_01 := by
  intro dp un gd cn cs ad ccd cl outer A₀ base h₀ L m s Q E B F X N T hk hd hu hret
  refine wpAny_call ?_
  k_dflt cell_enter
  rename_i g1 L1 h1 FG1 F0 N1 B1 X1 T1
  ktn_open
  exact hret _ _ _ (by assumption) (by assumption)

end
section
local macro_rules | `(tactic| walk_at "binaryOp RShift int int") => `(tactic| (k_dflt (refine rshift_is (by assumption) (by first | assumption | exact natSum _ _) (by first | assumption | decide) ?_)))
local macro_rules | `(tactic| walk_at "binaryOp LShift int int") => `(tactic| (k_dflt (refine lshift_is (by assumption) (by assumption) (by assumption) ?_)))
theorem wakeCInner : True ∧ True := by
  w_top off
  first | (walk1; fail) | exact ⟨trivial, trivial⟩
section
local macro_rules | `(tactic| tb_start) => `(tactic| with_reducible first | refine Mine.atRef ?_ | refine Mine.atSet ?_)
theorem innerKey (w : World) (p : Program) (loose : List Str) (mean : ExcName → Option Value) (mg mb : Str → Option Value) {name qual : Str} {params : Arguments} {body : List Stmt} {scope : Scope} (hdef : fnDefOf (_root_.hd.heap_1 w.params) 59 1 = some (name, params, body, scope))
    {hC : Heap} (C0 : CodeHd hC 58 54) {D f c c1 c2 c3 : Addr} {oc o1 o2 o3 : Obj} {vsc : Array Value} {doc pm ctv : Value} {tn tq : Tok} (dC : o1.data = .cell (some (.int 3 tn))) (dD : o2.data = .cell (some (.ref D))) (dF : o3.data = .cell (some (.ref f))) (dc1 : oc.data = .fields vsc) (dc2 : vsc[1]? = some (.str qual tq))
    (hnf : @Ne Nat f D) (hn3 : @Ne Nat c3 D) (hn2 : @Ne Nat c2 D) (hn1 : @Ne Nat c1 D) (hnc : @Ne Nat c D) :
    ∀ (k : Nat) (rest : List (Addr × Obj)), (∀ p ∈ rest, p.1 ≠ D) → k ≤ 4 → ∀ (fu : Nat) (x : Int) (lo hi : Nat) (vs : List Value) (ns : List Int) (kk : Nat) (tx t1 t2 : Tok), k ≤ fu → hi = lo + k → 1 ≤ k → hi ≤ ns.length → ns.length ≤ 4 → 0 ≤ x → x ≤ bnd k → IntsAre vs ns →
      Calls w (_root_.hd.heap_1 w.params) p loose mean mg mb f k (16 * k) ((D, W.listOf vs.toArray kk) :: (f, fnMade name qual params body scope [(Str.ofString "n", c1), (Str.ofString "inner", c3), (Str.ofString "a_digits", c2)] doc pm c ctv) :: (c3, o3) :: (c2, o2) :: (c1, o1) :: (c, oc) :: rest) [.int x tx, .int lo t1, .int hi t2] (fun h₀ L m s Q => ∀ vs' kk' h' tk', Fr h₀ L h' m → News h₀ L h' ((D, W.listOf vs'.toArray kk') :: (f, fnMade name qual params body scope [(Str.ofString "n", c1), (Str.ofString "inner", c3), (Str.ofString "a_digits", c2)] doc pm c ctv) :: (c3, o3) :: (c2, o2) :: (c1, o1) :: (c, oc) :: rest) → IntsAre vs' (innerS fu x lo hi ns) → Q .none { s with heap := h', toks := tk' }) PySem.Challenge.pw_to0083_01 := by
  have h2 : some (_, _, _, _) = some (name, params, body, scope) := hdef
  simp only [Option.some.injEq, Prod.mk.injEq] at h2
  clear hdef
  obtain ⟨rfl, rfl, rfl, rfl⟩ := h2
  intro k
  induction k using Nat.strongRecOn with
  | ind k ih =>
    intro rest hne hk4 fu x lo hi vs ns kk tx t1 t2 hfu hhi hk1 hhl hnl hx0 hxb hints
    intro dp un gd cn cs ad ccd cl outer A₀ base h₀ L m s Q E B F X N T hk hd hu hret

    obtain ⟨fu, rfl⟩ := predEx hfu hk1
    refine wpAny_call ?_
    k_dflt (refine' code_nest ?k1 ?k2 ?k3 ?k4 ?k5 ?kA ?kF ?kK ?k6 ?k7 ?k8 ?k9 ?kB ?_ ?c2 ?c3 ?c4 ?c5; (case kA => exact rfl); (case kF => exact rfl); (case kK => assumption); (case k1 => assumption); (case k2 => assumption); (case k3 => assumption); (case k4 => assumption); (case k5 => assumption); (case k6 => k_mem); (case k7 => exact codeRec_news N (by k_mem) dc1 dc2); (case k8 => first | exact roomZ hd | ktr_room); (case k9 => exact BindsTo.of_eq rfl); (case c5 => decide); (case kB => exact locs rfl); (case c2 => exact rfl); (case c3 => exact rfl); (case c4 => exact rfl); k_whole; intro g2 L2 h2 FG2 F2 N2 B2 X2 T2; (try dsimp only); (try k_lift B2); (try k_fold))
    have hvl : vs.length = ns.length := hints.length
    rcases Nat.lt_or_ge 1 k with hk2 | hk2
    · obtain ⟨u, v, mid, hu1, hv1, rfl, hu2, hmu, hhv, hm, hmid, hne1, hmlo, hmli⟩ := split2 hk2 hk4 hhi
      obtain ⟨hsn, hsh0, hsh6⟩ := sh3 hmli hu2
      obtain ⟨up, hup⟩ : ∃ up, x.fdiv (2 ^ (((mid : Int) - (lo : Int)) * 3).toNat) = up := ⟨_, rfl⟩
      obtain ⟨upl, hupl⟩ : ∃ upl, up * 2 ^ (((mid : Int) - (lo : Int)) * 3).toNat = upl := ⟨_, rfl⟩
      have hb0 := shr_bnd hx0 (((mid : Int) - (lo : Int)) * 3).toNat
      rw [hup, hupl] at hb0
      have hb1 := xor_bnd hx0 hb0.2.2.1
      have hup0 := hb0.1
      have hb3 := bits20 hb0.1 (Int.le_trans hb0.2.1 hxb) (bnd_le (u + v))
      have hfits : (Builtin.Int.intBits up : Int) + ((mid : Int) - (lo : Int)) * 3 ≤ 2 ^ 27 := shiftFits (Nat.le_trans hb3 (by decide)) hsh6
      walk1
      try dsimp only
      walk1
      try dsimp only
      ktn_open
      all_goals (try (first | exact absurd (by assumption) hne1 | (exfalso; omega)))
      refine' callsUse (ih u (ltU hv1) rest hne (leU hk4) fu (Builtin.bitXor x upl) lo mid vs ns kk _ _ _ (fuU hfu hv1) hmu hu1 (midLe hhv hhl) hnl hb1.1 (xorLe hb1.2 hb0.2.2.2 hxb (bnd_step (u + v) hk4 u (ltU hv1))) hints) ?k1 ?k2 ?k3 ?k4 ?k5 ?kK ?kd ?ku ?kR
      (case k1 => k_asm); (case k2 => k_asm); (case k3 => k_asm); (case k4 => k_asm); (case k5 => k_asm); (case kK => first | exact rfl | assumption); (case kd => exact roomU hd hv1); (case ku => exact unitU hu hv1)
      intro vs1 kk1 h3 tk3 F3 N3 hi3
      (try dsimp only)
      ktn_open
      have hl3 := innerS_len fu (Builtin.bitXor x upl) lo mid ns
      refine' callsUse (ih v (ltV hu1) rest hne (leV hk4) fu up mid hi vs1 _ kk1 _ _ _ (fuV hfu hu1) hhv hv1 (hl3.symm ▸ hhl) (hl3.symm ▸ hnl) hb0.1 (dblLe hb0.1 (Int.le_trans hb0.2.1 hxb) (bnd_step (u + v) hk4 v (ltV hu1))) hi3) ?j1 ?j2 ?j3 ?j4 ?j5 ?jK ?jd ?ju ?jR
      (case j1 => k_asm); (case j2 => k_asm); (case j3 => k_asm); (case j4 => k_asm); (case j5 => k_asm); (case jK => first | exact rfl | assumption); (case jd => exact roomV hd hu1); (case ju => exact unitV hu hu1)
      intro vs4 kk4 h4 tk4 F4 N4 hi4
      (try dsimp only)
      ktn_open
      refine hret _ _ _ _ (by assumption) (by assumption) ?_
      unfold innerS
      rw [if_neg (noEq hne1), hidOut hm, hidOut hmlo, ← hsn, hup, hupl]
      exact hi4
    · obtain rfl : k = 1 := Nat.le_antisymm hk2 hk1
      walk1
      try dsimp only
      walk1
      try dsimp only
      ktn_open
      rotate_left
      all_goals (try (exfalso; omega))
      refine ksa_set (by assumption) (by assumption) (.head ?hu) hints (Int.natCast_nonneg _) (natLt (by rw [hhi] at hhl; exact hhl)) (natSmall (Nat.le_trans (Nat.le_trans (Nat.le_of_lt (by rw [hhi] at hhl; exact hhl)) hnl) (by decide))) ?_
      case hu =>
        refine List.forall_mem_cons.mpr ⟨hnf, List.forall_mem_cons.mpr ⟨hn3, List.forall_mem_cons.mpr ⟨hn2, List.forall_mem_cons.mpr ⟨hn1, List.forall_mem_cons.mpr ⟨hnc, hne⟩⟩⟩⟩⟩
      intro h5 F5 N5 hi5 hl5 hs5
      (try dsimp only)
      ktn_open
      exact hret _ _ _ _ (by assumption) (by assumption) (by unfold innerS; rw [if_pos hhi.symm]; exact hi5)

end
theorem wakeCD2In : True ∧ True := by
  w_top off
  first | (walk1; fail) | exact ⟨trivial, trivial⟩
section
local macro_rules | `(tactic| tb_start) => `(tactic| with_reducible refine Mine.atRef ?_)
local macro_rules | `(tactic| walk_at "subscriptTail Name Name ref int") => `(tactic| (k_dflt (refine ksa_sub (by assumption) (by k_mem) (by assumption) (by assumption) (by assumption) (by assumption) ?_); intro ti))
theorem d2Inner (w : World) (p : Program) (loose : List Str) (mean : ExcName → Option Value) (mg mb : Str → Option Value) {name qual : Str} {params : Arguments} {body : List Stmt} {scope : Scope} (hdef : fnDefOf (_root_.hd.heap_1 w.params) 66 0 = some (name, params, body, scope))
    {hC : Heap} (C0 : CodeHd hC 65 61) {D f c c1 c2 c3 : Addr} {oc o1 o2 o3 : Obj} {vsc : Array Value} {doc pm ctv : Value} {tn tq : Tok} {n : Nat} (hn3 : n ≤ 3) (dC : o1.data = .cell (some (.int n tn))) (dD : o2.data = .cell (some (.ref D))) (dF : o3.data = .cell (some (.ref f))) (dc1 : oc.data = .fields vsc) (dc2 : vsc[1]? = some (.str qual tq))
    (rest : List (Addr × Obj)) (vs : List Value) (ns : List Int) (kk : Nat) (hnl : ns.length ≤ 4) (hns : ∀ x ∈ ns, 0 ≤ x ∧ x ≤ 4000) (hints : IntsAre vs ns) :
    ∀ (k : Nat), k ≤ 4 → ∀ (fu : Nat) (lo hi : Nat) (t1 t2 : Tok), k ≤ fu → hi = lo + k → 1 ≤ k → hi ≤ ns.length →
      Calls w (_root_.hd.heap_1 w.params) p loose mean mg mb f k (16 * k) ((f, fnMade name qual params body scope [(Str.ofString "n", c1), (Str.ofString "inner", c3), (Str.ofString "digits", c2)] doc pm c ctv) :: (c3, o3) :: (c2, o2) :: (c1, o1) :: (c, oc) :: (D, W.listOf vs.toArray kk) :: rest) [.int lo t1, .int hi t2] (fun h₀ L m s Q => ∀ t h' tk', Fr h₀ L h' m → News h₀ L h' ((f, fnMade name qual params body scope [(Str.ofString "n", c1), (Str.ofString "inner", c3), (Str.ofString "digits", c2)] doc pm c ctv) :: (c3, o3) :: (c2, o2) :: (c1, o1) :: (c, oc) :: (D, W.listOf vs.toArray kk) :: rest) → Q (.int (d2iS fu ns n lo hi) t) { s with heap := h', toks := tk' }) PySem.Challenge.pw_to0083_01 := by
  have h2 : some (_, _, _, _) = some (name, params, body, scope) := hdef
  simp only [Option.some.injEq, Prod.mk.injEq] at h2
  clear hdef
  obtain ⟨rfl, rfl, rfl, rfl⟩ := h2
  intro k
  induction k using Nat.strongRecOn with
  | ind k ih =>
    intro hk4 fu lo hi t1 t2 hfu hhi hk1 hhl
    intro dp un gd cn cs ad ccd cl outer A₀ base h₀ L m s Q E B F X N T hk hd hu hret
    obtain ⟨fu, rfl⟩ := predEx hfu hk1
    refine wpAny_call ?_
    k_dflt (refine' code_nest ?k1 ?k2 ?k3 ?k4 ?k5 ?kA ?kF ?kK ?k6 ?k7 ?k8 ?k9 ?kB ?_ ?c2 ?c3 ?c4 ?c5; (case kA => exact rfl); (case kF => exact rfl); (case kK => assumption); (case k1 => assumption); (case k2 => assumption); (case k3 => assumption); (case k4 => assumption); (case k5 => assumption); (case k6 => k_mem); (case k7 => exact codeRec_news N (by k_mem) dc1 dc2); (case k8 => first | exact roomZ hd | ktr_room); (case k9 => exact BindsTo.of_eq rfl); (case c5 => decide); (case kB => exact locs rfl); (case c2 => exact rfl); (case c3 => exact rfl); (case c4 => exact rfl); k_whole; intro g2 L2 h2 FG2 F2 N2 B2 X2 T2; (try dsimp only); (try k_lift B2); (try k_fold))
    have hvl : vs.length = ns.length := hints.length
    rcases Nat.lt_or_ge 1 k with hk2 | hk2
    · obtain ⟨u, v, mid, hu1, hv1, rfl, hu2, hmu, hhv, hm, hmid, hne1, hmlo, hmli⟩ := split2 hk2 hk4 hhi
      have hsnI : ((mid : Int) - (lo : Int)) * (n : Int) = ((u * n : Nat) : Int) := by rw [hmli, Int.natCast_mul]
      have hsn : (((mid : Int) - (lo : Int)) * (n : Int)).toNat = u * n := by rw [hsnI]; exact Int.toNat_natCast _
      have hs6 : u * n ≤ 6 := Nat.le_trans (Nat.mul_le_mul hu2 hn3) (by decide)
      have hs0 : (0 : Int) ≤ ((mid : Int) - (lo : Int)) * (n : Int) := by rw [hsnI]; exact Int.natCast_nonneg _
      have hs1 : ((mid : Int) - (lo : Int)) * (n : Int) ≤ 6 := by rw [hsnI]; exact Int.ofNat_le.mpr hs6
      have hba := d2iS_bnd hn3 hns fu v mid hi (fuV hfu hu1) (leV hk4) hhv hv1
      have hb4 := bd_le v (leV hk4)
      obtain ⟨ra, hra⟩ : ∃ ra, d2iS fu ns n mid hi = ra := ⟨_, rfl⟩
      rw [hra] at hba
      have hfits : (Builtin.Int.intBits ra : Int) + ((mid : Int) - (lo : Int)) * (n : Int) ≤ 2 ^ 27 := shiftFits (bits40 hba.1 (Int.le_trans hba.2 hb4.2)) hs1
      obtain ⟨sh, hsh⟩ : ∃ sh, ra * 2 ^ (((mid : Int) - (lo : Int)) * (n : Int)).toNat = sh := ⟨_, rfl⟩
      clear hba hb4 hs6 hsnI
      ktn_open
      all_goals (try (first | exact absurd (by assumption) hne1 | (exfalso; omega)))
      refine' callsUse (ih v (ltV hu1) (leV hk4) fu mid hi _ _ (fuV hfu hu1) hhv hv1 hhl) ?k1 ?k2 ?k3 ?k4 ?k5 ?kK ?kd ?ku ?kR
      (case k1 => k_asm); (case k2 => k_asm); (case k3 => k_asm); (case k4 => k_asm); (case k5 => k_asm); (case kK => first | exact rfl | assumption); (case kd => exact roomV hd hu1); (case ku => exact unitV hu hu1)
      intro t3 h3 tk3 F3 N3
      rw [hra]
      (try dsimp only)
      ktn_open
      refine' callsUse (ih u (ltU hv1) (leU hk4) fu lo mid _ _ (fuU hfu hv1) hmu hu1 (midLe hhv hhl)) ?j1 ?j2 ?j3 ?j4 ?j5 ?jK ?jd ?ju ?jR
      (case j1 => k_asm); (case j2 => k_asm); (case j3 => k_asm); (case j4 => k_asm); (case j5 => k_asm); (case jK => first | exact rfl | assumption); (case jd => exact roomU hd hv1); (case ju => exact unitU hu hv1)
      intro t4 h4 tk4 F4 N4
      (try dsimp only)
      ktn_open
      have e : d2iS (fu + 1) ns n lo hi = sh + d2iS fu ns n lo mid := by
        conv => lhs; unfold d2iS
        rw [if_neg (noEq hne1), hidOut hm, hra, hidOut hmlo, ← hsn, hsh]
      rw [e] at hret
      exact hret _ _ _ (by assumption) (by assumption)
    · obtain rfl : k = 1 := Nat.le_antisymm hk2 hk1
      have hlo0 := Int.natCast_nonneg lo
      have hlo1 : (lo : Int) < (ns.length : Int) := natLt (by rw [hhi] at hhl; exact hhl)
      have hlo2 : (lo : Int) < 2 ^ 63 := natSmall (Nat.le_trans (Nat.le_trans (Nat.le_of_lt (by rw [hhi] at hhl; exact hhl)) hnl) (by decide))
      have e : d2iS (fu + 1) ns n lo hi = ns.getD ((lo : Int)).toNat 0 := by
        conv => lhs; unfold d2iS
        rw [if_pos hhi.symm, Int.toNat_natCast]
      rw [e] at hret
      ktn_open
      all_goals (try (exfalso; omega))
      exact hret _ _ _ (by assumption) (by assumption)
end
end
theorem wakeCLev : True ∧ True := by
  w_top off
  first | (walk1; fail) | exact ⟨trivial, trivial⟩
section
local macro_rules | `(tactic| tb_start) => `(tactic| with_reducible refine Mine.atWhile ?_)
local macro_rules | `(tactic| walk_at "subscriptTail Name Slice str ref") => `(tactic| ((with_reducible show wpAny _ _ (subscriptTail _ (Expr.Slice none (some (Expr.BoolOp _ _ _)) none _) _ _) _ _ _); (with_reducible rename Fr _ _ _ _ => F'); (with_reducible rename News _ _ _ _ => N'); refine slice_strN_nn_len (s := ⟨_, _, _, _, _⟩) F' N' ?_; intro _ _ _ _ _ _))
local macro_rules | `(tactic| walk_at "call builtin:len") => `(tactic| ((with_reducible show wpAny _ _ (call (Value.builtin "len") [Value.str _ _]) _ _ _); (refine len_one (by assumption) ?_)))
local macro_rules | `(tactic| walk_at "truthy str") => `(tactic| ((with_reducible show wpAny _ _ (PySem.truthy (Value.str _ _)) _ _ _); (refine truthy_one (by assumption) ?_)))
local macro_rules | `(tactic| walk_at "call type:list") => `(tactic| ((with_reducible show wpAny _ _ (call (Value.type _) [Value.ref _]) _ _ _); (rename IsRange _ _ _ _ _ _ _ _ => rgX); (with_unfolding_all refine list_range_one rfl (by assumption) (by assumption) rgX (by decide) (by decide) ?_); intro l' q' n' h' tk' F' N' l1))
local macro_rules | `(tactic| walk_at "call builtin:min") => `(tactic| ((with_reducible show wpAny _ _ (call (Value.builtin _) [Value.int _ _, Value.int _ _]) _ _ _); (rename News _ _ _ _ => N'); first | (refine min_lit 0 (by decide) rfl (by assumption) N' ?_) | (refine min_lit 2 (by decide) rfl (by assumption) N' ?_); intro _ _ _ _ _))
local macro_rules | `(tactic| walk_at "UnrEnd") => `(tactic| (refine unr_end (by assumption) (by assumption) (by with_unfolding_all assumption) ?_))
theorem jb {j n : Nat} (h : j + 1 ≤ n) (hn : n ≤ 100) : (-9223372036854775808 : Int) < -(j : Int) - 1 ∧ -(j : Int) - 1 < 9223372036854775808 ∧ -(n : Int) ≤ -(j : Int) - 1 ∧ -(j : Int) - 1 < (n : Int) := by omega
theorem jb0 {n : Nat} (h : 1 ≤ n) : -(n : Int) ≤ 0 - 1 ∧ (0 : Int) - 1 < (n : Int) := by omega
theorem leL {u v k : Nat} (h : k ≤ u) (h2 : u + v ≤ 20) : k ≤ 100 := by omega
theorem dropL {l : List Nat} {k : Nat} {a : Str} (ha : a = ofL l) (h : a.length ≤ 100) : (ofL (l.drop k)).length ≤ 100 := by
  subst ha
  rw [ofL_len] at h
  rw [ofL_len, List.length_drop]
  exact Nat.le_trans (Nat.sub_le _ _) h
theorem levT (w : World) (p : Program) (loose : List Str) (mean : ExcName → Option Value) (mg mb : Str → Option Value) (news : List (Addr × Obj)) (a b : Str) (ta tb tc : Tok) (u v : List Nat) (x y : Nat)
   (hA : a = ofL (u ++ x :: v)) (hB : b = ofL (u ++ y :: v)) (hxy : x ≠ y) (hlo : (Txt.lower (ofL [y]) == Txt.lower (ofL [x])) = false) (huv : u.length + v.length ≤ 20)
   :
    Calls w (hd.heap_1 w.params) p loose mean mg mb 115 2 16 news [.str a ta, .str b tb, .int 2 tc] (fun h₀ L m s Q => ∀ h' t tk', Fr h₀ L h' m → News h₀ L h' news → Q (.int 2 t) { s with heap := h', toks := tk' }) PySem.Challenge.pw_to0083_01 := by
  intro dp un gd cn cs ad ccd cl outer A₀ base h₀ L m s Q E B F X N T hk hd hu hret
  have hal : a.length = u.length + v.length + 1 := by rw [hA, ofL_len]; simp; omega
  have hbl : b.length = u.length + v.length + 1 := by rw [hB, ofL_len]; simp; omega
  have ha : a.length ≤ 100 := by omega
  have hb : b.length ≤ 100 := by omega
  refine wpAny_call ?_
  k_dflt cell_enter
  rename_i g1 L1 h1 FG1 F0 N1 B1 X1 T1
  replace F0 := fr_eq (m' := fun y => if y = Str.ofString "max_cost" then some (Value.int 2 tc) else if y = Str.ofString "b" then some (Value.str b tb) else if y = Str.ofString "a" then some (Value.str a ta) else none) F0 (by intro y; show List.lookup y [(Str.ofString "max_cost", Value.int 2 tc), (Str.ofString "b", Value.str b tb), (Str.ofString "a", Value.str a ta)] = _; rw [lk1, lk1, lk1, lk0])
  refine foldM F0 ?_; clear F0; intro mfr0 F0
  ktn_open
  · rename (a == b) = true => heq
    exfalso
    have e := beq_iff_eq.mp heq
    rw [hA, hB] at e
    have e2 := List.append_cancel_left (ofL_inj e)
    exact hxy (List.cons.inj e2).1
  rename Fr g1 _ _ _ => F2
  rename News g1 _ _ _ => N2
  refine wpAny_mono (Q := Shut fun f s' => f = .next ∧ ∃ (h' : Heap) (tk t : Nat) (m' : Str → Option Value), s' = { s with heap := h', toks := tk } ∧ Fr g1 L1 h' (fun y => if y = Str.ofString "pre" then some (Value.int (u.length : Nat) t) else if y = Str.ofString "max_cost" then some (Value.int 2 tc) else if y = Str.ofString "b" then some (Value.str b tb) else if y = Str.ofString "a" then some (Value.str a ta) else m' y) ∧ News g1 L1 h' news) ?_ ?_ (fun _ _ e => e)
  · unfold Shut
    refine While_H (hE := ?hE) (n₀ := a.length) (fun n m₁ nx => nx = news ∧ ∃ k t, n = a.length - k ∧ k ≤ u.length ∧ m₁ (Str.ofString "a") = some (.str a ta) ∧ m₁ (Str.ofString "b") = some (.str b tb) ∧ m₁ (Str.ofString "max_cost") = some (.int 2 tc) ∧ m₁ (Str.ofString "pre") = some (.int (k : Nat) t)) F2 N2 ⟨rfl, 0, _, rfl, Nat.zero_le _, rfl, rfl, rfl, rfl⟩ ?_
    case hE => walk1
    clear F2 N2
    rintro n m₁ nx h₁ tk₁ F₁ N₁ ⟨rfl, k, t, rfl, hkd, e1, e2, e3, e4⟩
    refine foldQ ?_; intro qloop8
    replace N₁ := N₁
    replace F₁ := fr_eq (m' := fun y => if y = Str.ofString "pre" then some (Value.int (k : Nat) t) else if y = Str.ofString "max_cost" then some (Value.int 2 tc) else if y = Str.ofString "b" then some (Value.str b tb) else if y = Str.ofString "a" then some (Value.str a ta) else m₁ y) F₁ (by first | (intro y; (repeat (first | with_reducible rfl | refine abS ?_ | (refine ab ?_ ?_; assumption) | fail "ab")); done) | (intro y; (repeat' split) <;> simp_all))
    have hsa : Txt.slice a (some (k : Int)) none = ofL ((u ++ x :: v).drop k) := by rw [hA]; exact slice_from (by simp; omega)
    have hsb : Txt.slice b (some (k : Int)) none = ofL ((u ++ y :: v).drop k) := by rw [hB]; exact slice_from (by simp; omega)
    have hk100 := leL hkd huv
    have hka := kLt hal hkd
    have hkb := kLt hbl hkd
    have hsla : (Txt.slice a (some (k : Int)) none).length ≤ 100 := by rw [hsa]; exact dropL hA ha
    have hslb : (Txt.slice b (some (k : Int)) none).length ≤ 100 := by rw [hsb]; exact dropL hB hb
    refine foldM F₁ ?_; clear F₁; intro mfr1 F₁
    ktn_open
    all_goals (try dsimp only)
    · rename (Txt.item a _ == Txt.item b _) = true => heq
      with_reducible rename Fr _ _ _ _ => FEnd; refine foldM FEnd ?_; clear FEnd; intro mEnd FEnd
      refine while_end (n' := a.length - (k + 1)) (by assumption) (by assumption) (wDec2 (kLt hal hkd)) ⟨rfl, k + 1, _, rfl, ?_, rfl, rfl, rfl, rfl⟩
      rcases Nat.lt_or_ge k u.length with hk1 | hk1
      · omega
      · exfalso
        obtain rfl : k = u.length := by omega
        rw [hA, hB, item_mid, item_mid] at heq
        exact hxy (List.cons.inj (ofL_inj (beq_iff_eq.mp heq))).1
    · rename (Txt.item a _ == Txt.item b _) = false => heq
      have hku : k = u.length := by
        rcases Nat.lt_or_ge k u.length with hk1 | hk1
        · exfalso
          rw [hA, hB, item_pre hk1, item_pre hk1, beq_self_eq_true] at heq
          cases heq
        · omega
      subst hku
      exact ⟨rfl, _, _, t, m₁, rfl, by assumption, by assumption⟩
    · rename ((Txt.slice b _ _).length : Int) = 0 => heq
      exfalso
      rw [hsb, ofL_len] at heq
      simp at heq
      omega
    · rename ((Txt.slice a _ _).length : Int) = 0 => heq
      exfalso
      rw [hsa, ofL_len] at heq
      simp at heq
      omega
  · rintro f s' ⟨rfl, h', tk, t, m', rfl, F3, N3⟩
    clear F2 N2
    (try dsimp only)
    ktn_open
    rename Fr g1 _ _ _ => F4
    rename News g1 _ _ _ => N4
    have hsa : Txt.slice a (some (u.length : Int)) none = ofL (x :: v) := by rw [hA, slice_from (by simp), List.drop_left]
    have hsb : Txt.slice b (some (u.length : Int)) none = ofL (y :: v) := by rw [hB, slice_from (by simp), List.drop_left]
    generalize Txt.slice a (some (u.length : Int)) none = a1 at *
    generalize Txt.slice b (some (u.length : Int)) none = b1 at *
    have hal1 : a1.length = v.length + 1 := by rw [hsa, ofL_len]; simp
    have hbl1 : b1.length = v.length + 1 := by rw [hsb, ofL_len]; simp
    have ha1 : a1.length ≤ 100 := by omega
    have hb1 : b1.length ≤ 100 := by omega
    replace F4 := F4
    replace N4 := N4
    refine wpAny_mono (Q := Shut fun f s' => f = .next ∧ ∃ (h' : Heap) (tk t1 t2 t3 : Nat) (m' : Str → Option Value), s' = { s with heap := h', toks := tk } ∧ Fr g1 L1 h' (fun y => if y = Str.ofString "post" then some (Value.int (-(v.length : Int)) t3) else if y = Str.ofString "max_cost" then some (Value.int 2 tc) else if y = Str.ofString "b" then some (Value.str b1 t2) else if y = Str.ofString "a" then some (Value.str a1 t1) else m' y) ∧ News g1 L1 h' news) ?_ ?_ (fun _ _ e => e)
    · unfold Shut
      refine While_H (hE := ?hE) (n₀ := v.length + 1) (fun n m₁ nx => nx = news ∧ ∃ (j : Nat) (q : Int) (t1 t2 t3 : Nat), n = v.length + 1 - j ∧ q = -(j : Int) ∧ j ≤ v.length ∧ m₁ (Str.ofString "a") = some (.str a1 t1) ∧ m₁ (Str.ofString "b") = some (.str b1 t2) ∧ m₁ (Str.ofString "max_cost") = some (.int 2 tc) ∧ m₁ (Str.ofString "post") = some (.int q t3)) F4 N4 ⟨rfl, 0, _, _, _, _, rfl, rfl, Nat.zero_le _, rfl, rfl, rfl, rfl⟩ ?_
      case hE => walk1
      clear F4 N4
      rintro n m₁ nx h₁ tk₁ F₁ N₁ ⟨rfl, j, _, t1, t2, t3, rfl, rfl, hj, e1, e2, e3, e4⟩
      refine foldQ ?_; intro qloop9
      replace N₁ := N₁
      replace F₁ := fr_eq (m' := fun y => if y = Str.ofString "post" then some (Value.int (-(j : Int)) t3) else if y = Str.ofString "max_cost" then some (Value.int 2 tc) else if y = Str.ofString "b" then some (Value.str b1 t2) else if y = Str.ofString "a" then some (Value.str a1 t1) else m₁ y) F₁ (by first | (intro y; (repeat (first | with_reducible rfl | refine abS ?_ | (refine ab ?_ ?_; assumption) | fail "ab")); done) | (intro y; (repeat' split) <;> simp_all))
      rcases Nat.eq_zero_or_pos j with rfl | hj0
      · replace F₁ : Fr g1 L1 h₁ (fun y => if y = Str.ofString "post" then some (Value.int 0 t3) else if y = Str.ofString "max_cost" then some (Value.int 2 tc) else if y = Str.ofString "b" then some (Value.str b1 t2) else if y = Str.ofString "a" then some (Value.str a1 t1) else m₁ y) := F₁
        have hs1 : (Txt.slice a1 none none).length = v.length + 1 := by rw [slice_all]; exact hal1
        have hs2 : (Txt.slice b1 none none).length = v.length + 1 := by rw [slice_all]; exact hbl1
        have hs1l := subLe (j := 0) hs1 (hal1 ▸ ha1)
        obtain ⟨hp1, hp2⟩ := jb0 (n := a1.length) (by rw [hal1]; exact Nat.le_add_left _ _)
        obtain ⟨hp3, hp4⟩ := jb0 (n := b1.length) (by rw [hbl1]; exact Nat.le_add_left _ _)
        have hs2l := subLe (j := 0) hs2 (hal1 ▸ ha1)
        ktn_open
        · rename (Txt.item a1 _ == Txt.item b1 _) = true => heq
          exact while_end (n' := v.length + 1 - (0 + 1)) (by assumption) (by assumption) (wDec hj) ⟨rfl, 0 + 1, _, _, _, _, rfl, rfl, levLt (j := 0) hsa hsb hxy hj heq, rfl, rfl, rfl, rfl⟩
        · rename (Txt.item a1 _ == Txt.item b1 _) = false => heq
          have hjv := levEq (j := 0) hsa hsb hj heq
          refine ⟨rfl, _, _, t1, t2, t3, m₁, rfl, ?_, by assumption⟩
          rw [← hjv]
          assumption
        all_goals (exfalso; first | exact noZero (j := 0) hs1 (Nat.zero_le _) (by assumption) | exact noZero (j := 0) hs2 (Nat.zero_le _) (by assumption) | omega)
      · have hj1 : -(j : Int) ≠ 0 := by omega
        have hs1 : (Txt.slice a1 none (some (-(j : Int)))).length = v.length + 1 - j := by rw [slice_neg_len hsa hj0 (by simp; omega)]; simp
        have hs2 : (Txt.slice b1 none (some (-(j : Int)))).length = v.length + 1 - j := by rw [slice_neg_len hsb hj0 (by simp; omega)]; simp
        have hs1l := subLe hs1 (hal1 ▸ ha1)
        obtain ⟨hp1, hp2, hp3, hp4⟩ := jb (j := j) (n := a1.length) (by rw [hal1]; exact Nat.succ_le_succ hj) ha1
        obtain ⟨_, _, hp5, hp6⟩ := jb (j := j) (n := b1.length) (by rw [hbl1]; exact Nat.succ_le_succ hj) hb1
        have hs2l := subLe hs2 (hal1 ▸ ha1)
        ktn_open
        · rename (Txt.item a1 _ == Txt.item b1 _) = true => heq
          with_reducible rename Fr _ _ _ _ => FEnd; refine foldM FEnd ?_; clear FEnd; intro mEnd FEnd
          refine while_end (n' := v.length + 1 - (j + 1)) (by assumption) (by assumption) (wDec hj) ⟨rfl, j + 1, _, _, _, _, rfl, ?_, levLt hsa hsb hxy hj heq, rfl, rfl, rfl, rfl⟩
          omega
        · rename (Txt.item a1 _ == Txt.item b1 _) = false => heq
          have hjv := levEq hsa hsb hj heq
          subst hjv
          exact ⟨rfl, _, _, t1, t2, t3, m₁, rfl, by assumption, by assumption⟩
        all_goals (exfalso; first | exact noZero hs1 hj (by assumption) | exact noZero hs2 hj (by assumption) | omega)
    · rintro f s' ⟨rfl, h', tk, t1, t2, t3, m', rfl, F5, N5⟩
      clear F4 N4
      (try dsimp only)
      refine execs_cut2 (fun s' => ∃ (h' : Heap) (tk t1 t2 : Nat) (m' : Str → Option Value), s' = { s with heap := h', toks := tk } ∧ Fr g1 L1 h' (fun z => if z = Str.ofString "max_cost" then some (Value.int 2 tc) else if z = Str.ofString "b" then some (Value.str (ofL [y]) t2) else if z = Str.ofString "a" then some (Value.str (ofL [x]) t1) else m' z) ∧ News g1 L1 h' news) ?_ ?_
      · have fin : ∀ {h' : Heap} {tk q1 q2 t1 t2 : Nat} {va vb : Str} {m' : Str → Option Value}, va = ofL [x] → vb = ofL [y] → Fr g1 L1 h' (fun z => if z = Str.ofString "b" then some (Value.str vb t2) else if z = Str.ofString "a" then some (Value.str va t1) else m' z) → m' (Str.ofString "max_cost") = some (Value.int 2 tc) → News g1 L1 h' news →
            (∃ (h'' : Heap) (tk' t1 t2 : Nat) (m' : Str → Option Value), ({ s with heap := h', toks := tk } : Shared) = { s with heap := h'', toks := tk' } ∧ Fr g1 L1 h'' (fun z => if z = Str.ofString "max_cost" then some (Value.int 2 tc) else if z = Str.ofString "b" then some (Value.str (ofL [y]) t2) else if z = Str.ofString "a" then some (Value.str (ofL [x]) t1) else m' z) ∧ News g1 L1 h'' news) := by
          rintro h' tk q1 q2 t1 t2 va vb m' rfl rfl F hmc N
          refine ⟨h', tk, t1, t2, m', rfl, fr_eq F ?_, N⟩
          intro z
          by_cases hz : z = Str.ofString "max_cost"
          · subst hz
            rw [if_neg (by decide), if_neg (by decide), if_pos rfl, hmc]
          · rw [if_neg hz]
        rcases Nat.eq_zero_or_pos v.length with hv0 | hv0
        · rw [hv0] at F5
          replace F5 : Fr g1 L1 h' (fun y => if y = Str.ofString "post" then some (Value.int 0 t3) else if y = Str.ofString "max_cost" then some (Value.int 2 tc) else if y = Str.ofString "b" then some (Value.str b1 t2) else if y = Str.ofString "a" then some (Value.str a1 t1) else m' y) := F5
          ktn_open
          have e0 : v = [] := List.eq_nil_of_length_eq_zero hv0
          refine ⟨rfl, fin (q1 := 0) (q2 := 0) ?_ ?_ (by assumption) (by rfl) (by assumption)⟩
          · rw [slice_all, hsa, e0]
          · rw [slice_all, hsb, e0]
        · have hj1 : -(v.length : Int) ≠ 0 := by omega
          ktn_open
          · refine ⟨rfl, fin (q1 := 0) (q2 := 0) ?_ ?_ (by assumption) (by rfl) (by assumption)⟩
            · rw [hsa, slice_neg hv0 (by simp), List.length_cons, Nat.add_sub_cancel_left]; rfl
            · rw [hsb, slice_neg hv0 (by simp), List.length_cons, Nat.add_sub_cancel_left]; rfl
          all_goals (exfalso; omega)
      · rintro s' ⟨h', tk, t1, t2, m', rfl, F6, N6⟩
        clear F5 N5
        have hix : Txt.item (ofL [x]) 0 = ofL [x] := item_pos (k := 0) rfl
        have hiy : Txt.item (ofL [y]) 0 = ofL [y] := item_pos (k := 0) rfl
        have hne : (ofL [y] == ofL [x]) = false := by
          rw [ofL_beq]
          have := hxy
          simp
          omega
        have ha2 : (ofL [x]).length = 1 := ofL_len _
        have hb2 : (ofL [y]).length = 1 := ofL_len _
        generalize hga : ofL [x] = a2 at *
        generalize hgb : ofL [y] = b2 at *
        replace F6 := F6
        replace N6 := N6
        ktn_open
        refine' callsUse (costC w p loose mean mg mb _ _ _ _ _ (by omega) (by omega) (by show (Txt.item b2 0 == Txt.item a2 0) = false; rw [hiy, hix]; exact hne) (by show (Txt.lower (Txt.item b2 0) == Txt.lower (Txt.item a2 0)) = false; rw [hiy, hix]; exact hlo)) ?k1 ?k2 ?k3 ?k4 ?k5 ?kK ?kd ?ku ?kR
        tb_rel
        intro h' t tk' F' N'
        (try dsimp only)
        ktn_open
        exact hret _ _ _ (by assumption) (news_sub (l := (_, _) :: news) (by assumption) (fun _ hp => .tail _ hp))
end
theorem levSame (w : World) (p : Program) (loose : List Str) (mean : ExcName → Option Value) (mg mb : Str → Option Value) (news : List (Addr × Obj)) (a b : Str) (ta tb tc : Tok) (ha : a.length ≤ 100) (hb : b.length ≤ 100) (hab : (a == b) = true) :
    Calls w (hd.heap_1 w.params) p loose mean mg mb 115 2 16 news [.str a ta, .str b tb, .int 2 tc] (fun h₀ L m s Q => ∀ h' t tk', Fr h₀ L h' m → News h₀ L h' news → Q (.int 0 t) { s with heap := h', toks := tk' }) PySem.Challenge.pw_to0083_01 := by
  intro dp un gd cn cs ad ccd cl outer A₀ base h₀ L m s Q E B F X N T hk hd hu hret
  refine wpAny_call ?_
  k_dflt cell_enter
  rename_i g1 L1 h1 FG1 F0 N1 B1 X1 T1
  ktn_open
  exact hret _ _ _ (by assumption) (by assumption)
end
section
local macro_rules | `(tactic| k_all) => `(tactic| assumption)
theorem wakeCClass : True ∧ True := by
  w_top off
  first | (walk1; fail) | exact ⟨trivial, trivial⟩
theorem nameRow {h₀ h : Heap} {L D : Addr} {a b c d : Int} {ta tb tc td : Tok} {nx : List (Addr × Obj)} (N : News h₀ L h ((D, LCg.lst [.int a ta, .int b tb, .int c tc, .int d td]) :: nx)) : ∃ t0 t1 t2 t3 k', News h₀ L h ((D, W.listOf #[.int a t0, .int b t1, .int c t2, .int d t3] k') :: nx) := ⟨_, _, _, _, _, N⟩
theorem nameCell {h₀ h : Heap} {L c : Addr} {o : Obj} {v : Option Value} {x y : Addr × Obj} {nx : List (Addr × Obj)} (N : News h₀ L h (x :: y :: (c, o) :: nx)) (d : o.data = .cell v) : ∃ o', o'.data = .cell v ∧ News h₀ L h (x :: y :: (c, o') :: nx) := ⟨o, d, N⟩
section
local macro_rules | `(tactic| tb_start) => `(tactic| with_reducible first | refine Mine.atB2 ?_ | refine Mine.atSrc ?_ | refine Mine.atFor ?_ | refine Mine.atLoop ?_)
local macro_rules | `(tactic| walk_at "subscriptTail Name UnaryOp ref int") => `(tactic| (refine last_N (by assumption) (by k_mem) (by assumption) ?_))
local macro_rules | `(tactic| walk_at "CompEnd") => `(tactic| (k_dflt (refine LCg.CompEnd.intro (by assumption) (by assumption) _ (fun p hp => hp) (by assumption) True.intro ?_)))
local macro_rules | `(tactic| walk_at "subscriptTail Name Name ref int") => `(tactic| (k_dflt (refine item_N (l := [_, _, _, _]) (by assumption) (by k_mem) (by decide) (by decide) (by rfl) ?_)))
local macro_rules | `(tactic| walk_at "subscriptTail Name BinOp ref int") => `(tactic| (k_dflt (refine item_N (l := [_, _, _, _]) (by assumption) (by k_mem) (by decide) (by decide) (by rfl) ?_)))
theorem classC (w : World) (p : Program) (loose : List Str) (mean : ExcName → Option Value) (mg mb : Str → Option Value) (news : List (Addr × Obj)) (n : Nat) (tn : Tok) (hn : n ≤ 90) :
    Calls w (hd.heap_1 w.params) p loose mean mg mb 257 2 16 news [.int n tn] (fun h₀ L m s Q => ∀ (r : Addr) (vs : List Value) (k : Nat) (rws : List (Addr × Obj)) h' tk', Fr h₀ L h' m → News h₀ L h' ((r, W.listOf vs.toArray k) :: rws) → (∀ p ∈ news, p ∈ rws) → vs.length = n + 1 → (∀ j, j ≤ n → ∃ v, vs[j]? = some v ∧ RowIn rws v (rowAt j)) → Q (.ref r) { s with heap := h', toks := tk' }) PySem.Challenge.pw_to0083_01 := by
  intro dp un gd cn cs ad ccd cl outer A₀ base h₀ L m s Q E B F X N T hk hd hu hret
  refine wpAny_call ?_
  k_dflt (refine' code_defC ?k1 ?k2 ?k3 ?k4 ?k5 ?kA ?kF ?kK ?k6 ?k7 ?k8 ?k9 ?kB ?kD ?_ ?c2 ?c3 ?c4; (case kA => exact rfl); (case kF => exact rfl); (case kK => assumption); (case k1 => k_asm); (case k2 => k_asm); (case k3 => k_asm); (case k4 => k_asm); (case k5 => k_asm); (case k6 => k_is); (case k7 => k_is); (case k8 => ktr_room); (case k9 => exact BindsTo.of_eq rfl); (case kB => exact rfl); (case kD => decide +kernel); (case c2 => exact rfl); (case c3 => exact rfl); (case c4 => exact rfl); k_whole; intro g' L' h' tk' cells' FG' F' N' Y' B' X' T' l1; k_cells Y'; (try simp only [List.cons_append, List.nil_append] at N'); (try dsimp only); (try k_lift B'); (try k_fold))
  rename_i o1 d1
  replace d1 : o1.data = .cell none := d1
  replace F' := fr_eq (m' := fun y => if y = Str.ofString "count" then some (Value.int n tn) else none) F' (by intro y; show bindL _ [(Str.ofString "count", Value.int n tn)] _ y = _; show bindL _ [(Str.ofString "count", Value.int n tn)] _ y = _; rfl)
  refine foldM F' ?_; clear F'; intro mfr0 F'
  ktn_open
  rename_i lr _ hl1 r _ hl2 _ F2 N2
  refine For_invV (hE := ?hE) g' (by rfl) (by rfl) ?_ (fun _ => rfl)
  case hE => walk1
  ktn_open
  rename IsRange _ _ _ _ _ _ _ _ => hr
  refine range_I (n := n) (fun i m₁ nx => ∃ (o : Obj) (cv : Option Value) (vs : List Value) (l : Addr) (k k' t0 t1 t2 t3 : Nat) (old : List (Addr × Obj)), nx = (L' + 1, o) :: (r, W.listOf (vs ++ [Value.ref l]).toArray k) :: (l, W.listOf #[.int (rowAt i).1 t0, .int (rowAt i).2.1 t1, .int (rowAt i).2.2.1 t2, .int (rowAt i).2.2.2 t3] k') :: old ∧ o.data = .cell cv ∧ vs.length = i ∧ (∀ j, j < i → ∃ v, vs[j]? = some v ∧ RowIn old v (rowAt j)) ∧ @Ne Nat (L' + 1) r ∧ @Ne Nat (L' + 1) l ∧ @Ne Nat r l ∧ (∀ p ∈ old, p.1 ≠ L' + 1) ∧ (∀ p ∈ old, p.1 ≠ r) ∧ (∀ p ∈ news, p ∈ old) ∧ m₁ (Str.ofString "count") = some (.int n tn) ∧ m₁ (Str.ofString "rows") = some (.ref r)) rfl hr (small_le8 (by omega)) (size_le8 n) (by assumption) (news := (L' + 1, o1) :: (r, W.listOf ([] ++ [Value.ref lr]).toArray 0) :: (lr, W.listOf #[Value.int 1 tk', Value.int 0 (tk' + 1), Value.int 0 (tk' + 1 + 1), Value.int 0 (tk' + 1 + 1 + 1)] 0) :: news) (news_sub (l := (r, W.listOf #[Value.ref lr] 0) :: (lr, W.listOf #[Value.int 1 tk', Value.int 0 (tk' + 1), Value.int 0 (tk' + 1 + 1), Value.int 0 (tk' + 1 + 1 + 1)] 0) :: (L' + 1, o1) :: news) (by assumption) ?sub0) ?h0 ?step ?done
  case sub0 =>
    intro p hp
    rcases List.mem_cons.mp hp with rfl | hp
    · exact .tail _ (.tail _ (.head _))
    rcases List.mem_cons.mp hp with rfl | hp
    · exact .head _
    rcases List.mem_cons.mp hp with rfl | hp
    · exact .tail _ (.head _)
    · exact .tail _ (.tail _ (.tail _ hp))
  case h0 =>
    refine ⟨o1, none, [], lr, 0, 0, _, _, _, _, news, rfl, d1, rfl, fun j hj => absurd hj (Nat.not_lt_zero j), Nat.ne_of_lt hl2.2.1, Nat.ne_of_lt hl1.1, Nat.ne_of_gt hl2.1, fun p hp => ?_, fun p hp => ?_, fun _ hp => hp, rfl, rfl⟩
    · exact Nat.ne_of_lt (Nat.lt_succ_of_lt (l1 p hp))
    · exact Nat.ne_of_lt (Nat.lt_trans (Nat.lt_succ_of_lt (l1 p hp)) hl2.2.1)
  case done =>
    rintro m₁ nx h tk ⟨o, cv, vs, l, k, k', t0, t1, t2, t3, old, rfl, hcv, hvl, hvs, hn1, hn2, hn3, ho1, ho2, hno, hm1, hm2⟩ F₁ N₁
    replace F₁ := fr_eq (m' := fun y => if y = Str.ofString "rows" then some (Value.ref r) else m₁ y) F₁ (by first | (intro y; (repeat (first | with_reducible rfl | refine abS ?_ | (refine ab ?_ ?_; assumption) | fail "ab")); done) | (intro y; (repeat' split) <;> simp_all))
    (try dsimp only)
    refine foldM F₁ ?_; clear F₁; intro mfr1 F₁
    ktn_open
    refine hret r (vs ++ [Value.ref l]) k ((L' + 1, o) :: (l, W.listOf #[.int (rowAt n).1 t0, .int (rowAt n).2.1 t1, .int (rowAt n).2.2.1 t2, .int (rowAt n).2.2.2 t3] k') :: old) _ _ (by assumption) (news_out (a := [_]) (by assumption)) (fun p hp => .tail _ (.tail _ (hno p hp))) (by simp [hvl]) ?_
    intro j hj
    rcases Nat.lt_or_ge j n with h1 | h1
    · obtain ⟨v, hv, hrow⟩ := hvs j h1
      exact ⟨v, by rw [List.getElem?_append_left (by omega)]; exact hv, hrow.sub fun _ hp => .tail _ (.tail _ hp)⟩
    · obtain rfl : j = n := by omega
      exact ⟨_, by rw [← hvl]; simp, l, k', t0, t1, t2, t3, rfl, .tail _ (.head _)⟩
  case step =>
    rintro I i m₁ nx t h tk hI hi ⟨o, cv, vs, l, k, k', t0, t1, t2, t3, old, rfl, hcv, hvl, hvs, hn1, hn2, hn3, ho1, ho2, hno, hm1, hm2⟩ hoff F₁ N₁
    refine foldQ ?_; intro qloop2
    rcases hq : rowAt i with ⟨q0, q1, q2, q3⟩
    rw [hq] at N₁
    dsimp only at N₁
    have hlast : (vs ++ [Value.ref l]).getLast? = some (.ref l) := by simp
    have hvl1 : (vs ++ [Value.ref l]).length ≤ 10000 := by simp; omega
    have hvl2 : (vs ++ [Value.ref l]).length = i + 1 := by simp; omega
    have hvj : ∀ j, j < i → (vs ++ [Value.ref l])[j]? = vs[j]? := fun j hj => List.getElem?_append_left (by omega)
    have hvi : (vs ++ [Value.ref l])[i]? = some (.ref l) := by rw [← hvl]; simp
    generalize vs ++ [Value.ref l] = vs1 at *
    have hI1 : @Ne Nat (L' + 1) I := hoff _ (.head _)
    have hI2 : @Ne Nat r I := hoff _ (.tail _ (.head _))
    have hI3 : @Ne Nat l I := hoff _ (.tail _ (.tail _ (.head _)))
    replace N₁ := N₁
    replace F₁ := fr_eq (m' := fun y => if y = Str.ofString "disk" then some (Value.int (0 + (i : Int) * 1) t) else if y = Str.ofString "rows" then some (Value.ref r) else if y = Str.ofString "count" then some (Value.int n tn) else m₁ y) F₁ (by first | (intro y; (repeat (first | with_reducible rfl | refine abS ?_ | (refine ab ?_ ?_; assumption) | fail "ab")); done) | (intro y; (repeat' split) <;> simp_all))
    refine foldM F₁ ?_; clear F₁; intro mfr2 F₁
    ktn_open
    refine LCg.CompSrc.range (n := 4) (by rfl) (by k_asm) (by k_asm) (by assumption) (by decide) (by decide) (by first | size_fits | exact Nat.le_of_ble_eq_true rfl) ?_
    intro gg
    ktn_open
    rename_i D9 hD9 tk9 FF9 N9 o9
    obtain ⟨s0, s1, s2, s3, k9, N9⟩ := nameRow N9
    rename (Obj.data _ = Data.cell (some (Value.ref l))) => d9
    obtain ⟨oc, dc, N9⟩ := nameCell N9 d9
    obtain ⟨o91, o92, o93, o94, o95⟩ := o9
    have N8 := news_out (a := [_, _, _]) N9
    simp only [List.cons_append, List.nil_append] at N8
    refine append_H (by assumption) N8 ?hne hvl1 ?_
    case hne =>
      intro p hp
      rcases List.mem_cons.mp hp with rfl | hp
      · exact Ne.symm o93
      rcases List.mem_cons.mp hp with rfl | hp
      · exact Ne.symm hI2
      rcases List.mem_cons.mp hp with rfl | hp
      · exact hn1
      rcases List.mem_cons.mp hp with rfl | hp
      · exact Ne.symm hn3
      · exact ho2 p hp
    intro h9 F9 N10
    (try dsimp only)
    ktn_open
    have hr1 : rowAt (i + 1) = (q0 + q1 + q2, q1 + q0 + q3, q2 + q3 + q0, q3 + q2 + q1) := by simp only [rowAt, hq]
    with_reducible rename Fr _ _ _ _ => FEnd; refine foldM FEnd ?_; clear FEnd; intro mEnd FEnd
    refine turn_end (I := I) (by assumption) (news_sub N10 ?sub) ?off ⟨oc, some (.ref l), vs1, D9, k + 1, k9, s0, s1, s2, s3, (l, W.listOf #[Value.int q0 t0, Value.int q1 t1, Value.int q2 t2, Value.int q3 t3] k') :: old, by rw [hr1], dc, hvl2, ?hrows, hn1, o92, o93, ?ho1, ?ho2, fun _ hp => .tail _ (hno _ hp), rfl, rfl⟩
    case sub =>
      intro p hp
      rcases List.mem_cons.mp hp with rfl | hp
      · exact .tail _ (.tail _ (.head _))
      rcases List.mem_cons.mp hp with rfl | hp
      · exact .tail _ (.tail _ (.tail _ (.head _)))
      rcases List.mem_cons.mp hp with rfl | hp
      · exact .head _
      rcases List.mem_cons.mp hp with rfl | hp
      · exact .tail _ (.head _)
      · exact .tail _ (.tail _ (.tail _ (.tail _ hp)))
    case off =>
      intro p hp
      rcases List.mem_cons.mp hp with rfl | hp
      · exact hI1
      rcases List.mem_cons.mp hp with rfl | hp
      · exact hI2
      rcases List.mem_cons.mp hp with rfl | hp
      · exact Ne.symm o91
      rcases List.mem_cons.mp hp with rfl | hp
      · exact hI3
      · exact hoff p (.tail _ (.tail _ (.tail _ hp)))
    case ho1 =>
      intro p hp
      rcases List.mem_cons.mp hp with rfl | hp
      · exact Ne.symm hn2
      · exact ho1 p hp
    case ho2 =>
      intro p hp
      rcases List.mem_cons.mp hp with rfl | hp
      · exact Ne.symm hn3
      · exact ho2 p hp
    case hrows =>
      intro j hj
      rcases Nat.lt_or_ge j i with h1 | h1
      · obtain ⟨v, hv, hrow⟩ := hvs j h1
        exact ⟨v, by rw [hvj j h1]; exact hv, hrow.sub fun _ hp => .tail _ hp⟩
      · obtain rfl : j = i := by omega
        exact ⟨_, hvi, l, k', t0, t1, t2, t3, rfl, by rw [hq]; exact .head _⟩
end
theorem wakeCGen : True ∧ True := by
  w_top off
  first | (walk1; fail) | exact ⟨trivial, trivial⟩
section
local macro_rules | `(tactic| tb_start) => `(tactic| with_reducible first | refine Mine.atSeg ?_ | refine Mine.atSegI ?_ | refine Mine.atShut ?_)
theorem escLoop (w : World) (p : Program) (loose : List Str) (mean : ExcName → Option Value) (mg mb : Str → Option Value) {qual : Str} {s1 s2 post : Stmt} {tgt iter : Expr} {fb : List Stmt} {pf : Pos} {scope : Scope}
    (hdef : fnAt (_root_.hd.heap_1 w.params) 80 = some (qual, [s1, s2, .For tgt iter fb [] pf, post], scope))
    {h₀ : Heap} {C e it : Addr} {cs : List Nat} {x : Str} {t : Tok} (hx : x = ofL cs) (hc92 : ∀ c ∈ cs, c ≠ 92) (hCe : @Ne Nat C e) (hCi : @Ne Nat C it) (hei : @Ne Nat e it) (h0e : h₀.get? e = none) (h0i : h₀.get? it = none)
    (T00 : Top p loose mean mg mb h₀) (X00 : (_root_.hd.heap_1 w.params).In h₀) (A : Around) (hA : A.handled = none) (pp : Pos) (c0 : Code)
    (K : Flow → Sem Fin) (H : Value → Sem Fin)
    (hK : ∀ (s₀ s : Shared) m, Fr h₀ C s.heap m → m (Str.ofString "escape") = some (.bool false) → (∃ h' tk, s = { s₀ with heap := h', toks := tk } ∧ Pv C [e, it] s₀.heap h') → Seg (model PySem.Challenge.pw_to0083_01 w) A (escR C e it) (escY h₀ C e it cs) 0 s₀ c0 (K .next) [] s) :
    ∀ (k i : Nat), cs.length - i = k → i ≤ cs.length → ∀ (s₀ s : Shared) m, Fr h₀ C s.heap m → m (Str.ofString "escape") = some (.bool false) → ((∃ old, IsEnum s.heap e it ((i : Nat) : Int) old) ∧ s.heap.IsStrIter it "str_ascii_iterator" x t i) → (∃ h' tk, s = { s₀ with heap := h', toks := tk } ∧ Pv C [e, it] s₀.heap h') →
      Seg (model PySem.Challenge.pw_to0083_01 w) A (escR C e it) (escY h₀ C e it cs) k s₀ (.forLoop tgt (.ref e) fb [] (envOf qual scope C 80 (.ref 79))) ((model PySem.Challenge.pw_to0083_01 w).den (.forLoop tgt (.ref e) fb [] (envOf qual scope C 80 (.ref 79)))) [sgFrame (envOf qual scope C 80 (.ref 79)) K H id id c0 pp] s := by
  have h2 : some (_, [_, _, .For _ _ _ [] _, _], _) = some (qual, [s1, s2, .For tgt iter fb [] pf, post], scope) := hdef
  simp only [Option.some.injEq, Prod.mk.injEq, List.cons.injEq, Stmt.For.injEq] at h2
  clear hdef
  obtain ⟨rfl, ⟨-, -, ⟨rfl, -, rfl, -, -⟩, -, -⟩, rfl⟩ := h2
  obtain ⟨ah, adp, af, ag, au⟩ := A
  replace hA : ah = none := hA
  subst hA
  have heI : e ∉ [it] := fun h => hei (List.mem_singleton.mp h)
  have hCx : C ∉ [e, it] := fun h => by
    rcases List.mem_cons.mp h with h | h
    · exact hCe h
    · exact hCi (List.mem_singleton.mp h)
  have h0x : ∀ b ∈ [e, it], h₀.get? b = none := fun b h => by
    rcases List.mem_cons.mp h with rfl | h
    · exact h0e
    · rw [List.mem_singleton.mp h]; exact h0i
  have hsz : x.cps.size = cs.length := by rw [hx]; simp
  have WT := fun (A' : Around) (hA' : A'.handled = none) => WalksT.enumerateD (prog := PySem.Challenge.pw_to0083_01) (w := w) (A := A') (Draws.strAscii (A := A'.in1) hA' it x t) e hei heI (.head _)
  intro k
  induction k with
  | zero =>
    intro i hk hi s₀ s m F hm hst hsince
    obtain rfl : i = cs.length := by omega
    refine sgLoop ?_
    rw [← hsz] at hst
    refine (WT (Around.over _ _ _) (by exact rfl)).done s _ _ hst fun h' tk hk' => ?_
    (try dsimp only)
    refine seg_again rfl ?_
    show Seg _ _ _ _ _ _ _ (leafOf (.ok .next)) _ _
    refine seg_leaf (.ok .next) ?_
    show Seg _ _ _ _ _ _ _ (K .next) _ _
    obtain ⟨h9, tk9, rfl, hp9⟩ := hsince
    exact hK s₀ _ m (frKeep F hCx h0x hk') hm ⟨h', tk, rfl, hp9.trans fun b o _ hb e => hk' b o hb e⟩
  | succ k ih =>
    intro i hk hi s₀ s m F hm hst hsince
    have hlt : i < x.cps.size := by omega
    have hCs : @LT.lt Nat _ C s.heap.objs.size := F.ns.lt
    refine sgLoop ?_
    refine (WT (Around.over _ _ _) (by exact rfl)).item i s _ _ hlt hst fun T' vals h1 tk1 hPt hTge hT hMid hk1 => ?_
    obtain ⟨ti, v, ⟨c, u, hc, rfl⟩, rfl⟩ := hPt
    have hTx := (WT ⟨none, adp, af, ag, au⟩ rfl).apart _ _ _ hMid
    (try dsimp only)
    refine (WT (Around.over _ _ _) (by exact rfl)).go _ _ _ i T' _ _ _ hMid fun h2 hst2 hk2 => ?_
    dsimp only at hk2 ⊢
    have F2 : Fr h₀ C h2 m := frKeep (frKeep F hCx h0x hk1) hCx h0x hk2
    obtain ⟨oT, hoT, hcT, nT, hdT⟩ := hT
    have hoT2 := hk2 T' oT hTx hoT
    obtain ⟨kept, Nk, hkx, hkept⟩ := all_news h₀ h2 C [e, it]
    obtain ⟨⟨olde, hse⟩, oi, hoi, hci, hdi⟩ := hst2
    obtain ⟨oTc, oTd, oTdt, oTs⟩ := oT
    dsimp only at hcT hdT
    subst hcT hdT
    have hCT : @Ne Nat T' C := by
      intro hh
      have h3 := F.ns.lt
      rw [hh] at hTge
      exact absurd hTge (Nat.not_le.mpr h3)
    have hT0 : h₀.get? T' = none := Heap.get?_none_of_le (Nat.le_trans F.above (Nat.le_trans (Nat.le_of_lt F.ns.lt) hTge))
    have N2 : News h₀ C h2 ((T', _) :: (e, _) :: (it, oi) :: kept) := List.forall_mem_cons.mpr ⟨⟨hoT2, hCT, hT0⟩, List.forall_mem_cons.mpr ⟨⟨hse, hCe.symm, h0e⟩, List.forall_mem_cons.mpr ⟨⟨hoi, hCi.symm, h0i⟩, Nk⟩⟩⟩
    have hxc : (⟨#[c]⟩ == Str.ofString "\\") = false := by
      have h92 : c ≠ 92 := by
        refine hc92 c ?_
        rw [hx] at hc
        exact List.mem_of_getElem? (by simpa using hc)
      have : Str.ofString "\\" = (⟨#[92]⟩ : Str) := by decide +kernel
      rw [this, beq_eq_false_iff_ne]
      intro hh
      injection hh with hh
      have := congrArg (fun a : Array Nat => a[0]?) hh
      simp at this
      exact h92 this
    replace F2 := fr_eq (m' := fun y => if y = Str.ofString "escape" then some (.bool false) else m y) F2 (by first | (intro y; (repeat (first | with_reducible rfl | refine abS ?_ | (refine ab ?_ ?_; assumption) | fail "ab")); done) | (intro y; (repeat' split) <;> simp_all))
    have hpv : ∀ h' m' l, Fr h₀ C h' m' → News h₀ C h' l → (∀ p ∈ kept, p ∈ l) → Pv C [e, it] h2 h' := fun h' m' l a b d => pv_of F2 hkept a b d
    ktn_open
    refine seg_execs_cons ?_
    refine sgIf ?_
    ktn_open
    rw [if_neg Bool.false_ne_true]
    refine seg_execs_cons ?_
    refine sgIf ?_
    ktn_open
    try rw [hxc]
    rw [if_neg Bool.false_ne_true]
    refine seg_execs_cons ?_
    refine seg_Expr_Yield rfl rfl rfl ?_
    ktn_open
    rename_i _ _ _ D2 _ FD ND ltD kap hkap
    obtain ⟨h9, tk9, rfl, hp9⟩ := hsince
    replace hCs : @LT.lt Nat _ C h9.objs.size := hCs
    have hsz9 : ∀ b o, s₀.heap.get? b = some o → b < h9.objs.size := by
      intro b o hb
      by_cases hbC : b = C
      · rw [hbC]; exact hCs
      · by_cases hbx : b ∈ [e, it]
        · rcases List.mem_cons.mp hbx with rfl | hbx
          · obtain ⟨⟨old, h4⟩, _⟩ := hst
            exact Heap.lt_size h4
          · obtain ⟨_, o4, h4, _⟩ := hst
            rw [List.mem_singleton.mp hbx]
            exact Heap.lt_size h4
        · exact Heap.lt_size (hp9 b o hbC hbx hb)
    have hD9 : @LE.le Nat _ h9.objs.size T' := hTge
    have hCD : @LT.lt Nat _ C D2 := Nat.lt_of_lt_of_le hCs (Nat.le_trans hD9 (Nat.le_of_lt ltD.1))
    have hni : cs.length - 1 - k = i := by omega
    have hci2 : cs[i]? = some c := by
      rw [hx] at hc
      simpa using hc
    refine ⟨⟨D2, c, ti, u, 0, none, #[], rfl, ?g1, ?g2, ?g3, hCD, ltD.2.1, ltD.2.2.1⟩, ⟨_, _, rfl, ?g4⟩, ⟨?o1, ?o2, ?o3, ?g5, ?g6, ?g7⟩, ?g8⟩
    case g1 => rw [hni]; exact hci2
    case g2 => rw [hni]; exact (ND _ (.head _)).1
    case g3 => intro b o hb; exact Nat.lt_trans (Nat.lt_of_lt_of_le (hsz9 b o hb) hD9) ltD.1
    case g4 =>
      refine hp9.trans (Pv.trans (h' := h2) (fun b o _ hb e => hk2 b o hb (hk1 b o hb e)) (hpv _ _ _ FD ND ?_))
      intro p hp
      exact .tail _ (.tail _ (.tail _ (.tail _ hp)))
    case g6 => exact (ND _ (.tail _ (.tail _ (.head _)))).1
    case g7 => exact (ND _ (.tail _ (.tail _ (.tail _ (.head _))))).1
    case o1 => exact FD.ns.choose
    case g5 => exact FD.ns.choose_spec.choose_spec.choose_spec.1
    case g8 =>
      intro s'' hk0 hlive
      refine hkap _ s'' ?_
      show Seg _ _ _ _ _ _ _ _ _ _
      refine seg_execs_nil ?_
      (try dsimp only)
      refine seg_execs_nil ?_
      (try dsimp only)
      refine seg_execs_nil ?_
      (try dsimp only)
      refine seg_again rfl (ih (i + 1) (by omega) (by omega) s'' s'' _ ⟨FD.ns.at' (fun o e => hlive C (.head _) o e), hk0, FD.above⟩ rfl ⟨⟨olde, hlive e (.tail _ (.head _)) _ (ND _ (.tail _ (.tail _ (.head _)))).1⟩, oi, hlive it (.tail _ (.tail _ (.head _))) oi (ND _ (.tail _ (.tail _ (.tail _ (.head _))))).1, hci, hdi⟩ ⟨s''.heap, s''.toks, rfl, Pv.refl _ _ _⟩)
local macro_rules | `(tactic| tb_start) => `(tactic| with_reducible first | refine Mine.atSeg ?_ | refine Mine.atSegI ?_ | refine Mine.atStore ?_ | refine Mine.atType ?_)
theorem escStart (w : World) (p : Program) (loose : List Str) (mean : ExcName → Option Value) (mg mb : Str → Option Value) {qual : Str} {body : List Stmt} {scope : Scope}
    (hdef : fnAt (_root_.hd.heap_1 w.params) 80 = some (qual, body, scope))
    {h₀ : Heap} {C e it : Addr} {cs : List Nat} {x : Str} {t : Tok} (hx : x = ofL cs) (hc92 : ∀ c ∈ cs, c ≠ 92) (hc128 : ∀ c ∈ cs, c < 128)
    (T : Top p loose mean mg mb h₀) (X : (_root_.hd.heap_1 w.params).In h₀) (A : Around) (hA : A.handled = none) (s : Shared) (m : Str → Option Value) (F : Fr h₀ C s.heap m) (hm : m (Str.ofString "addr") = some (.str x t)) (hit : s.heap.objs.size = it) (he : e = it + 1) :
      Seg (model PySem.Challenge.pw_to0083_01 w) A (escR C e it) (escY h₀ C e it cs) cs.length s (.func body (envOf qual scope C 80 (.ref 79))) ((model PySem.Challenge.pw_to0083_01 w).den (.func body (envOf qual scope C 80 (.ref 79)))) [] s := by
  have h2 : some (_, [_, _, .For _ _ _ [] _, _], _) = some (qual, body, scope) := hdef
  simp only [Option.some.injEq, Prod.mk.injEq] at h2
  clear hdef
  obtain ⟨rfl, rfl, rfl⟩ := h2
  have hA0 := hA
  obtain ⟨ah, adp, af, ag, au⟩ := A
  replace hA : ah = none := hA
  subst hA
  have hCs : @LT.lt Nat _ C s.heap.objs.size := F.ns.lt
  have hab : @LE.le Nat _ h₀.objs.size C := F.above
  refine seg_func ?_
  refine seg_execs_cons (seg_wrap ?_)
  have F1 := F
  ktn_open
  refine wpAny_storeName_local rfl F.ns (fun h1 hn1 hs1 => ?_)
  (try dsimp only)
  refine seg_execs_cons (seg_wrap ?_)
  ktn_open
  refine wpAny_storeName_local rfl hn1 (fun h3 hn3 hs3 => ?_)
  (try dsimp only)
  have F3 : Fr h₀ C h3 _ := ⟨hn3, fun b o eb => hs3.extBut b o (fun hb => Nat.lt_irrefl _ (Nat.lt_of_lt_of_le (Heap.lt_size eb) (hb ▸ hab))) (hs1.extBut b o (fun hb => Nat.lt_irrefl _ (Nat.lt_of_lt_of_le (Heap.lt_size eb) (hb ▸ hab))) (F.keep b o eb)), hab⟩
  have hz3 : h3.objs.size = it := (hs3.1.trans hs1.1).trans hit
  have F4 := fr_eq (m' := fun y => if y = Str.ofString "escape" then some (.bool false) else if y = Str.ofString "addr" then some (.str x t) else if y = Str.ofString "pos" then some (.int 0 s.toks) else m y) F3 (by intro y; by_cases h1 : y = Str.ofString "escape" <;> by_cases h2 : y = Str.ofString "addr" <;> by_cases h3 : y = Str.ofString "pos" <;> simp_all (config := { decide := true }))
  refine seg_execs_cons (sgFor (fun _ => rfl) ?_)
  ktn_open
  refine call_enumerate_str fun h5 he5 hi5 hz5 hk5 => ?_
  (try dsimp only)
  rw [hz3, ← he] at he5
  rw [hz3, ← he]
  rw [hz3] at hi5
  have hty : strIterType x = "str_ascii_iterator" := by
    have : x.cps.all (· < 128) = true := by
      rw [hx]
      simp only [Array.all_eq_true']
      intro c hc
      exact decide_eq_true (hc128 c (by simpa using hc))
    unfold strIterType
    rw [if_pos this]
  rw [hty] at hi5
  refine wpAny_pyIter_enum he5 ?_
  intro pp
  have hCi : @LT.lt Nat _ C it := hit ▸ hCs
  have F5 : Fr h₀ C h5 _ := ⟨F4.ns.keeps hk5, fun b o eb => hk5 b o (F4.keep b o eb), hab⟩
  have h0i : h₀.get? it = none := Heap.get?_none_of_le (Nat.le_trans hab (Nat.le_of_lt hCi))
  have h0e : h₀.get? e = none := Heap.get?_none_of_le (Nat.le_trans hab (Nat.le_of_lt (he ▸ Nat.lt_succ_of_lt hCi)))
  refine escLoop w p loose mean mg mb rfl hx hc92 (Nat.ne_of_lt (he ▸ Nat.lt_succ_of_lt hCi)) (Nat.ne_of_lt hCi) (by rw [he]; exact Nat.succ_ne_self _) h0e h0i T X _ hA0 pp _ _ _ ?hK cs.length 0 rfl (Nat.zero_le _) s _ _ F5 rfl ⟨⟨_, he5⟩, hi5⟩ ⟨h5, _, rfl, ?hpv⟩
  case hpv =>
    intro b o hC hb eb
    exact hk5 b o (hs3.extBut b o hC (hs1.extBut b o hC eb))
  case hK =>
    intro s₀ s' m' F' hm' hsince
    replace F' := fr_eq (m' := fun y => if y = Str.ofString "escape" then some (.bool false) else m' y) F' (by first | (intro y; (repeat (first | with_reducible rfl | refine abS ?_ | (refine ab ?_ ?_; assumption) | fail "ab")); done) | (intro y; (repeat' split) <;> simp_all))
    (try dsimp only)
    refine seg_execs_cons (sgIf ?_)
    refine foldM F' ?_; clear F'; intro mfr0 F'
    ktn_open
    rw [if_neg Bool.false_ne_true]
    refine seg_execs_nil ?_
    (try dsimp only)
    refine seg_execs_nil ?_
    show Seg _ _ _ _ _ _ _ (leafOf (.ok (.ret .none))) _ _
    refine seg_end (.ok (.ret .none)) ⟨rfl, rfl, ?_⟩
    obtain ⟨h9, tk9, rfl, hp9⟩ := hsince
    exact ⟨h9, _, rfl, hp9⟩
end
section
local macro_rules | `(tactic| tb_start) => `(tactic| with_reducible first | refine Mine.atMulR ?_ | refine Mine.atIf ?_ | refine Mine.atRef ?_)
theorem wakeCI2E : True ∧ True := by
  w_top off
  first | (walk1; fail) | exact ⟨trivial, trivial⟩
section
theorem roomLe {dp a b R : Nat} (h : dp + b < R) (ha : a ≤ 4) (hb : Nat.ble 5 b = true) : dp + a < R := Nat.lt_of_le_of_lt (Nat.add_le_add_left (Nat.le_trans ha (Nat.le_of_succ_le (Nat.le_of_ble_eq_true hb))) dp) h
theorem unitLe {un a b R : Nat} (h : un + b < R) (ha : a ≤ 4) (hb : Nat.ble 67 b = true) : un + 3 + 16 * a < R := by have := Nat.le_of_ble_eq_true hb; omega
theorem i2dE (w : World) (p : Program) (loose : List Str) (mean : ExcName → Option Value) (mg mb : Str → Option Value) (rest : List (Addr × Obj)) (hr : ∀ p ∈ rest, p.1 ≠ 54) (a : Int) (ta tn : Tok) (d : Nat) (ha : 0 < a) (ha2 : a ≤ 4000) (hd1 : 1 ≤ d) (hd4 : d ≤ 4) (hd3 : Int.fdiv (((Builtin.Int.intBits a : Nat) : Int) + 3 - 1) 3 = (d : Int)) :
    Calls w (hd.heap_1 w.params) p loose mean mg mb 59 10 100 ((54, tabObj #[]) :: rest) [.int a ta, .int 3 tn] (fun h₀ L m s Q => CodeHd h₀ 58 54 ∧ ∀ (T : Addr) (vs : List Value) (kk : Nat) (c : Addr) (oc : Obj) (cv : Array Value) (t : Tok) h' tk', Fr h₀ L h' m → News h₀ L h' ((T, W.listOf vs.toArray kk) :: (54, tabObj #[rawInt 36, rawInt 4, .ref c]) :: (c, oc) :: rest) → @LT.lt Nat _ 288 c → oc.data = .fields cv → cv[1]? = some (.str (Str.ofString "_int2digits.<locals>.inner") t) → IntsAre vs (innerS d a 0 d (List.replicate d 0)) → Q (.ref T) { s with heap := h', toks := tk' }) PySem.Challenge.pw_to0083_01 := by
  intro dp un gd cn cs ad ccd cl outer A₀ base h₀ L m s Q E B F X N T hk hd hu hret
  obtain ⟨C0, hret⟩ := hret
  refine wpAny_call ?_
  k_dflt (refine' code_defC ?k1 ?k2 ?k3 ?k4 ?k5 ?kA ?kF ?kK ?k6 ?k7 ?k8 ?k9 ?kB ?kD ?_ ?c2 ?c3 ?c4; (case kA => exact rfl); (case kF => exact rfl); (case kK => assumption); (case k1 => k_asm); (case k2 => k_asm); (case k3 => k_asm); (case k4 => k_asm); (case k5 => k_asm); (case k6 => k_is); (case k7 => k_is); (case k8 => ktr_room); (case k9 => exact BindsTo.of_eq rfl); (case kB => exact rfl); (case kD => decide +kernel); (case c2 => exact rfl); (case c3 => exact rfl); (case c4 => exact rfl); k_whole; intro g' L' h' tk' cells' FG' F' N' Y' B' X' T' l1; k_cells Y'; (try simp only [List.cons_append, List.nil_append] at N'); (try dsimp only); (try k_lift B'); (try k_fold))
  rename_i oA oB oC dA dB dC
  have C1 := C0.keeps FG'.keep
  have l54 : @LT.lt Nat _ 54 L' := l1 (54, _) (.head _)
  have lrest : ∀ p ∈ rest, @LT.lt Nat _ p.1 L' := fun p hp => l1 p (.tail _ hp)
  have lr0 : ∀ p ∈ rest, p.1 ≠ L' := fun p hp => Nat.ne_of_lt (lrest p hp)
  have lr1 : ∀ p ∈ rest, p.1 ≠ L' + 1 := fun p hp => Nat.ne_of_lt (Nat.lt_succ_of_lt (lrest p hp))
  have lr2 : ∀ p ∈ rest, p.1 ≠ L' + 1 + 1 := fun p hp => Nat.ne_of_lt (Nat.lt_succ_of_lt (Nat.lt_succ_of_lt (lrest p hp)))
  have lr3 : ∀ p ∈ rest, p.1 ≠ L' + 1 + 1 + 1 := fun p hp => Nat.ne_of_lt (Nat.lt_succ_of_lt (Nat.lt_succ_of_lt (Nat.lt_succ_of_lt (lrest p hp))))
  clear l1
  ktn_open
  rw [hd3]
  ktn_open
  rename_i l0 hx0 lt0 D hx1 i1 n1 s1 e1 e2 e3 ltD hx2 oD dD f c oc cv tq ctv doc hx3 tkx dc1 dc2 ltc ltf hx4 oF FF NF dF
  replace dC : oC.data = .cell (some (.int 3 tn)) := dC
  have hc288 : @LT.lt Nat _ 288 c := by
    have h1 : @LT.lt Nat _ 288 g'.objs.size := Heap.lt_size (X' 288 _ (by k_is))
    have h2 : @LE.le Nat _ g'.objs.size L' := FF.above
    exact Nat.lt_trans (Nat.lt_of_lt_of_le h1 h2) (Nat.lt_of_succ_lt (show @LT.lt Nat _ (L' + 1) c from by first | exact ltc.1 | exact ltc.2.1 | exact ltc.2.2.1 | exact ltc.2.2.2.1 | exact ltc.2.2.2.2.1 | exact ltc.2.2.2.2.2.1 | omega))
  obtain rfl : n1 = d := by first | exact Int.ofNat.inj ((e3 (Int.natCast_nonneg d)).trans (Int.one_mul _)) | omega
  have hnl : (List.replicate ((n1 : Nat) : Int).toNat [(0 : Int)]).flatten.length = n1 := e1
  rw [repl_int hd4] at hnl i1
  walk1
  try dsimp only
  ktn_open
  all_goals (try (exfalso; omega))
  refine' callsUse (innerKey w p loose mean mg mb rfl C0 dC dD dF dc1 dc2 (hnf := ?n1) (hn3 := ?n2) (hn2 := ?n3) (hn1 := ?n4) (hnc := ?n5) n1 ((54, tabObj #[rawInt 36, rawInt 4, .ref c]) :: rest) ?n6 hd4 n1 a 0 n1 _ _ _ _ _ _ (Nat.le_refl _) (Nat.zero_add _).symm hd1 (Nat.le_of_eq (List.length_replicate ..).symm) (by rw [List.length_replicate]; exact hd4) (Int.le_of_lt ha) ?n7 i1) ?k1 ?k2 ?k3 ?k4 ?k5 ?kK ?kd ?ku ?kR
  (case n1 => exact Nat.ne_of_gt (show @LT.lt Nat _ D f from by first | exact ltf.1 | exact ltf.2.1 | exact ltf.2.2.1 | exact Nat.lt_trans ltc.1 ltf.1 | omega))
  (case n2 => exact Nat.ne_of_lt (show @LT.lt Nat _ (L' + 1 + 1 + 1) D from by first | exact ltD.1 | exact ltD.2.1 | exact ltD.2.2.1 | exact ltD.2.2.2.1 | exact ltD.2.2.2.2.1 | exact ltD.2.2.2.2.2.1 | omega))
  (case n3 => exact Nat.ne_of_lt (show @LT.lt Nat _ (L' + 1 + 1) D from by first | exact ltD.1 | exact ltD.2.1 | exact ltD.2.2.1 | exact ltD.2.2.2.1 | exact ltD.2.2.2.2.1 | exact ltD.2.2.2.2.2.1 | omega))
  (case n4 => exact Nat.ne_of_lt (show @LT.lt Nat _ (L' + 1) D from by first | exact ltD.1 | exact ltD.2.1 | exact ltD.2.2.1 | exact ltD.2.2.2.1 | exact ltD.2.2.2.2.1 | exact ltD.2.2.2.2.2.1 | omega))
  (case n5 => exact Nat.ne_of_gt (show @LT.lt Nat _ D c from by first | exact ltc.1 | exact ltc.2.1 | omega))
  (case n6 => exact List.forall_mem_cons.mpr ⟨Nat.ne_of_lt (show @LT.lt Nat _ 54 D from by first | exact ltD.1 | exact ltD.2.1 | exact ltD.2.2.1 | exact ltD.2.2.2.1 | exact ltD.2.2.2.2.1 | exact ltD.2.2.2.2.2.1 | omega), allLt_ne ltD.2.2.2.2.2⟩)
  (case n7 =>
    have hb : ∀ k, k ≤ 4 → 4000 ≤ bnd k := by decide
    exact Int.le_trans ha2 (hb _ hd4))
  (case k1 => k_asm)
  (case k2 => k_asm)
  (case k3 => k_asm)
  (case k4 => exact news_sub NF (List.forall_mem_cons.mpr ⟨by k_mem, List.forall_mem_cons.mpr ⟨by k_mem, List.forall_mem_cons.mpr ⟨by k_mem, List.forall_mem_cons.mpr ⟨by k_mem, List.forall_mem_cons.mpr ⟨by k_mem, List.forall_mem_cons.mpr ⟨by k_mem, List.forall_mem_cons.mpr ⟨by k_mem, fun p hp => by repeat (first | exact hp | apply List.Mem.tail)⟩⟩⟩⟩⟩⟩⟩))
  (case k5 => k_asm)
  (case kK => first | exact rfl | assumption)
  (case kd => first | exact roomLe hd hd4 rfl | ktr_room)
  (case ku => first | exact unitLe hu hd4 rfl | ktr_units)
  intro vs' kk' h5 tk5 F5 N5 hi5
  (try dsimp only)
  ktn_open
  rename News _ _ _ _ => N6
  refine hret _ vs' kk' c oc cv tq _ _ (by assumption) (news_sub N6 (List.forall_mem_cons.mpr ⟨by k_mem, List.forall_mem_cons.mpr ⟨by k_mem, List.forall_mem_cons.mpr ⟨by k_mem, fun p hp => by repeat (first | exact hp | apply List.Mem.tail)⟩⟩⟩)) hc288 dc1 dc2 hi5
end
theorem wakeCI2G : True ∧ True := by
  w_top off
  first | (walk1; fail) | exact ⟨trivial, trivial⟩
section
theorem i2dG (w : World) (p : Program) (loose : List Str) (mean : ExcName → Option Value) (mg mb : Str → Option Value) (rest : List (Addr × Obj)) (c : Addr) (oc : Obj) (cv : Array Value) (tq : Tok) (dc1 : oc.data = .fields cv) (dc2 : cv[1]? = some (.str (Str.ofString "_int2digits.<locals>.inner") tq)) (a : Int) (ta tn : Tok) (d : Nat) (ha : 0 < a) (ha2 : a ≤ 4000) (hd1 : 1 ≤ d) (hd4 : d ≤ 4) (hd3 : Int.fdiv (((Builtin.Int.intBits a : Nat) : Int) + 3 - 1) 3 = (d : Int)) :
    Calls w (hd.heap_1 w.params) p loose mean mg mb 59 10 100 ((54, tabObj #[rawInt 36, rawInt 4, .ref c]) :: (c, oc) :: rest) [.int a ta, .int 3 tn] (fun h₀ L m s Q => CodeHd h₀ 58 54 ∧ ∀ (T : Addr) (vs : List Value) (kk : Nat) h' tk', Fr h₀ L h' m → News h₀ L h' ((T, W.listOf vs.toArray kk) :: (54, tabObj #[rawInt 36, rawInt 4, .ref c]) :: (c, oc) :: rest) → IntsAre vs (innerS d a 0 d (List.replicate d 0)) → Q (.ref T) { s with heap := h', toks := tk' }) PySem.Challenge.pw_to0083_01 := by
  intro dp un gd cn cs ad ccd cl outer A₀ base h₀ L m s Q E B F X N T hk hd hu hret
  obtain ⟨C0, hret⟩ := hret
  refine wpAny_call ?_
  k_dflt (refine' code_defC ?k1 ?k2 ?k3 ?k4 ?k5 ?kA ?kF ?kK ?k6 ?k7 ?k8 ?k9 ?kB ?kD ?_ ?c2 ?c3 ?c4; (case kA => exact rfl); (case kF => exact rfl); (case kK => assumption); (case k1 => k_asm); (case k2 => k_asm); (case k3 => k_asm); (case k4 => k_asm); (case k5 => k_asm); (case k6 => k_is); (case k7 => k_is); (case k8 => ktr_room); (case k9 => exact BindsTo.of_eq rfl); (case kB => exact rfl); (case kD => decide +kernel); (case c2 => exact rfl); (case c3 => exact rfl); (case c4 => exact rfl); k_whole; intro g' L' h' tk' cells' FG' F' N' Y' B' X' T' l1; k_cells Y'; (try simp only [List.cons_append, List.nil_append] at N'); (try dsimp only); (try k_lift B'); (try k_fold))
  rename_i oA oB oC dA dB dC
  have C1 := C0.keeps FG'.keep
  have l54 : @LT.lt Nat _ 54 L' := l1 (54, _) (.head _)
  have lc : @LT.lt Nat _ c L' := l1 (c, _) (.tail _ (.head _))
  have lrest : ∀ p ∈ rest, @LT.lt Nat _ p.1 L' := fun p hp => l1 p (.tail _ (.tail _ hp))
  have lr0 : ∀ p ∈ rest, p.1 ≠ L' := fun p hp => Nat.ne_of_lt (lrest p hp)
  have lr1 : ∀ p ∈ rest, p.1 ≠ L' + 1 := fun p hp => Nat.ne_of_lt (Nat.lt_succ_of_lt (lrest p hp))
  have lr2 : ∀ p ∈ rest, p.1 ≠ L' + 1 + 1 := fun p hp => Nat.ne_of_lt (Nat.lt_succ_of_lt (Nat.lt_succ_of_lt (lrest p hp)))
  have lr3 : ∀ p ∈ rest, p.1 ≠ L' + 1 + 1 + 1 := fun p hp => Nat.ne_of_lt (Nat.lt_succ_of_lt (Nat.lt_succ_of_lt (Nat.lt_succ_of_lt (lrest p hp))))
  clear l1
  ktn_open
  rw [hd3]
  ktn_open
  rename_i l0 hx0 lt0 D hx1 i1 n1 s1 e1 e2 e3 ltD hx2 oD dD f ctv doc hx3 tkx ltf hx4 oF FF NF dF
  replace dC : oC.data = .cell (some (.int 3 tn)) := dC
  obtain rfl : n1 = d := by first | exact Int.ofNat.inj ((e3 (Int.natCast_nonneg d)).trans (Int.one_mul _)) | omega
  have hnl : (List.replicate ((n1 : Nat) : Int).toNat [(0 : Int)]).flatten.length = n1 := e1
  rw [repl_int hd4] at hnl i1
  walk1
  try dsimp only
  ktn_open
  all_goals (try (exfalso; omega))
  refine' callsUse (innerKey w p loose mean mg mb rfl C0 dC dD dF dc1 dc2 (hnf := ?n1) (hn3 := ?n2) (hn2 := ?n3) (hn1 := ?n4) (hnc := ?n5) n1 ((54, tabObj #[rawInt 36, rawInt 4, .ref c]) :: rest) ?n6 hd4 n1 a 0 n1 _ _ _ _ _ _ (Nat.le_refl _) (Nat.zero_add _).symm hd1 (Nat.le_of_eq (List.length_replicate ..).symm) (by rw [List.length_replicate]; exact hd4) (Int.le_of_lt ha) ?n7 i1) ?k1 ?k2 ?k3 ?k4 ?k5 ?kK ?kd ?ku ?kR
  (case n1 => exact Nat.ne_of_gt (show @LT.lt Nat _ D f from by first | exact ltf.1 | exact ltf.2.1 | exact ltf.2.2.1 | exact Nat.lt_trans ltc.1 ltf.1 | omega))
  (case n2 => exact Nat.ne_of_lt (show @LT.lt Nat _ (L' + 1 + 1 + 1) D from by first | exact ltD.1 | exact ltD.2.1 | exact ltD.2.2.1 | exact ltD.2.2.2.1 | exact ltD.2.2.2.2.1 | exact ltD.2.2.2.2.2.1 | omega))
  (case n3 => exact Nat.ne_of_lt (show @LT.lt Nat _ (L' + 1 + 1) D from by first | exact ltD.1 | exact ltD.2.1 | exact ltD.2.2.1 | exact ltD.2.2.2.1 | exact ltD.2.2.2.2.1 | exact ltD.2.2.2.2.2.1 | omega))
  (case n4 => exact Nat.ne_of_lt (show @LT.lt Nat _ (L' + 1) D from by first | exact ltD.1 | exact ltD.2.1 | exact ltD.2.2.1 | exact ltD.2.2.2.1 | exact ltD.2.2.2.2.1 | exact ltD.2.2.2.2.2.1 | omega))
  (case n5 => exact Nat.ne_of_lt (show @LT.lt Nat _ c D from by first | exact ltD.1 | exact ltD.2.1 | exact ltD.2.2.1 | exact ltD.2.2.2.1 | exact ltD.2.2.2.2.1 | exact ltD.2.2.2.2.2.1 | omega))
  (case n6 => exact List.forall_mem_cons.mpr ⟨Nat.ne_of_lt (show @LT.lt Nat _ 54 D from by first | exact ltD.1 | exact ltD.2.1 | exact ltD.2.2.1 | exact ltD.2.2.2.1 | exact ltD.2.2.2.2.1 | exact ltD.2.2.2.2.2.1 | omega), allLt_ne ltD.2.2.2.2.2.2⟩)
  (case n7 =>
    have hb : ∀ k, k ≤ 4 → 4000 ≤ bnd k := by decide
    exact Int.le_trans ha2 (hb _ hd4))
  (case k1 => k_asm)
  (case k2 => k_asm)
  (case k3 => k_asm)
  (case k4 => exact news_sub NF (List.forall_mem_cons.mpr ⟨by k_mem, List.forall_mem_cons.mpr ⟨by k_mem, List.forall_mem_cons.mpr ⟨by k_mem, List.forall_mem_cons.mpr ⟨by k_mem, List.forall_mem_cons.mpr ⟨by k_mem, List.forall_mem_cons.mpr ⟨by k_mem, List.forall_mem_cons.mpr ⟨by k_mem, fun p hp => by repeat (first | exact hp | apply List.Mem.tail)⟩⟩⟩⟩⟩⟩⟩))
  (case k5 => k_asm)
  (case kK => first | exact rfl | assumption)
  (case kd => first | exact roomLe hd hd4 rfl | ktr_room)
  (case ku => first | exact unitLe hu hd4 rfl | ktr_units)
  intro vs' kk' h5 tk5 F5 N5 hi5
  (try dsimp only)
  ktn_open
  rename News _ _ _ _ => N6
  refine hret _ vs' kk' _ _ (by assumption) (news_sub N6 (List.forall_mem_cons.mpr ⟨by k_mem, List.forall_mem_cons.mpr ⟨by k_mem, List.forall_mem_cons.mpr ⟨by k_mem, fun p hp => by repeat (first | exact hp | apply List.Mem.tail)⟩⟩⟩)) hi5
end
end
section
local macro_rules | `(tactic| tb_start) => `(tactic| with_reducible refine Mine.atRef ?_)
theorem wakeCD2E : True ∧ True := by
  w_top off
  first | (walk1; fail) | exact ⟨trivial, trivial⟩
section
theorem d2iE (w : World) (p : Program) (loose : List Str) (mean : ExcName → Option Value) (mg mb : Str → Option Value) (rest : List (Addr × Obj)) (hr : ∀ p ∈ rest, p.1 ≠ 61) (D : Addr) (vs : List Value) (ns : List Int) (kk n : Nat) (hn1 : 1 ≤ n) (hn3 : n ≤ 3) (hnl0 : 1 ≤ ns.length) (hnl : ns.length ≤ 4) (hns : ∀ x ∈ ns, 0 ≤ x ∧ x ≤ 4000) (hints : IntsAre vs ns) (hD : @Ne Nat D 61) (tn : Tok) :
    Calls w (hd.heap_1 w.params) p loose mean mg mb 66 10 100 ((61, tabObj #[]) :: (D, W.listOf vs.toArray kk) :: rest) [.ref D, .int n tn] (fun h₀ L m s Q => CodeHd h₀ 65 61 ∧ ∀ (c : Addr) (oc : Obj) (cv : Array Value) (t t2 : Tok) h' tk', Fr h₀ L h' m → News h₀ L h' ((61, tabObj #[rawInt 51, rawInt 4, .ref c]) :: (c, oc) :: (D, W.listOf vs.toArray kk) :: rest) → @LT.lt Nat _ 288 c → oc.data = .fields cv → cv[1]? = some (.str (Str.ofString "_digits2int.<locals>.inner") t) → Q (.int (d2iS ns.length ns n 0 ns.length) t2) { s with heap := h', toks := tk' }) PySem.Challenge.pw_to0083_01 := by
  intro dp un gd cn cs ad ccd cl outer A₀ base h₀ L m s Q E B F X N T hk hd hu hret
  obtain ⟨C0, hret⟩ := hret
  refine wpAny_call ?_
  k_dflt (refine' code_defC ?k1 ?k2 ?k3 ?k4 ?k5 ?kA ?kF ?kK ?k6 ?k7 ?k8 ?k9 ?kB ?kD ?_ ?c2 ?c3 ?c4; (case kA => exact rfl); (case kF => exact rfl); (case kK => assumption); (case k1 => k_asm); (case k2 => k_asm); (case k3 => k_asm); (case k4 => k_asm); (case k5 => k_asm); (case k6 => k_is); (case k7 => k_is); (case k8 => ktr_room); (case k9 => exact BindsTo.of_eq rfl); (case kB => exact rfl); (case kD => decide +kernel); (case c2 => exact rfl); (case c3 => exact rfl); (case c4 => exact rfl); k_whole; intro g' L' h' tk' cells' FG' F' N' Y' B' X' T' l1; k_cells Y'; (try simp only [List.cons_append, List.nil_append] at N'); (try dsimp only); (try k_lift B'); (try k_fold))
  rename_i oA oB oC dA dB dC
  have C1 := C0.keeps FG'.keep
  have l61 : @LT.lt Nat _ 61 L' := l1 (61, _) (.head _)
  have lD : @LT.lt Nat _ D L' := l1 (D, _) (.tail _ (.head _))
  have lrest : ∀ p ∈ rest, @LT.lt Nat _ p.1 L' := fun p hp => l1 p (.tail _ (.tail _ hp))
  have lr0 : ∀ p ∈ rest, p.1 ≠ L' := fun p hp => Nat.ne_of_lt (lrest p hp)
  have lr1 : ∀ p ∈ rest, p.1 ≠ L' + 1 := fun p hp => Nat.ne_of_lt (Nat.lt_succ_of_lt (lrest p hp))
  have lr2 : ∀ p ∈ rest, p.1 ≠ L' + 1 + 1 := fun p hp => Nat.ne_of_lt (Nat.lt_succ_of_lt (Nat.lt_succ_of_lt (lrest p hp)))
  have lr3 : ∀ p ∈ rest, p.1 ≠ L' + 1 + 1 + 1 := fun p hp => Nat.ne_of_lt (Nat.lt_succ_of_lt (Nat.lt_succ_of_lt (Nat.lt_succ_of_lt (lrest p hp))))
  clear l1
  ktn_open
  rename_i f c oc cv tq ctv doc hx3 tkx dc1 dc2 ltc ltf hx4 oF FF NF dF
  have hc288 : @LT.lt Nat _ 288 c := by
    have h1 : @LT.lt Nat _ 288 g'.objs.size := Heap.lt_size (X' 288 _ (by k_is))
    have h2 : @LE.le Nat _ g'.objs.size L' := FF.above
    omega
  replace dC : oC.data = .cell (some (.ref D)) := dC
  replace dB : oB.data = .cell (some (.int n tn)) := dB
  refine' callsUse (d2Inner w p loose mean mg mb rfl C0 hn3 dB dC dF dc1 dc2 ((61, tabObj #[rawInt 51, rawInt 4, .ref c]) :: rest) vs ns kk hnl hns hints ns.length hnl ns.length 0 ns.length _ _ (Nat.le_refl _) (by omega) hnl0 (Nat.le_refl _)) ?k1 ?k2 ?k3 ?k4 ?k5 ?kK ?kd ?ku ?kR
  (case k1 => k_asm)
  (case k2 => k_asm)
  (case k3 => k_asm)
  (case k4 => exact news_sub NF (List.forall_mem_cons.mpr ⟨by k_mem, List.forall_mem_cons.mpr ⟨by k_mem, List.forall_mem_cons.mpr ⟨by k_mem, List.forall_mem_cons.mpr ⟨by k_mem, List.forall_mem_cons.mpr ⟨by k_mem, List.forall_mem_cons.mpr ⟨by k_mem, List.forall_mem_cons.mpr ⟨by k_mem, fun p hp => by repeat (first | exact hp | apply List.Mem.tail)⟩⟩⟩⟩⟩⟩⟩))
  (case k5 => k_asm)
  (case kK => first | exact rfl | assumption)
  (case kd => ktr_room)
  (case ku => ktr_units)
  intro t5 h5 tk5 F5 N5
  (try dsimp only)
  ktn_open
  rename News _ _ _ _ => N6
  exact hret c oc cv tq _ _ _ (by assumption) (news_sub N6 (List.forall_mem_cons.mpr ⟨by k_mem, List.forall_mem_cons.mpr ⟨by k_mem, List.forall_mem_cons.mpr ⟨by k_mem, fun p hp => by repeat (first | exact hp | apply List.Mem.tail)⟩⟩⟩)) hc288 dc1 dc2
end
theorem wakeCD2G : True ∧ True := by
  w_top off
  first | (walk1; fail) | exact ⟨trivial, trivial⟩
section
theorem d2iG (w : World) (p : Program) (loose : List Str) (mean : ExcName → Option Value) (mg mb : Str → Option Value) (rest : List (Addr × Obj)) (c : Addr) (oc : Obj) (cv : Array Value) (tq : Tok) (dc1 : oc.data = .fields cv) (dc2 : cv[1]? = some (.str (Str.ofString "_digits2int.<locals>.inner") tq)) (D : Addr) (vs : List Value) (ns : List Int) (kk n : Nat) (hn1 : 1 ≤ n) (hn3 : n ≤ 3) (hnl0 : 1 ≤ ns.length) (hnl : ns.length ≤ 4) (hns : ∀ x ∈ ns, 0 ≤ x ∧ x ≤ 4000) (hints : IntsAre vs ns) (tn : Tok) :
    Calls w (hd.heap_1 w.params) p loose mean mg mb 66 10 100 ((61, tabObj #[rawInt 51, rawInt 4, .ref c]) :: (c, oc) :: (D, W.listOf vs.toArray kk) :: rest) [.ref D, .int n tn] (fun h₀ L m s Q => CodeHd h₀ 65 61 ∧ ∀ (t2 : Tok) h' tk', Fr h₀ L h' m → News h₀ L h' ((61, tabObj #[rawInt 51, rawInt 4, .ref c]) :: (c, oc) :: (D, W.listOf vs.toArray kk) :: rest) → Q (.int (d2iS ns.length ns n 0 ns.length) t2) { s with heap := h', toks := tk' }) PySem.Challenge.pw_to0083_01 := by
  intro dp un gd cn cs ad ccd cl outer A₀ base h₀ L m s Q E B F X N T hk hd hu hret
  obtain ⟨C0, hret⟩ := hret
  refine wpAny_call ?_
  k_dflt (refine' code_defC ?k1 ?k2 ?k3 ?k4 ?k5 ?kA ?kF ?kK ?k6 ?k7 ?k8 ?k9 ?kB ?kD ?_ ?c2 ?c3 ?c4; (case kA => exact rfl); (case kF => exact rfl); (case kK => assumption); (case k1 => k_asm); (case k2 => k_asm); (case k3 => k_asm); (case k4 => k_asm); (case k5 => k_asm); (case k6 => k_is); (case k7 => k_is); (case k8 => ktr_room); (case k9 => exact BindsTo.of_eq rfl); (case kB => exact rfl); (case kD => decide +kernel); (case c2 => exact rfl); (case c3 => exact rfl); (case c4 => exact rfl); k_whole; intro g' L' h' tk' cells' FG' F' N' Y' B' X' T' l1; k_cells Y'; (try simp only [List.cons_append, List.nil_append] at N'); (try dsimp only); (try k_lift B'); (try k_fold))
  rename_i oA oB oC dA dB dC
  have C1 := C0.keeps FG'.keep
  have l61 : @LT.lt Nat _ 61 L' := l1 (61, _) (.head _)
  have lD : @LT.lt Nat _ D L' := l1 (D, _) (.tail _ (.tail _ (.head _)))
  have lc : @LT.lt Nat _ c L' := l1 (c, _) (.tail _ (.head _))
  have lrest : ∀ p ∈ rest, @LT.lt Nat _ p.1 L' := fun p hp => l1 p (.tail _ (.tail _ (.tail _ hp)))
  have lr0 : ∀ p ∈ rest, p.1 ≠ L' := fun p hp => Nat.ne_of_lt (lrest p hp)
  have lr1 : ∀ p ∈ rest, p.1 ≠ L' + 1 := fun p hp => Nat.ne_of_lt (Nat.lt_succ_of_lt (lrest p hp))
  have lr2 : ∀ p ∈ rest, p.1 ≠ L' + 1 + 1 := fun p hp => Nat.ne_of_lt (Nat.lt_succ_of_lt (Nat.lt_succ_of_lt (lrest p hp)))
  have lr3 : ∀ p ∈ rest, p.1 ≠ L' + 1 + 1 + 1 := fun p hp => Nat.ne_of_lt (Nat.lt_succ_of_lt (Nat.lt_succ_of_lt (Nat.lt_succ_of_lt (lrest p hp))))
  clear l1
  ktn_open
  rename_i f ctv doc hx3 tkx ltf hx4 oF FF NF dF
  replace dC : oC.data = .cell (some (.ref D)) := dC
  replace dB : oB.data = .cell (some (.int n tn)) := dB
  refine' callsUse (d2Inner w p loose mean mg mb rfl C0 hn3 dB dC dF dc1 dc2 ((61, tabObj #[rawInt 51, rawInt 4, .ref c]) :: rest) vs ns kk hnl hns hints ns.length hnl ns.length 0 ns.length _ _ (Nat.le_refl _) (by omega) hnl0 (Nat.le_refl _)) ?k1 ?k2 ?k3 ?k4 ?k5 ?kK ?kd ?ku ?kR
  (case k1 => k_asm)
  (case k2 => k_asm)
  (case k3 => k_asm)
  (case k4 => exact news_sub NF (List.forall_mem_cons.mpr ⟨by k_mem, List.forall_mem_cons.mpr ⟨by k_mem, List.forall_mem_cons.mpr ⟨by k_mem, List.forall_mem_cons.mpr ⟨by k_mem, List.forall_mem_cons.mpr ⟨by k_mem, List.forall_mem_cons.mpr ⟨by k_mem, List.forall_mem_cons.mpr ⟨by k_mem, fun p hp => by repeat (first | exact hp | apply List.Mem.tail)⟩⟩⟩⟩⟩⟩⟩))
  (case k5 => k_asm)
  (case kK => first | exact rfl | assumption)
  (case kd => ktr_room)
  (case ku => ktr_units)
  intro t5 h5 tk5 F5 N5
  (try dsimp only)
  ktn_open
  rename News _ _ _ _ => N6
  exact hret _ _ _ (by assumption) (news_sub N6 (List.forall_mem_cons.mpr ⟨by k_mem, List.forall_mem_cons.mpr ⟨by k_mem, List.forall_mem_cons.mpr ⟨by k_mem, fun p hp => by repeat (first | exact hp | apply List.Mem.tail)⟩⟩⟩))
end
end
end
theorem wakeCStand : True ∧ True := by
  w_top off
  first | (walk1; fail) | exact ⟨trivial, trivial⟩
section
local macro_rules | `(tactic| tb_start) => `(tactic| with_reducible first | refine Mine.at257 ?_ | refine Mine.atFor ?_ | refine Mine.atLoop ?_)
local macro_rules | `(tactic| walk_at "subscriptTail Name Name ref int") => `(tactic| (k_dflt (refine item_N (by assumption) (by k_mem) (by assumption) (by assumption) (by assumption) ?_)))
local macro_rules | `(tactic| walk_at "subscriptTail") => `(tactic| (k_dflt (refine rowItem (by assumption) (by k_mem) (lkOk.xor (by assumption) (by first | exact Or.inl rfl | exact Or.inr (Or.inl rfl) | exact Or.inr (Or.inr (Or.inl rfl)))) ?_); intro ti))
local macro_rules | `(tactic| walk_at "UnrEndW") => `(tactic| (k_dflt (refine unr_endW (by assumption) (by assumption) (by assumption) (by exact ⟨by k_mem, trivial⟩) ?_)))
theorem standC (w : World) (p : Program) (loose : List Str) (mean : ExcName → Option Value) (mg mb : Str → Option Value) (news : List (Addr × Obj)) (nu : Int) (n : Nat) (tu tn : Tok) (hn : n ≤ 90) :
    Calls w (hd.heap_1 w.params) p loose mean mg mb 264 4 40 news [.int nu tu, .int n tn] (fun h₀ L m s Q => ∀ (t : Tok) h' tk', Fr h₀ L h' m → News h₀ L h' news → Q (.str (ofL (stand n nu n).1) t) { s with heap := h', toks := tk' }) PySem.Challenge.pw_to0083_01 := by
  intro dp un gd cn cs ad ccd cl outer A₀ base h₀ L m s Q E B F X N T hk hd hu hret
  refine wpAny_call ?_
  k_dflt cell_enter
  rename_i g1 L1 h1 FG1 F0 N1 B1 X1 T1
  replace F0 := fr_eq (m' := fun y => if y = Str.ofString "count" then some (Value.int n tn) else if y = Str.ofString "number" then some (Value.int nu tu) else none) F0 (by intro y; show List.lookup y [(Str.ofString "count", Value.int n tn), (Str.ofString "number", Value.int nu tu)] = _; rw [lk1, lk1, lk0])
  refine foldM F0 ?_; clear F0; intro mfr0 F0
  ktn_open
  refine' callsUse (classC w p loose mean mg mb _ n _ hn) ?k1 ?k2 ?k3 ?k4 ?k5 ?kK ?kd ?ku ?kR
  tb_rel
  intro r vs k rws h' tk' F' N' hsub hvl hrows
  (try dsimp only)
  ktn_open
  refine For_invV (hE := ?hE) g1 (by rfl) (by rfl) ?_ (fun _ => rfl)
  case hE => walk1
  ktn_open
  rename IsRange _ _ _ _ _ _ _ _ => hr
  refine range_I (n := n) (fun i m₁ nx => ∃ (wt lt vt : Tok), nx = (r, W.listOf vs.toArray k) :: rws ∧ lkOk (stand n nu i).2.1 ∧ (stand n nu i).1.length = i ∧ m₁ (Str.ofString "word") = some (.str (ofL (stand n nu i).1) wt) ∧ m₁ (Str.ofString "lacks") = some (.int (stand n nu i).2.1 lt) ∧ m₁ (Str.ofString "number") = some (.int (stand n nu i).2.2 vt) ∧ m₁ (Str.ofString "count") = some (.int n tn) ∧ m₁ (Str.ofString "rows") = some (.ref r)) rfl hr (small_down (by omega)) (size_down n) (by assumption) (by assumption) ?h0 ?step ?done
  case h0 => exact ⟨_, _, _, rfl, .inl rfl, rfl, rfl, rfl, rfl, rfl, rfl⟩
  case done =>
    rintro m₁ nx h tk ⟨wt, lt, vt, rfl, hlk, hwl, hm1, hm2, hm3, hm4, hm5⟩ F₁ N₁
    replace F₁ := fr_eq (m' := fun y => if y = Str.ofString "word" then some (Value.str (ofL (stand n nu n).1) wt) else m₁ y) F₁ (by first | (intro y; (repeat (first | with_reducible rfl | refine abS ?_ | (refine ab ?_ ?_; assumption) | fail "ab")); done) | (intro y; (repeat' split) <;> simp_all))
    (try dsimp only)
    refine foldM F₁ ?_; clear F₁; intro mfr1 F₁
    ktn_open
    exact hret _ _ _ (by assumption) (news_sub (l := (r, W.listOf vs.toArray k) :: rws) (by assumption) (fun p hp => .tail _ (hsub p hp)))
  case step =>
    rintro I i m₁ nx t h tk hI hi ⟨wt, lt, vt, rfl, hlk, hwl, hm1, hm2, hm3, hm4, hm5⟩ hoff F₁ N₁
    refine foldQ ?_; intro qloop18
    rcases hst : stand n nu i with ⟨wl, lk, v⟩
    rw [hst] at hlk hwl hm1 hm2 hm3
    dsimp only at hlk hwl hm1 hm2 hm3
    obtain ⟨x, hx, l, k', t0, t1, t2, t3, rfl, hmem⟩ := hrows (n - 1 - i) (by omega)
    generalize hq : rowAt (n - 1 - i) = q at *
    have hb : (n : Int) - 1 + (i : Int) * (-1) = ((n - 1 - i : Nat) : Int) := by omega
    rw [hb] at F₁
    replace hx : vs[(((n - 1 - i : Nat) : Int)).toNat]? = some (.ref l) := hx
    have hb0 : (0 : Int) ≤ ((n - 1 - i : Nat) : Int) := by omega
    have hb1 : ((n - 1 - i : Nat) : Int) < 2 ^ 63 := by omega
    generalize ((n - 1 - i : Nat) : Int) = bw at *
    have hwd : (ofL wl).length ≤ 100 := by rw [ofL_len]; omega
    generalize hwe : ofL wl = wd at *
    refine foldV (krsIt ((n : Int) - 1 + ((i + 1 : Nat) : Int) * (-1)) ((n : Int) - ((i + 1 : Nat) : Int)) (-1)) ?_; intro it1
    replace N₁ : News _ _ _ ((I, it1) :: (l, W.listOf #[.int q.1 t0, .int q.2.1 t1, .int q.2.2.1 t2, .int q.2.2.2 t3] k') :: (r, W.listOf vs.toArray k) :: rws) := news_sub N₁ (by
      intro p hp
      rcases List.mem_cons.mp hp with rfl | hp
      · exact .head _
      rcases List.mem_cons.mp hp with rfl | hp
      · exact .tail _ (.tail _ hmem)
      · exact .tail _ hp)
    replace F₁ := fr_eq (m' := fun y => if y = Str.ofString "below" then some (Value.int bw t) else if y = Str.ofString "word" then some (Value.str wd wt) else if y = Str.ofString "lacks" then some (Value.int lk lt) else if y = Str.ofString "number" then some (Value.int v vt) else if y = Str.ofString "rows" then some (Value.ref r) else if y = Str.ofString "count" then some (Value.int n tn) else m₁ y) F₁ (by first | (intro y; (repeat (first | with_reducible rfl | refine abS ?_ | (refine ab ?_ ?_; assumption) | fail "ab")); done) | (intro y; (repeat' split) <;> simp_all))
    refine foldM F₁ ?_; clear F₁; intro mfr1 F₁
    ktn_open
    refine For_turns (by assumption) ?_
    ktn_open
    refine iter_listTurns (vs := [_, _, _]) rfl (by assumption) (by assumption) (.head _) rfl rfl ?_
    intro It hIt
    dsimp only [List.map]
    ktn_open
    all_goals
      have e0 : ∀ {c : Nat} {sh v' : Int}, stStep q lk v = (c, sh, v') → stand n nu (i + 1) = (c :: wl, Builtin.bitXor lk sh, v') := by
        intro c sh v' h
        simp only [stand, hst, hq, h]
    all_goals
      have hcons : ∀ (x : Str) (c : Nat), x = ofL [c] → x ++ wd = ofL (c :: wl) := by
        rintro x c rfl
        rw [← hwe, ofL_append]
        rfl
    · have e1 := e0 (c := 108) (sh := 0) (v' := v) (by unfold stStep; rw [if_pos (by assumption)])
      have e2 := hcons (Str.ofString "l") 108 (by decide +kernel)
      with_reducible rename Fr _ _ _ _ => FEnd; refine foldM FEnd ?_; clear FEnd; intro mEnd FEnd
      refine turn_end (I := I) (by assumption) (news_sub (by assumption) ?sub1) (fun p hp => hoff p hp) ⟨_, _, _, rfl, by rw [e1]; exact hlk.xor (.inl rfl), by rw [e1]; simp [hwl], by rw [e1]; show _ = some (Value.str (ofL (108 :: wl)) _); rw [← e2]; rfl, by rw [e1]; rfl, by rw [e1]; rfl, rfl, rfl⟩
      case sub1 =>
        intro p hp
        rcases List.mem_cons.mp hp with rfl | hp
        · k_mem
        rcases List.mem_cons.mp hp with rfl | hp
        · k_mem
        · repeat' (first | exact hp | refine List.Mem.tail _ ?_)
    · have e1 := e0 (c := 109) (sh := 1) (by unfold stStep; rw [if_neg (by assumption), if_pos (by assumption)])
      have e2 := hcons (Str.ofString "m") 109 (by decide +kernel)
      with_reducible rename Fr _ _ _ _ => FEnd; refine foldM FEnd ?_; clear FEnd; intro mEnd FEnd
      refine turn_end (I := I) (by assumption) (news_sub (by assumption) ?sub1) (fun p hp => hoff p hp) ⟨_, _, _, rfl, by rw [e1]; exact hlk.xor (.inr (.inl rfl)), by rw [e1]; simp [hwl], by rw [e1]; show _ = some (Value.str (ofL (109 :: wl)) _); rw [← e2]; rfl, by rw [e1]; rfl, by rw [e1]; rfl, rfl, rfl⟩
      case sub1 =>
        intro p hp
        rcases List.mem_cons.mp hp with rfl | hp
        · k_mem
        rcases List.mem_cons.mp hp with rfl | hp
        · k_mem
        · repeat' (first | exact hp | refine List.Mem.tail _ ?_)
    · have e1 := e0 (c := 114) (sh := 2) (by unfold stStep; rw [if_neg (by assumption), if_neg (by assumption), if_pos (by assumption)])
      have e2 := hcons (Str.ofString "r") 114 (by decide +kernel)
      with_reducible rename Fr _ _ _ _ => FEnd; refine foldM FEnd ?_; clear FEnd; intro mEnd FEnd
      refine turn_end (I := I) (by assumption) (news_sub (by assumption) ?sub1) (fun p hp => hoff p hp) ⟨_, _, _, rfl, by rw [e1]; exact hlk.xor (.inr (.inr (.inl rfl))), by rw [e1]; simp [hwl], by rw [e1]; show _ = some (Value.str (ofL (114 :: wl)) _); rw [← e2]; rfl, by rw [e1]; rfl, by rw [e1]; rfl, rfl, rfl⟩
      case sub1 =>
        intro p hp
        rcases List.mem_cons.mp hp with rfl | hp
        · k_mem
        rcases List.mem_cons.mp hp with rfl | hp
        · k_mem
        · repeat' (first | exact hp | refine List.Mem.tail _ ?_)
    · have e1 := e0 (c := 114) (sh := 2) (by unfold stStep; rw [if_neg (by assumption), if_neg (by assumption), if_neg (by assumption)])
      have e2 := hcons (Str.ofString "r") 114 (by decide +kernel)
      with_reducible rename Fr _ _ _ _ => FEnd; refine foldM FEnd ?_; clear FEnd; intro mEnd FEnd
      refine turn_end (I := I) (by assumption) (news_sub (by assumption) ?sub1) (fun p hp => hoff p hp) ⟨_, _, _, rfl, by rw [e1]; exact hlk.xor (.inr (.inr (.inl rfl))), by rw [e1]; simp [hwl], by rw [e1]; show _ = some (Value.str (ofL (114 :: wl)) _); rw [← e2]; rfl, by rw [e1]; rfl, by rw [e1]; rfl, rfl, rfl⟩
      case sub1 =>
        intro p hp
        rcases List.mem_cons.mp hp with rfl | hp
        · k_mem
        rcases List.mem_cons.mp hp with rfl | hp
        · k_mem
        · repeat' (first | exact hp | refine List.Mem.tail _ ?_)
end
theorem wakeCFor : True ∧ True := by
  w_top off
  first | (walk1; fail) | exact ⟨trivial, trivial⟩
theorem goGen {prog : Program} {w : World} {A : Around} {E : Value → Shared → Prop} {s : Shared} {elts : List Expr} {k : Nat} {tp : Pos} {a : Addr} {g : Nat} {v : Value} {Q : Unit → Shared → Prop} (hg : s.heap.IsGen a g) (h : Q () s) :
    wpAny (model prog w) A (letOwnedTupleGo (.Tuple elts k tp) (.ref a) v) Q E s := by
  obtain ⟨o, nm, qn, ho, hcl, hd, hsl⟩ := hg
  cases v with
  | ref T =>
    unfold letOwnedTupleGo
    refine wpAny_bind (wpAny_load ho ?_)
    rw [hcl, hd]
    (try dsimp only)
    rw [if_neg (by simp)]
    exact wpAny_pure h
  | _ => exact wpAny_pure h
theorem forGen (w : World) (p : Program) (loose : List Str) (mean : ExcName → Option Value) (mg mb : Str → Option Value) {qual : Str} {gbody : List Stmt} {scope : Scope}
    (hdef : fnAt (_root_.hd.heap_1 w.params) 80 = some (qual, gbody, scope))
    {h₀ : Heap} {L a C : Addr} {cs : List Nat} {x : Str} {t : Tok} (hx : x = ofL cs) (hc92 : ∀ c ∈ cs, c ≠ 92) (hc128 : ∀ c ∈ cs, c < 128)
    (T : Top p loose mean mg mb h₀) (X : (_root_.hd.heap_1 w.params).In h₀) (A : Around) (hA : A.handled = none) (hroom : A.depth < recursionLimit) {env : Env} {elts : List Expr} {k : Nat} {tp : Pos} {fbody : List Stmt}
    (pre : Array GenState) (s : Shared) (m mC : Str → Option Value) (news : List (Addr × Obj)) (F : Fr h₀ L s.heap m) (FC : Fr h₀ C s.heap mC) (hmC : mC (Str.ofString "addr") = some (.str x t)) (N : News h₀ L s.heap news)
    (hg : s.heap.IsGen a pre.size) (hgs : s.gens = pre.push (.fresh (.func gbody (envOf qual scope C 80 (.ref 79))))) (hLC : @Ne Nat L C) (haL : @Ne Nat a L) (haC : @Ne Nat a C) (h0a : h₀.get? a = none) (offN : ∀ p ∈ news, p.1 ≠ C)
    (J : Nat → (Str → Option Value) → Prop) (hJ : J 0 m)
    (turn : ∀ i T' c t1 t2 nn od osl m₁ own h tk gens (E : Value → Shared → Prop), i < cs.length → cs[i]? = some c → J i m₁ → Fr h₀ L h m₁ → News h₀ L h ((T', tupO od osl nn i t1 c t2) :: (own ++ news)) →
      wpAny (model PySem.Challenge.pw_to0083_01 w) A (assign (.Tuple elts k tp) env (.ref T')) (fun _ s₂ => wpAny (model PySem.Challenge.pw_to0083_01 w) A (execs fbody env) (Shut fun f s₃ => f = .next ∧ ∃ h' tk' m', s₃ = { s with heap := h', toks := tk', gens := gens } ∧ Fr h₀ L h' m' ∧ News h₀ L h' (own ++ news) ∧ J (i + 1) m') E s₂) E { s with heap := h, toks := tk, gens := gens })
    (R : Result → Shared → Prop) (done : ∀ m' h' tk', J cs.length m' → Fr h₀ L h' m' → News h₀ L h' news → R (.ok .next) { s with heap := h', toks := tk', gens := pre.push .finished }) :
    codeAny (model PySem.Challenge.pw_to0083_01 w) A (.forLoop (.Tuple elts k tp) (.ref a) fbody [] env) R s := by
  obtain ⟨it, hit⟩ : ∃ it, s.heap.objs.size = it := ⟨_, rfl⟩
  obtain ⟨e, he⟩ : ∃ e, e = it + 1 := ⟨_, rfl⟩
  have hLs : @LT.lt Nat _ L it := hit ▸ F.ns.lt
  have hCs : @LT.lt Nat _ C it := hit ▸ FC.ns.lt
  have has : @LT.lt Nat _ a it := by
    obtain ⟨o, _, _, ho, _⟩ := id hg
    exact hit ▸ Heap.lt_size ho
  have hLe : @LT.lt Nat _ L e := he ▸ Nat.lt_succ_of_lt hLs
  have hae : @LT.lt Nat _ a e := he ▸ Nat.lt_succ_of_lt has
  have hCe : @LT.lt Nat _ C e := he ▸ Nat.lt_succ_of_lt hCs
  have hab : @LE.le Nat _ h₀.objs.size L := F.above
  have hCb : @LE.le Nat _ h₀.objs.size C := FC.above
  have h0C : h₀.get? C = none := Heap.get?_none_of_le hCb
  have h0i : h₀.get? it = none := Heap.get?_none_of_le (Nat.le_trans hab (Nat.le_of_lt hLs))
  have h0e : h₀.get? e = none := Heap.get?_none_of_le (Nat.le_trans hab (Nat.le_of_lt hLe))
  have hnN : ∀ p ∈ news, p.1 ∉ [e, it] := by
    intro p hp hm
    have h1 : @LT.lt Nat _ p.1 it := hit ▸ Heap.lt_size (N p hp).1
    rcases List.mem_cons.mp hm with h2 | h2
    · rw [h2, he] at h1
      exact Nat.lt_irrefl _ (Nat.lt_trans h1 (Nat.lt_succ_self it))
    · rw [List.mem_singleton.mp h2] at h1
      exact Nat.lt_irrefl _ h1
  have hLx : L ∉ [e, it] := by
    intro hm
    rcases List.mem_cons.mp hm with h2 | h2
    · exact Nat.ne_of_lt hLe h2
    · exact Nat.ne_of_lt hLs (List.mem_singleton.mp h2)
  have hax : a ∉ [e, it] := by
    intro hm
    rcases List.mem_cons.mp hm with h2 | h2
    · exact Nat.ne_of_lt hae h2
    · exact Nat.ne_of_lt has (List.mem_singleton.mp h2)
  have h0x : ∀ b o, h₀.get? b = some o → b ≠ C ∧ b ∉ [e, it] := by
    intro b o hb
    refine ⟨fun h => ?_, fun hm => ?_⟩
    · rw [h, h0C] at hb; cases hb
    · rcases List.mem_cons.mp hm with h2 | h2
      · rw [h2, h0e] at hb; cases hb
      · rw [List.mem_singleton.mp h2, h0i] at hb; cases hb
  have hgsz : ∀ y : GenState, (pre.push y)[pre.size]? = some y := fun y => by simp
  have hset : ∀ y z : GenState, (pre.push y).setIfInBounds pre.size z = pre.push z := fun y z => by
    apply Array.ext
    · simp
    · intro i h1 h2
      have hi : i < pre.size + 1 := by simpa using h2
      by_cases hip : i = pre.size
      · subst hip
        simp
      · have hi2 : i < pre.size := by omega
        rw [Array.getElem_setIfInBounds (by simpa using h1), if_neg (fun hh => hip hh.symm), Array.getElem_push_lt hi2, Array.getElem_push_lt hi2]
  refine codeAny_forLoop_any (fun n s' => ∃ j, j ≤ cs.length ∧ n = cs.length + 1 - j ∧ ∃ h tk m₁ gs, s' = { s with heap := h, toks := tk, gens := pre.push gs } ∧ Fr h₀ L h m₁ ∧ News h₀ L h news ∧ J j m₁ ∧ h.IsGen a pre.size ∧ gs.Goes (model PySem.Challenge.pw_to0083_01 w) A.in1 (escR C e it) (escY h₀ C e it cs) (cs.length - j) (.send .none) (({ s with heap := h, toks := tk, gens := pre.push gs } : Shared).setGen pre.size .running)) ?_ (cs.length + 1) ⟨0, Nat.zero_le _, rfl, s.heap, s.toks, m, .fresh (.func gbody (envOf qual scope C 80 (.ref 79))), by rw [← hgs], F, N, hJ, hg, rfl, ?_⟩
  · rintro n s' ⟨j, hj, rfl, h, tk, m₁, gs, rfl, F₁, N₁, hJ₁, hg₁, hgo⟩
    refine wpAny_pyNext_gen (P := fun n s₀ s₁ => n = 0 ∧ ∃ h' tk, s₁ = { s₀ with heap := h', toks := tk } ∧ Pv C [e, it] s₀.heap h') hA (T.nolimit.keeps F₁.keep) hroom hg₁ (hgsz gs) hgo (fun v s₁ gs' hv => ?_) (fun s₁ hp h' hk => ?_)
    · obtain ⟨⟨T', c, t1, t2, nn, od, osl, rfl, hc, hT, hTlt, hCT, heT, hiT⟩, ⟨h2, tk2, rfl, hpv⟩, ⟨oC, oe, oi, hoC, hoe, hoi⟩, hkap⟩ := hv
      have hpv' : Pv C [e, it] h h2 := hpv
      have hk2 : ∀ b o, h₀.get? b = some o → h2.get? b = some o := fun b o hb => hpv' b o (h0x b o hb).1 (h0x b o hb).2 (F₁.keep b o hb)
      rcases Nat.eq_or_lt_of_le hj with rfl | hjl
      · rw [Nat.sub_self] at hkap
        exact (hkap _ hk2 (fun _ _ _ eb => eb)).elim
      obtain ⟨r, hr⟩ : ∃ r, cs.length - j = r + 1 := ⟨cs.length - j - 1, by omega⟩
      rw [hr] at hkap hc hT
      have hrj : cs.length - 1 - (r + 1 - 1) = j := by omega
      rw [hrj] at hc hT
      have hg2 : h2.IsGen a pre.size := let ⟨o, nm, qn, ho, r⟩ := hg₁; ⟨o, nm, qn, hpv' a o haC hax ho, r⟩
      have F2 : Fr h₀ L h2 m₁ := ⟨F₁.ns.at' fun o eo => hpv' L o hLC hLx eo, hk2, hab⟩
      have hTh : ∀ b o, h.get? b = some o → b < T' := fun b o hb => hTlt b o hb
      have N2 : News h₀ L h2 news := fun q hq => ⟨hpv' _ _ (offN q hq) (hnN q hq) (N₁ q hq).1, (N₁ q hq).2⟩
      obtain ⟨oa, nma, qna, hoa, hra⟩ := id hg2
      have hLT : @LT.lt Nat _ L T' := by
        obtain ⟨oL, _, _, hoL, _⟩ := F₁.ns
        exact hTh L oL hoL
      have N3 : News h₀ L h2 ((T', tupO od osl nn j t1 c t2) :: ([(a, oa), (C, oC), (e, oe), (it, oi)] ++ news)) := by
        refine List.forall_mem_cons.mpr ⟨⟨hT, Nat.ne_of_gt hLT, Heap.get?_none_of_le (Nat.le_trans hab (Nat.le_of_lt hLT))⟩, ?_⟩
        refine List.forall_mem_cons.mpr ⟨⟨hoa, haL, h0a⟩, List.forall_mem_cons.mpr ⟨⟨hoC, hLC.symm, h0C⟩, List.forall_mem_cons.mpr ⟨⟨hoe, Nat.ne_of_gt hLe, h0e⟩, List.forall_mem_cons.mpr ⟨⟨hoi, Nat.ne_of_gt hLs, h0i⟩, N2⟩⟩⟩⟩
      (try dsimp only)
      refine goGen hg2 ?_
      have hgen : (Shared.setGen { (({ s with heap := h, toks := tk, gens := pre.push gs } : Shared).setGen pre.size .running) with heap := h2, toks := tk2 } pre.size gs') = { s with heap := h2, toks := tk2, gens := pre.push gs' } := by
        show ({ s with heap := h2, toks := tk2, gens := (((pre.push gs).setIfInBounds pre.size .running).setIfInBounds pre.size gs') } : Shared) = _
        rw [hset, hset]
      rw [hgen]
      refine wpAny_mono (turn j T' c t1 t2 nn od osl m₁ [(a, oa), (C, oC), (e, oe), (it, oi)] h2 tk2 (pre.push gs') _ hjl hc hJ₁ F2 N3) (fun _ s₂ h₂ => ?_) fun _ _ z => z
      refine wpAny_mono h₂ (fun f s₃ h₃ => ?_) fun _ _ z => z
      obtain ⟨rfl, h4, tk4, m4, rfl, F4, N4, hJ4⟩ := h₃
      refine ⟨cs.length + 1 - (j + 1), by omega, j + 1, hjl, rfl, h4, tk4, m4, gs', rfl, F4, fun q hq => N4 q (List.mem_append.mpr (.inr hq)), hJ4, ⟨oa, nma, qna, (N4 _ (.head _)).1, hra⟩, ?_⟩
      have e9 : cs.length - (j + 1) = r := by omega
      rw [e9]
      refine hkap _ F4.keep (fun b hb o eo => ?_)
      rcases List.mem_cons.mp hb with rfl | hb
      · rw [show (h2.get? b = some o) from eo] at hoC
        cases hoC
        exact (N4 _ (.tail _ (.head _))).1
      rcases List.mem_cons.mp hb with rfl | hb
      · rw [show (h2.get? b = some o) from eo] at hoe
        cases hoe
        exact (N4 _ (.tail _ (.tail _ (.head _)))).1
      · obtain rfl := List.mem_singleton.mp hb
        rw [show (h2.get? b = some o) from eo] at hoi
        cases hoi
        exact (N4 _ (.tail _ (.tail _ (.tail _ (.head _))))).1
    · obtain ⟨h0, h3, tk3, rfl, hpv⟩ := hp
      have hjN : j = cs.length := by omega
      subst hjN
      have hpv' : Pv C [e, it] h h3 := hpv
      have hk' : ∀ b o, h3.get? b = some o → h'.get? b = some o := hk
      refine wpAny_execs_nil ?_
      have hfin : ({ (Shared.setGen { (({ s with heap := h, toks := tk, gens := pre.push gs } : Shared).setGen pre.size .running) with heap := h3, toks := tk3 } pre.size .finished) with heap := h' } : Shared) = { s with heap := h', toks := tk3, gens := pre.push .finished } := by
        show ({ s with heap := h', toks := tk3, gens := (((pre.push gs).setIfInBounds pre.size .running).setIfInBounds pre.size .finished) } : Shared) = _
        rw [hset, hset]
      rw [hfin]
      exact done m₁ h' tk3 hJ₁ ⟨F₁.ns.at' fun o eo => hk' _ _ (hpv' L o hLC hLx eo), fun b o hb => hk' _ _ (hpv' b o (h0x b o hb).1 (h0x b o hb).2 (F₁.keep b o hb)), hab⟩ (fun q hq => ⟨hk' _ _ (hpv' _ _ (offN q hq) (hnN q hq) (N₁ q hq).1), (N₁ q hq).2⟩)
  · exact escStart w p loose mean mg mb hdef hx hc92 hc128 T X A.in1 hA _ mC FC hmC hit he
theorem callGen (w : World) (p : Program) (loose : List Str) (mean : ExcName → Option Value) (mg mb : Str → Option Value) {qual : Str} {gbody : List Stmt} {scope : Scope}
    (hdef : fnAt (_root_.hd.heap_1 w.params) 80 = some (qual, gbody, scope))
    {h₀ : Heap} {L : Addr} {x : Str} {t : Tok} (T : Top p loose mean mg mb h₀) (X : (_root_.hd.heap_1 w.params).In h₀) (A : Around) (hroom : A.depth < recursionLimit)
    {s : Shared} {m : Str → Option Value} {news : List (Addr × Obj)} (F : Fr h₀ L s.heap m) (N : News h₀ L s.heap news) {Q E : Value → Shared → Prop}
    (h : ∀ a C h' tk mC, Fr h₀ L h' m → Fr h₀ C h' mC → mC (Str.ofString "addr") = some (.str x t) → News h₀ L h' news → h'.IsGen a s.gens.size → @Ne Nat L C → @Ne Nat a L → @Ne Nat a C → h₀.get? a = none → (∀ p ∈ news, p.1 ≠ C) →
      Q (.ref a) { s with heap := h', toks := tk, gens := s.gens.push (.fresh (.func gbody (envOf qual scope C 80 (.ref 79)))) }) :
    wpAny (model PySem.Challenge.pw_to0083_01 w) A (call (.ref 80) [.str x t]) Q E s := by
  have h2 : some (_, _, _) = some (qual, gbody, scope) := hdef
  simp only [Option.some.injEq, Prod.mk.injEq] at h2
  clear hdef
  obtain ⟨rfl, rfl, rfl⟩ := h2
  have hLs : @LT.lt Nat _ L s.heap.objs.size := F.ns.lt
  have hab : @LE.le Nat _ h₀.objs.size L := F.above
  refine wpAny_call (codeAny_call_generator hroom ((X.keeps F.keep) 80 _ (by k_is)) rfl rfl rfl rfl (codeRec_of (X.keeps F.keep) (by k_is)) ?_)
  refine (BindsTo.of_eq (binds := [(Str.ofString "addr", .str x t)]) rfl) _ _ _ _ ?_
  refine wpAny_newFunctionEnv (by decide) (fun y hy => by rw [List.mem_singleton.mp hy]; rfl) (fun h2 hn2 hs2 => ?_)
  have hk2 : ∀ b o, s.heap.get? b = some o → h2.get? b = some o := fun b o hb => hs2.extBut b o (fun hh => by rw [hh] at hb; exact Nat.lt_irrefl _ (Heap.lt_size hb)) (Heap.get?_push_of_some _ hb)
  have hz2 : h2.objs.size = s.heap.objs.size + 1 := by rw [hs2.1, Heap.size_push]
  refine ⟨T.nolimit.keeps fun b o hb => hk2 b o (F.keep b o hb), ?_⟩
  (try dsimp only)
  have hkp : ∀ (og : Obj) b o, s.heap.get? b = some o → (h2.push og).get? b = some o := fun og b o hb => Heap.get?_push_of_some _ (hk2 b o hb)
  refine h _ s.heap.objs.size _ _ _ (F.keeps (hkp _)) ⟨hn2.push _, fun b o hb => hkp _ b o (F.keep b o hb), Nat.le_trans hab (Nat.le_of_lt hLs)⟩ rfl (fun q hq => ⟨hkp _ _ _ (N q hq).1, (N q hq).2⟩) ⟨_, _, _, Heap.get?_push_size _ rfl, rfl, rfl, rfl⟩ (Nat.ne_of_lt hLs) ?_ ?_ ?_ (fun q hq => Nat.ne_of_lt (Heap.lt_size (N q hq).1))
  · rw [hz2]; exact Nat.ne_of_gt (Nat.lt_succ_of_lt hLs)
  · rw [hz2]; exact Nat.succ_ne_self _
  · rw [hz2]; exact Heap.get?_none_of_le (Nat.le_trans hab (Nat.le_of_lt (Nat.lt_succ_of_lt hLs)))
theorem wakeCTab : True ∧ True := by
  w_top off
  first | (walk1; fail) | exact ⟨trivial, trivial⟩
theorem i2dC (w : World) (p : Program) (loose : List Str) (mean : ExcName → Option Value) (mg mb : Str → Option Value) (l rest : List (Addr × Obj)) (hl : Tab 54 36 i2q l) (hr : ∀ p ∈ rest, p.1 ≠ 54) (a : Int) (ta tn : Tok) (d : Nat) (ha : 0 < a) (ha2 : a ≤ 4000) (hd1 : 1 ≤ d) (hd4 : d ≤ 4) (hd3 : Int.fdiv (((Builtin.Int.intBits a : Nat) : Int) + 3 - 1) 3 = (d : Int)) :
    Calls w (hd.heap_1 w.params) p loose mean mg mb 59 10 100 (l ++ rest) [.int a ta, .int 3 tn] (fun h₀ L m s Q => CodeHd h₀ 58 54 ∧ ∀ (T : Addr) (vs : List Value) (kk : Nat) (l' : List (Addr × Obj)) h' tk', Tab 54 36 i2q l' → Fr h₀ L h' m → News h₀ L h' ((T, W.listOf vs.toArray kk) :: (l' ++ rest)) → IntsAre vs (innerS d a 0 d (List.replicate d 0)) → Q (.ref T) { s with heap := h', toks := tk' }) PySem.Challenge.pw_to0083_01 := by
  rcases hl with rfl | ⟨c, oc, cv, t, rfl, dc1, dc2, hc⟩
  · intro dp un gd cn cs ad ccd cl outer A₀ base h₀ L m s Q E B F X N T hk hd hu hret
    obtain ⟨C0, hret⟩ := hret
    exact callsUse (i2dE w p loose mean mg mb rest hr a ta tn d ha ha2 hd1 hd4 hd3) B F X N T hk hd hu ⟨C0, fun T vs kk c oc cv t h' tk' F' N' hc d1 d2 hi => hret T vs kk _ h' tk' (.inr ⟨c, oc, cv, t, rfl, d1, d2, hc⟩) F' N' hi⟩
  · intro dp un gd cn cs ad ccd cl outer A₀ base h₀ L m s Q E B F X N T hk hd hu hret
    obtain ⟨C0, hret⟩ := hret
    exact callsUse (i2dG w p loose mean mg mb rest c oc cv t dc1 dc2 a ta tn d ha ha2 hd1 hd4 hd3) B F X N T hk hd hu ⟨C0, fun T vs kk h' tk' F' N' hi => hret T vs kk _ h' tk' (.inr ⟨c, oc, cv, t, rfl, dc1, dc2, hc⟩) F' N' hi⟩
theorem d2iC (w : World) (p : Program) (loose : List Str) (mean : ExcName → Option Value) (mg mb : Str → Option Value) (l rest : List (Addr × Obj)) (hl : Tab 61 51 d2q l) (hr : ∀ p ∈ rest, p.1 ≠ 61) (D : Addr) (vs : List Value) (ns : List Int) (kk n : Nat) (hn1 : 1 ≤ n) (hn3 : n ≤ 3) (hnl0 : 1 ≤ ns.length) (hnl : ns.length ≤ 4) (hns : ∀ x ∈ ns, 0 ≤ x ∧ x ≤ 4000) (hints : IntsAre vs ns) (hD : @Ne Nat D 61) (tn : Tok) :
    Calls w (hd.heap_1 w.params) p loose mean mg mb 66 10 100 (l ++ (D, W.listOf vs.toArray kk) :: rest) [.ref D, .int n tn] (fun h₀ L m s Q => CodeHd h₀ 65 61 ∧ ∀ (l' : List (Addr × Obj)) (t2 : Tok) h' tk', Tab 61 51 d2q l' → Fr h₀ L h' m → News h₀ L h' (l' ++ (D, W.listOf vs.toArray kk) :: rest) → Q (.int (d2iS ns.length ns n 0 ns.length) t2) { s with heap := h', toks := tk' }) PySem.Challenge.pw_to0083_01 := by
  rcases hl with rfl | ⟨c, oc, cv, t, rfl, dc1, dc2, hc⟩
  · intro dp un gd cn cs ad ccd cl outer A₀ base h₀ L m s Q E B F X N T hk hd hu hret
    obtain ⟨C0, hret⟩ := hret
    exact callsUse (d2iE w p loose mean mg mb rest hr D vs ns kk n hn1 hn3 hnl0 hnl hns hints hD tn) B F X N T hk hd hu ⟨C0, fun c oc cv t t2 h' tk' F' N' hc d1 d2 => hret _ t2 h' tk' (.inr ⟨c, oc, cv, t, rfl, d1, d2, hc⟩) F' N'⟩
  · intro dp un gd cn cs ad ccd cl outer A₀ base h₀ L m s Q E B F X N T hk hd hu hret
    obtain ⟨C0, hret⟩ := hret
    exact callsUse (d2iG w p loose mean mg mb rest c oc cv t dc1 dc2 D vs ns kk n hn1 hn3 hnl0 hnl hns hints tn) B F X N T hk hd hu ⟨C0, fun t2 h' tk' F' N' => hret _ t2 h' tk' (.inr ⟨c, oc, cv, t, rfl, dc1, dc2, hc⟩) F' N'⟩
section
local macro_rules | `(tactic| walk_at "execs cons") => do
  let q := Lean.mkIdent `qstm
  `(tactic| ((refine Mine.gen_consF ?_); intro tk $q:ident; (try dsimp only)))
local macro_rules | `(tactic| walk_at "execs nil") => `(tactic| ((refine Mine.gen_nil ?_); intro tk; (try dsimp only)))
local macro_rules | `(tactic| k_all) => `(tactic| first | assumption | (refine' List.forall_mem_cons.mpr ⟨?a, ?b⟩; (case a => k_ne); (case b => k_all)))
theorem wakeCConv : True ∧ True := by
  w_top off
  first | (walk1; fail) | exact ⟨trivial, trivial⟩
section
local macro_rules | `(tactic| tb_start) => `(tactic| with_reducible first | refine Mine.atMeth ?_ | refine Mine.atSearch ?_)
theorem convC (w : World) (p : Program) (loose : List Str) (mean : ExcName → Option Value) (mg mb : Str → Option Value) (news : List (Addr × Obj)) (S : Addr) (x : Str) (t : Tok) (b : Bool) (hb : reOk b x) :
    CallsK w (_root_.hd.heap_1 w.params) p loose mean mg mb 147 2 30 news [.ref S, .str x t] [(Str.ofString "name", .bool b)] (fun h₀ L m s Q => ∀ h' tk', Fr h₀ L h' m → News h₀ L h' news → Q (.str x t) { s with heap := h', toks := tk' }) PySem.Challenge.pw_to0083_01 := by
  intro dp un gd cn cs' ad ccd cl outer A₀ base h₀ L m s Q E B F X N T hk hd hu hret
  refine wpAny_call ?_
  k_dflt cell_enter
  rename_i g1 L1 h1 FG1 F0 N1 B1 X1 T1
  cases b
  · skip
    ktn_open
    refine getSearch (by k_asm) (by k_asm) (by k_is) rfl rfl ?_
    ktn_open
    refine callSearch (by k_asm) (by k_asm) (by k_is) rfl rfl rfl rfl rfl (by k_is) rfl (by decide +kernel) hb ?_
    ktn_open
    exact hret _ _ (by assumption) (by assumption)
  · skip
    ktn_open
    refine getSearch (by k_asm) (by k_asm) (by k_is) rfl rfl ?_
    ktn_open
    refine callSearch (by k_asm) (by k_asm) (by k_is) rfl rfl rfl rfl rfl (by k_is) rfl (by decide +kernel) hb ?_
    ktn_open
    exact hret _ _ (by assumption) (by assumption)
end
theorem wakeCHead : True ∧ True := by
  w_top off
  first | (walk1; fail) | exact ⟨trivial, trivial⟩
section
theorem headC (w : World) (p : Program) (loose : List Str) (mean : ExcName → Option Value) (mg mb : Str → Option Value) (news : List (Addr × Obj)) :
    Calls w (_root_.hd.heap_1 w.params) p loose mean mg mb 248 3 30 news [] (fun h₀ L m s Q => ∀ l x d t h' tk', Fr h₀ L h' m → News h₀ L h' ((l, W.listOf #[] 0) :: (x, instObj 248 d) :: (d, hdrDict w.params t l) :: news) → (∀ p ∈ news, p.1 < d) → @LT.lt Nat _ d x → @LT.lt Nat _ x l → Q (.ref x) { s with heap := h', toks := tk' }) PySem.Challenge.pw_to0083_01 := by
  intro dp un gd cn cs' ad ccd cl outer A₀ base h₀ L m s Q E B F X N T hk hd hu hret
  k_dflt (refine' call_cls ?k1 ?k2 ?k3 ?k4 ?k5 ?k6 ?_; (case k1 => k_asm); (case k2 => k_asm); (case k3 => k_asm); (case k4 => k_is); (case k5 => k_is); (case k6 => k_is); k_whole; intro x' d' h' F' N' l1 l2; have l1k := l1; have l2k := l2; (try k_lt l1); (try k_lt2 l2))
  k_dflt (refine' code_def ?k1 ?k2 ?k3 ?k4 ?k5 ?kA ?kF ?kK ?k6 ?k7 ?k8 ?k9 ?kB ?_ ?c2 ?c3 ?c4 ?c5; (case kA => exact rfl); (case kF => exact rfl); (case kK => assumption); (case k1 => k_asm); (case k2 => k_asm); (case k3 => k_asm); (case k4 => k_asm); (case k5 => k_asm); (case k6 => k_is); (case k7 => k_is); (case k8 => ktr_room); (case k9 => first | exact BindsTo.of_eq rfl | exact binds_K (by k_in) rfl (by k_is) rfl rfl rfl); (case c5 => decide); (case kB => exact locs rfl); (case c2 => exact rfl); (case c3 => exact rfl); (case c4 => exact rfl); k_whole; intro g' L' h' FG' F' N' B' X' T'; (try dsimp only); (try k_lift B'); (try k_fold))
  ktn_open
  rename Fr g' _ _ _ => F8
  rename News g' _ _ _ => N8
  refine wpAny_For ?_ (fun _ => rfl)
  ktn_open
  refine forListT rfl F8 N8 (fun i m₁ nx g => nx = _ ∧ g = s.gens) ⟨rfl, rfl⟩ (fun i m₁ nx g hj => by rw [hj.1]; k_mem) ?turn ?done (vs := []) 
  case turn => intro I itO i v m₁ nx h tk gens E' hI hi; exact absurd hi (Nat.not_lt_zero _)
  case done =>
    rintro m' nx h tk gens ⟨rfl, rfl⟩ F₁ N₁
    ktn_open
    rename (x' < _ ∧ _) => l3
    exact hret _ _ _ _ _ _ (by assumption) (by assumption) l1k l2k l3.1
end
section
local macro_rules | `(tactic| tb_start) => `(tactic| with_reducible first | refine Mine.atRef ?_ | refine Mine.atFor ?_)
theorem wakeCStrip : True ∧ True := by
  w_top off
  first | (walk1; fail) | exact ⟨trivial, trivial⟩
section
noncomputable def qtS (q j : Nat) : Nat := if j ≤ q + 1 then min j q - (min j q) % 2 else (if q % 2 = 0 then q else q + 2)
noncomputable def qtO (q j : Nat) : Option Nat := if j ≤ q + 1 then (if (min j q) % 2 = 1 then some (min j q - 1) else none) else (if q % 2 = 0 then some (q + 1) else none)
noncomputable def qtV (t : Tok) : Option Nat → Value
  | none => .none
  | some k => .int (k : Nat) t
theorem qtStep : ∀ q, q ≤ 7 → ∀ j, j < q + 2 → ((List.replicate q 34 ++ [40, 34])[j]? = some 40 ∧ qtS q (j + 1) = qtS q j ∧ qtO q (j + 1) = qtO q j) ∨ ((List.replicate q 34 ++ [40, 34])[j]? = some 34 ∧ qtO q j = none ∧ qtO q (j + 1) = some j ∧ qtS q (j + 1) = qtS q j) ∨ ((List.replicate q 34 ++ [40, 34])[j]? = some 34 ∧ qtO q j = some (qtS q j) ∧ qtS q (j + 1) = j + 1 ∧ qtO q (j + 1) = none) := by decide +kernel
theorem strOcc : ∀ q, q ≤ 7 → (Builtin.Str.occurrences (ofL (List.replicate q 34 ++ [40, 34])) (Str.ofString "\"") 0 (ofL (List.replicate q 34 ++ [40, 34])).length 1).isEmpty = false := by decide +kernel
theorem stripC (w : World) (p : Program) (loose : List Str) (mean : ExcName → Option Value) (mg mb : Str → Option Value) (news : List (Addr × Obj)) (q : Nat) (hq : q ≤ 7) (cs : List Nat) (hcs : cs = List.replicate q 34 ++ [40, 34]) (x : Str) (hx : x = ofL cs) (t : Tok) :
    Calls w (_root_.hd.heap_1 w.params) p loose mean mg mb 87 5 60 news [.str x t] (fun h₀ L m s Q => ∀ t' h' tk', Fr h₀ L h' m → News h₀ L h' news → Q (.str (ofL (if q % 2 = 0 then [40, 34] else [])) t') { s with heap := h', toks := tk', gens := s.gens.push .finished }) PySem.Challenge.pw_to0083_01 := by
  intro dp un gd cn cs' ad ccd cl outer A₀ base h₀ L m s Q E B F X N T hk hd hu hret
  have hxl : x.length = q + 2 := by rw [hx, ofL_len, hcs]; simp
  have hocc : (Builtin.Str.occurrences x (Str.ofString "\"") 0 x.length 1).isEmpty = false := by rw [hx, hcs]; exact strOcc q hq
  have hxl2 : x.length ≤ 100 := by omega
  refine wpAny_call ?_
  k_dflt cell_enter
  rename_i g1 L1 h1 FG1 F0 N1 B1 X1 T1
  replace F0 := fr_eq (m' := fun y => if y = Str.ofString "addr" then some (Value.str x t) else none) F0 (by intro y; show List.lookup y [(Str.ofString "addr", Value.str x t)] = _; rw [lk1, lk0])
  refine foldM F0 ?_; clear F0; intro mfr0 F0
  ktn_open
  rename_i rl _ hrl _ FA NA _
  refine wpAny_For ?_ (fun _ => rfl)
  ktn_open
  have hcl : cs.length = q + 2 := by rw [hcs]; simp
  have hcm : ∀ c ∈ cs, c = 34 ∨ c = 40 := by
    intro c hc
    rw [hcs] at hc
    rcases List.mem_append.mp hc with hc | hc
    · exact .inl (List.eq_of_mem_replicate hc)
    · rcases List.mem_cons.mp hc with rfl | hc
      · exact .inr rfl
      · exact .inl (List.mem_singleton.mp hc)
  refine callGen w p loose mean mg mb rfl T1 X1 _ (by ktr_room) (by k_asm) (by k_asm) ?_
  intro a C h' tk' mC F' FC hmC N' hg hLC haL haC h0a hoff
  (try dsimp only)
  refine wpAny_pyIter_gen hg ?_
  refine forGen w p loose mean mg mb rfl hx (fun c hc => by rcases hcm c hc with rfl | rfl <;> decide) (fun c hc => by rcases hcm c hc with rfl | rfl <;> decide) T1 X1 _ rfl (by ktr_room) s.gens _ _ mC _ F' FC hmC N' hg rfl hLC haL haC h0a hoff (fun j m₁ => ∃ ts to, m₁ (Str.ofString "addr") = some (.str x t) ∧ m₁ (Str.ofString "result") = some (.ref rl) ∧ m₁ (Str.ofString "start") = some (.int (qtS q j : Nat) ts) ∧ m₁ (Str.ofString "open_pos") = some (qtV to (qtO q j))) ?hJ ?turn _ ?done
  case hJ => exact ⟨_, 0, rfl, rfl, by show _ = some (Value.int (qtS q 0 : Nat) _); have : ∀ q, q ≤ 7 → qtS q 0 = 0 := (by decide); rw [this q hq]; rfl, by show _ = some (qtV 0 (qtO q 0)); have : ∀ q, q ≤ 7 → qtO q 0 = none := (by decide); rw [this q hq]; rfl⟩
  case turn =>
    rintro i T' c t1 t2 nn od osl m₁ own h tk gens E' hi hc ⟨ts, to, hm1, hm2, hm3, hm4⟩ F₁ N₁
    refine foldQ ?_; intro qloop19
    unfold tupO at N₁
    rw [hcs] at hc
    rcases qtStep q hq i (by omega) with ⟨e1, e2, e3⟩ | ⟨e1, e2, e3, e4⟩ | ⟨e1, e2, e3, e4⟩
    · rw [hc] at e1
      cases e1
      generalize hov : qtV to (qtO q i) = ov at *
      replace F₁ := fr_eq (m' := fun y => if y = Str.ofString "addr" then some (.str x t) else if y = Str.ofString "result" then some (.ref rl) else if y = Str.ofString "start" then some (.int (qtS q i : Nat) ts) else if y = Str.ofString "open_pos" then some ov else m₁ y) F₁ (by first | (intro y; (repeat (first | with_reducible rfl | refine abS ?_ | (refine ab ?_ ?_; assumption) | fail "ab")); done) | (intro y; (repeat' split) <;> simp_all))
      refine foldM F₁ ?_; clear F₁; intro mfr1 F₁
      ktn_open
      rename News g1 _ _ _ => N8
      exact ⟨rfl, _, _, _, rfl, by assumption, news_sub N8 (fun p hp => .tail _ hp), ts, to, rfl, rfl, by rw [e2]; rfl, by rw [e3, hov]; rfl⟩
    · rw [hc] at e1
      cases e1
      rw [e2] at hm4
      replace F₁ := fr_eq (m' := fun y => if y = Str.ofString "addr" then some (.str x t) else if y = Str.ofString "result" then some (.ref rl) else if y = Str.ofString "start" then some (.int (qtS q i : Nat) ts) else if y = Str.ofString "open_pos" then some .none else m₁ y) F₁ (by intro y; (repeat' split) <;> simp_all [qtV])
      refine foldM F₁ ?_; clear F₁; intro mfr2 F₁
      ktn_open
      rename News g1 _ _ _ => N8
      exact ⟨rfl, _, _, _, rfl, by assumption, news_sub N8 (fun p hp => .tail _ hp), ts, t1, rfl, rfl, by rw [e4]; rfl, by rw [e3]; rfl⟩
    · rw [hc] at e1
      cases e1
      rw [e2] at hm4
      generalize qtS q i = sv at *
      replace F₁ := fr_eq (m' := fun y => if y = Str.ofString "addr" then some (.str x t) else if y = Str.ofString "result" then some (.ref rl) else if y = Str.ofString "start" then some (.int (sv : Nat) ts) else if y = Str.ofString "open_pos" then some (.int (sv : Nat) to) else m₁ y) F₁ (by intro y; (repeat' split) <;> simp_all [qtV])
      refine foldM F₁ ?_; clear F₁; intro mfr3 F₁
      ktn_open
      · exact absurd rfl (by assumption)
      · rename News g1 _ _ _ => N8
        exact ⟨rfl, _, _, _, rfl, by assumption, news_sub N8 (fun p hp => .tail _ hp), _, 0, rfl, rfl, by rw [e3]; rfl, by rw [e4]; rfl⟩
  case done =>
    rintro m' h' tk' ⟨ts, to, hm1, hm2, hm3, hm4⟩ F₁ N₁
    rw [hcl] at hm3 hm4
    have hrl' : ∀ p ∈ news, p.1 ≠ rl := fun p hp => Nat.ne_of_lt (hrl p hp)
    have hS : ∀ q, q ≤ 7 → qtS q (q + 2) = if q % 2 = 0 then q else q + 2 := by decide
    rw [hS q hq] at hm3
    rcases Nat.mod_two_eq_zero_or_one q with hq2 | hq2
    · rw [if_pos hq2] at hm3
      rw [if_pos hq2] at hret
      replace F₁ := fr_eq (m' := fun y => if y = Str.ofString "addr" then some (.str x t) else if y = Str.ofString "result" then some (.ref rl) else if y = Str.ofString "start" then some (.int (q : Nat) ts) else m' y) F₁ (by first | (intro y; (repeat (first | with_reducible rfl | refine abS ?_ | (refine ab ?_ ?_; assumption) | fail "ab")); done) | (intro y; (repeat' split) <;> simp_all))
      (try dsimp only)
      refine foldM F₁ ?_; clear F₁; intro mfr4 F₁
      ktn_open
      rename News h₀ L _ _ => N8
      have e9 : Txt.slice x (some (q : Int)) none = ofL [40, 34] := by
        rw [hx, hcs, slice_from (by simp)]
        congr 1
        rw [List.drop_append_of_le_length (by simp), List.drop_of_length_le (by simp)]
        rfl
      have e10 : Txt.join (Str.ofString "") [ofL [40, 34]] = ofL [40, 34] := by decide +kernel
      rw [e9, e10]
      exact hret _ _ _ (by assumption) (news_sub N8 (fun p hp => .tail _ hp))
    · have hq3 : ¬ q % 2 = 0 := by omega
      rw [if_neg hq3] at hm3
      rw [if_neg hq3] at hret
      replace F₁ := fr_eq (m' := fun y => if y = Str.ofString "addr" then some (.str x t) else if y = Str.ofString "result" then some (.ref rl) else if y = Str.ofString "start" then some (.int ((q + 2 : Nat) : Int) ts) else m' y) F₁ (by first | (intro y; (repeat (first | with_reducible rfl | refine abS ?_ | (refine ab ?_ ?_; assumption) | fail "ab")); done) | (intro y; (repeat' split) <;> simp_all))
      (try dsimp only)
      refine foldM F₁ ?_; clear F₁; intro mfr5 F₁
      ktn_open
      rename News h₀ L _ _ => N8
      have e10 : Txt.join (Str.ofString "") [] = ofL [] := by decide +kernel
      rw [e10]
      exact hret _ _ _ (by assumption) (news_sub N8 (fun p hp => .tail _ hp))
end
theorem wakeCCheck : True ∧ True := by
  w_top off
  first | (walk1; fail) | exact ⟨trivial, trivial⟩
section
theorem checkC (w : World) (p : Program) (loose : List Str) (mean : ExcName → Option Value) (mg mb : Str → Option Value) (news : List (Addr × Obj)) (q : Nat) (hq : q ≤ 7) (cs : List Nat) (hcs : cs = List.replicate q 34 ++ [40, 34]) (x : Str) (hx : x = ofL cs) (t : Tok) :
    Calls w (_root_.hd.heap_1 w.params) p loose mean mg mb 94 7 80 news [.str x t] (fun h₀ L m s Q => ∀ h' tk', Fr h₀ L h' m → News h₀ L h' news → Q (.bool (decide (q % 2 = 1))) { s with heap := h', toks := tk', gens := (s.gens.push .finished).push .finished }) PySem.Challenge.pw_to0083_01 := by
  intro dp un gd cn cs' ad ccd cl outer A₀ base h₀ L m s Q E B F X N T hk hd hu hret
  refine wpAny_call ?_
  k_dflt cell_enter
  rename_i g1 L1 h1 FG1 F0 N1 B1 X1 T1
  replace F0 := fr_eq (m' := fun y => if y = Str.ofString "addr" then some (Value.str x t) else none) F0 (by intro y; show List.lookup y [(Str.ofString "addr", Value.str x t)] = _; rw [lk1, lk0])
  refine foldM F0 ?_; clear F0; intro mfr0 F0
  ktn_open
  refine callsUse (stripC w p loose mean mg mb news q hq cs hcs x hx _) (by k_asm) (by k_asm) (by k_asm) (by k_asm) (by k_asm) (by first | exact rfl | assumption) (by ktr_room) (by ktr_units) ?_
  intro t' h' tk' F' N'
  obtain ⟨ys, hys⟩ : ∃ ys, (if q % 2 = 0 then [40, 34] else []) = ys := ⟨_, rfl⟩
  rw [hys]
  obtain ⟨y, hy⟩ : ∃ y, y = ofL ys := ⟨_, rfl⟩
  rw [← hy]
  have hyl : y.length = ys.length := by rw [hy, ofL_len]
  have hyl2 : ys.length ≤ 2 := by rw [← hys]; split <;> simp
  have hyl3 : y.length ≤ 100 := by omega
  (try dsimp only)
  ktn_open
  rename Fr g1 _ _ _ => FA
  rename News g1 _ _ _ => NA
  refine wpAny_For ?_ (fun _ => rfl)
  ktn_open
  have hcm : ∀ c ∈ ys, c = 34 ∨ c = 40 := by
    intro c hc
    rw [← hys] at hc
    split at hc
    · rcases List.mem_cons.mp hc with rfl | hc
      · exact .inr rfl
      · exact .inl (List.mem_singleton.mp hc)
    · cases hc
  refine callGen w p loose mean mg mb rfl T1 X1 _ (by ktr_room) (by k_asm) (by k_asm) ?_
  intro a C h3 tk3 mC F3 FC hmC N3 hg hLC haL haC h0a hoff
  (try dsimp only)
  refine wpAny_pyIter_gen hg ?_
  refine forGen w p loose mean mg mb rfl hy (fun c hc => by rcases hcm c hc with rfl | rfl <;> decide) (fun c hc => by rcases hcm c hc with rfl | rfl <;> decide) T1 X1 _ rfl (by ktr_room) (s.gens.push .finished) _ _ mC _ F3 FC hmC N3 hg rfl hLC haL haC h0a hoff (fun j m₁ => ∃ ts, m₁ (Str.ofString "opens") = some (.int (if j = 0 then 0 else 1) ts)) ?hJ ?turn _ ?done
  case hJ => exact ⟨_, rfl⟩
  case turn =>
    rintro i T' c t1 t2 nn od osl m₁ own h tk gens E' hi hc ⟨ts, hm1⟩ F₁ N₁
    refine foldQ ?_; intro qloop1
    unfold tupO at N₁
    have hcc : (i = 0 ∧ c = 40) ∨ (i = 1 ∧ c = 34) := by
      rw [← hys] at hc
      split at hc
      · rcases i with _ | _ | i
        · left; exact ⟨rfl, by simpa using hc.symm⟩
        · right; exact ⟨rfl, by simpa using hc.symm⟩
        · simp at hc
      · simp at hc
    rcases hcc with ⟨rfl, rfl⟩ | ⟨rfl, rfl⟩
    · rw [if_pos rfl] at hm1
      replace F₁ := fr_eq (m' := fun y => if y = Str.ofString "opens" then some (.int 0 ts) else m₁ y) F₁ (by first | (intro y; (repeat (first | with_reducible rfl | refine abS ?_ | (refine ab ?_ ?_; assumption) | fail "ab")); done) | (intro y; (repeat' split) <;> simp_all))
      refine foldM F₁ ?_; clear F₁; intro mfr1 F₁
      ktn_open
      rename News g1 _ _ _ => N8
      exact ⟨rfl, _, _, _, rfl, by assumption, news_sub N8 (fun p hp => .tail _ hp), _, rfl⟩
    · rw [if_neg (by decide)] at hm1
      replace F₁ := fr_eq (m' := fun y => if y = Str.ofString "opens" then some (.int 1 ts) else m₁ y) F₁ (by first | (intro y; (repeat (first | with_reducible rfl | refine abS ?_ | (refine ab ?_ ?_; assumption) | fail "ab")); done) | (intro y; (repeat' split) <;> simp_all))
      refine foldM F₁ ?_; clear F₁; intro mfr2 F₁
      ktn_open
      rename News g1 _ _ _ => N8
      exact ⟨rfl, _, _, _, rfl, by assumption, news_sub N8 (fun p hp => .tail _ hp), _, rfl⟩
  case done =>
    rintro m' h' tk' ⟨ts, hm1⟩ F₁ N₁
    have hyv : (if ys.length = 0 then (0 : Int) else 1) = if q % 2 = 0 then 1 else 0 := by
      rw [← hys]
      split <;> rfl
    rw [hyv] at hm1
    generalize hov : (if q % 2 = 0 then (1 : Int) else 0) = ov at *
    replace F₁ := fr_eq (m' := fun y => if y = Str.ofString "opens" then some (.int ov ts) else m' y) F₁ (by first | (intro y; (repeat (first | with_reducible rfl | refine abS ?_ | (refine ab ?_ ?_; assumption) | fail "ab")); done) | (intro y; (repeat' split) <;> simp_all))
    (try dsimp only)
    refine foldM F₁ ?_; clear F₁; intro mfr3 F₁
    ktn_open
    have e9 : (ov == 0) = decide (q % 2 = 1) := by
      rw [← hov]
      rcases Nat.mod_two_eq_zero_or_one q with h | h <;> simp [h]
    rw [e9]
    exact hret _ _ (by assumption) (by assumption)
end
end
section
local macro_rules | `(tactic| tb_start) => `(tactic| with_reducible first | refine Mine.atRef ?_ | refine Mine.atKw ?_ | refine Mine.atFor ?_)
theorem wakeCGet : True ∧ True := by
  w_top off
  first | (walk1; fail) | exact ⟨trivial, trivial⟩
section
theorem getC (w : World) (p : Program) (loose : List Str) (mean : ExcName → Option Value) (mg mb : Str → Option Value) (rest : List (Addr × Obj)) (x d l : Addr) (td : Tok) (vs : List Value) (n : Nat) (es : List (Nat × Nat)) (hes : EntsAre rest vs es) (hec : ∀ e ∈ es, pegC e.1) (c : Nat) (hc : pegC c) (nm : Str) (hnm : nm = ofL [c]) (t : Tok) (two : Bool) (dv : Value) :
    Calls w (_root_.hd.heap_1 w.params) p loose mean mg mb 195 6 60 ((l, W.listOf vs.toArray n) :: (x, instObj 248 d) :: (d, hdrDict w.params td l) :: rest) (if two = true then [.ref x, .str nm t] else [.ref x, .str nm t, dv]) (fun h₀ L m s Q => ∀ v h' tk', (match findE es c with | some e => ∃ t', v = .str (ofL [48 + e.2]) t' | none => v = (if two = true then .none else dv)) → Fr h₀ L h' m → News h₀ L h' ((l, W.listOf vs.toArray n) :: (x, instObj 248 d) :: (d, hdrDict w.params td l) :: rest) → Q v { s with heap := h', toks := tk' }) PySem.Challenge.pw_to0083_01 := by
  intro dp un gd cn cs' ad ccd cl outer A₀ base h₀ L m s Q E B F X N T hk hd hu hret
  have hlow := lowTxt hc
  have hlp := lowPeg hc
  have hnl : nm.length = 1 := by rw [hnm, ofL_len]; rfl
  have hnl2 : nm.length ≤ 100 := by omega
  obtain ⟨dw, hdw⟩ : ∃ dw, (if two = true then Value.none else dv) = dw := ⟨_, rfl⟩
  rw [hdw] at hret
  cases two
  all_goals (first | rw [if_pos rfl] at hdw | rw [if_neg (by decide)] at hdw)
  all_goals (first | rw [if_pos rfl] | rw [if_neg (by decide)])
  all_goals refine wpAny_call ?_
  all_goals k_dflt (refine' code_def ?k1 ?k2 ?k3 ?k4 ?k5 ?kA ?kF ?kK ?k6 ?k7 ?k8 ?k9 ?kB ?_ ?c2 ?c3 ?c4 ?c5; (case kA => exact rfl); (case kF => exact rfl); (case kK => assumption); (case k1 => k_asm); (case k2 => k_asm); (case k3 => k_asm); (case k4 => k_asm); (case k5 => k_asm); (case k6 => k_is); (case k7 => k_is); (case k8 => ktr_room); (case k9 => first | exact BindsTo.of_eq rfl | exact binds_K (by k_in) rfl (by k_is) rfl rfl rfl); (case c5 => decide); (case kB => exact locs rfl); (case c2 => exact rfl); (case c3 => exact rfl); (case c4 => exact rfl); k_whole; intro g' L' h' FG' F' N' B' X' T'; (try dsimp only); (try k_lift B'); (try k_fold))
  all_goals replace F' := fr_eq (m' := fun y => if y = Str.ofString "default" then some dw else if y = Str.ofString "name" then some (Value.str nm t) else if y = Str.ofString "self" then some (Value.ref x) else none) F' (by
    intro y
    rw [← hdw]
    first
      | (show List.lookup y [(Str.ofString "default", dv), (Str.ofString "name", Value.str nm t), (Str.ofString "self", Value.ref x)] = _; rw [lk1, lk1, lk1, lk0])
      | (show List.lookup y [(Str.ofString "default", Value.none), (Str.ofString "name", Value.str nm t), (Str.ofString "self", Value.ref x)] = _; rw [lk1, lk1, lk1, lk0]))
  all_goals (
    ktn_open
    refine callsUseK (convC w p loose mean mg mb _ x (Txt.lower nm) _ true (by rw [hnm, hlow]; exact reOk_names _ hlp)) (by k_asm) (by k_asm) (by k_asm) (by k_asm) (by k_asm) (by first | exact rfl | assumption) (by ktr_room) (by ktr_units) ?_
    intro h3 tk3 F3 N3
    have hnl3 : (Txt.lower nm).length ≤ 100 := by rw [hnm, hlow, ofL_len]; exact Nat.le_add_left 1 99
    obtain ⟨lo, hlo⟩ : ∃ lo, Txt.lower nm = lo := ⟨_, rfl⟩
    have hloe : lo = ofL [lowC c] := by rw [← hlo, hnm, hlow]
    rw [hlo] at hnl3
    rw [hlo]
    (try dsimp only)
    clear F' N'
    ktn_open
    rename Fr g' _ _ _ => F8
    rename News g' _ _ _ => N8
    refine wpAny_For ?_ (fun _ => rfl)
    ktn_open
    refine forListT rfl F8 N8 (fun i m₁ nx g => nx = _ ∧ g = s.gens ∧ findE (es.take i) c = none ∧ m₁ (Str.ofString "default") = some dw ∧ ∃ tn, m₁ (Str.ofString "name") = some (Value.str lo tn)) ⟨rfl, rfl, rfl, rfl, _, rfl⟩ (fun i m₁ nx g hj => by rw [hj.1]; exact .head _) ?turn ?done
    case turn =>
      rintro I itO i v m₁ nx h tk gens E' hI hi hv ⟨rfl, rfl, hfi, hm1, tn, hm2⟩ hoff hic F₁ N₁
      refine foldQ ?_; intro qloop4
      have hie : i < es.length := by rw [← hes.1]; exact hi
      obtain ⟨e, he⟩ : ∃ e, es[i]? = some e := ⟨es[i], List.getElem?_eq_getElem hie⟩
      obtain ⟨T, od, osl, nn, t1, t2, hvT, hmem⟩ := hes.2 i e he
      rw [hv] at hvT
      cases hvT
      have hep := hec e (List.mem_of_getElem? he)
      have N₂ := news_dup N₁ (.tail _ (.tail _ (.tail _ (.tail _ hmem))))
      unfold tupE at N₂
      have hst := findE_step he hfi
      have hel : (ofL [e.1]).length ≤ 100 := by rw [ofL_len]; exact Nat.le_add_left 1 99
      have hlt := lowTxt hep
      generalize hk1 : ofL [e.1] = k1 at *
      generalize hk2 : ofL [48 + e.2] = k2 at *
      replace F₁ := fr_eq (m' := fun y => if y = Str.ofString "default" then some dw else if y = Str.ofString "name" then some (Value.str lo tn) else m₁ y) F₁ (by first | (intro y; (repeat (first | with_reducible rfl | refine abS ?_ | (refine ab ?_ ?_; assumption) | fail "ab")); done) | (intro y; (repeat' split) <;> simp_all))
      clear N₁
      refine foldM F₁ ?_; clear F₁; intro mfr0 F₁
      ktn_open
      · rename (Txt.lower k1 == lo) = true => heq
        rw [hlt, hloe, low_eq] at heq
        rw [if_pos (of_decide_eq_true heq)] at hst
        have hf := findE_pre hst
        rw [hf] at hret
        dsimp only at hret ⊢
        refine Or.inr ⟨_, rfl, ?_⟩
        k_unfold
        try dsimp only
        ktn_open
        refine hret _ _ _ ⟨t2, by rw [hk2]⟩ (by assumption) ?_
        rename News h₀ L _ _ => N9
        exact news_sub N9 (fun p hp => .tail _ (.tail _ hp))
      · rename (Txt.lower k1 == lo) = false => heq
        rw [hlt, hloe, low_eq] at heq
        rw [if_neg (of_decide_eq_false heq)] at hst
        rename News g' _ _ _ => N9
        exact Or.inl ⟨rfl, _, _, _, _, _, rfl, by assumption, news_sub N9 (fun p hp => .tail _ hp), hoff, rfl, rfl, hst, rfl, tn, rfl⟩
    case done =>
      rintro m' nx h tk gens ⟨rfl, rfl, hfi, hm1, tn, hm2⟩ F₁ N₁
      rw [hes.1, List.take_length] at hfi
      replace F₁ := fr_eq (m' := fun y => if y = Str.ofString "default" then some dw else m' y) F₁ (by first | (intro y; (repeat (first | with_reducible rfl | refine abS ?_ | (refine ab ?_ ?_; assumption) | fail "ab")); done) | (intro y; (repeat' split) <;> simp_all))
      rw [hfi] at hret
      dsimp only at hret
      refine foldM F₁ ?_; clear F₁; intro mfr1 F₁
      ktn_open
      exact hret _ _ _ rfl (by assumption) (by assumption))
end
theorem wakeCSet : True ∧ True := by
  w_top off
  first | (walk1; fail) | exact ⟨trivial, trivial⟩
section
local macro_rules | `(tactic| walk_at "call builtin:list.append") => `(tactic| ((with_reducible show wpAny _ _ (call (Value.builtin _) [Value.ref _, _]) _ _ _); k_dflt (refine append_K (by k_asm) (by k_asm) (by k_upd) ?_ (by assumption)); intro h' F' N'))
theorem setC (w : World) (p : Program) (loose : List Str) (mean : ExcName → Option Value) (mg mb : Str → Option Value) (rest : List (Addr × Obj)) (x d l : Addr) (td : Tok) (vs : List Value) (n : Nat) (es : List (Nat × Nat)) (hes : EntsAre rest vs es) (hec : ∀ e ∈ es, pegC e.1) (hel : es.length ≤ 100) (hxl : @Ne Nat x l) (hdl : @Ne Nat d l) (hrl : ∀ p ∈ rest, p.1 ≠ l) (c dk : Nat) (hc : pegC c) (hdk : dk < 10) (nm vl : Str) (hnm : nm = ofL [c]) (hvl : vl = ofL [48 + dk]) (t t2 : Tok) :
    Calls w (_root_.hd.heap_1 w.params) p loose mean mg mb 238 9 90 ((l, W.listOf vs.toArray n) :: (x, instObj 248 d) :: (d, hdrDict w.params td l) :: rest) [.ref x, .str nm t, .str vl t2] (fun h₀ L m s Q => ∀ v vs' n' new h' tk', ((findE es c).isSome = true ∧ vs' = vs ∧ new = [] ∨ (findE es c).isSome = false ∧ ∃ D od osl n1 t3 t4, vs' = vs ++ [.ref D] ∧ new = [(D, tupE od osl n1 (c, dk) t3 t4)]) → (∀ p ∈ new, p.1 ≠ l ∧ ∀ q ∈ rest, @LT.lt Nat _ q.1 p.1) → Fr h₀ L h' m → News h₀ L h' ((l, W.listOf vs'.toArray n') :: (x, instObj 248 d) :: (d, hdrDict w.params td l) :: (new ++ rest)) → Q v { s with heap := h', toks := tk' }) PySem.Challenge.pw_to0083_01 := by
  intro dp un gd cn cs' ad ccd cl outer A₀ base h₀ L m s Q E B F X N T hk hd hu hret
  have hvl0 : vs.length = es.length := hes.1
  have hsz : vs.toArray.size ≤ sizeLine := by rw [List.size_toArray, sizeLine_eq]; omega
  refine wpAny_call ?_
  k_dflt cell_enter
  rename_i g1 L1 h1 FG1 F0 N1 B1 X1 T1
  replace F0 := fr_eq (m' := fun y => if y = Str.ofString "value" then some (Value.str vl t2) else if y = Str.ofString "name" then some (Value.str nm t) else if y = Str.ofString "self" then some (Value.ref x) else none) F0 (by intro y; show List.lookup y [(Str.ofString "value", Value.str vl t2), (Str.ofString "name", Value.str nm t), (Str.ofString "self", Value.ref x)] = _; rw [lk1, lk1, lk1, lk0])
  refine foldM F0 ?_; clear F0; intro mfr0 F0
  ktn_open
  refine callsUse (getC w p loose mean mg mb rest x d l td vs n es hes hec c hc nm hnm _ true .none) (by k_asm) (by k_asm) (by k_asm) (by k_asm) (by k_asm) (by first | exact rfl | assumption) (by ktr_room) (by ktr_units) ?_
  intro v h3 tk3 hv F3 N3
  clear F0 N1
  (try dsimp only)
  rcases hf : findE es c with _ | e
  · rw [hf] at hv hret
    dsimp only at hv
    rw [if_pos rfl] at hv
    subst hv
    ktn_open
    refine callsUseK (convC w p loose mean mg mb _ x nm _ true (by rw [hnm]; exact reOk_names _ hc)) (by k_asm) (by k_asm) (by k_asm) (by k_asm) (by k_asm) (by first | exact rfl | assumption) (by ktr_room) (by ktr_units) ?_
    intro h4 tk4 F4 N4
    (try dsimp only)
    ktn_open
    refine callsUseK (convC w p loose mean mg mb _ x vl _ false (by rw [hvl]; exact reOk_disks _ hdk)) (by k_asm) (by k_asm) (by k_asm) (by k_asm) (by k_asm) (by first | exact rfl | assumption) (by ktr_room) (by ktr_units) ?_
    intro h5 tk5 F5 N5
    (try dsimp only)
    ktn_open
    rename (l < _ ∧ _) => l3
    rename News h₀ L _ _ => N9
    simp only [List.push_toArray] at N9
    rename_i D9 _ _ _ _ _ _ _ _ _ _
    refine hret _ (vs ++ [Value.ref D9]) (n + 1) [(D9, tupE none #[] 0 (c, dk) t t2)] _ _ (.inr ⟨rfl, D9, none, #[], 0, t, t2, rfl, rfl⟩) ?e3 (by assumption) (news_sub N9 ?e4)
    case e3 =>
      intro p hp
      rw [List.mem_singleton.mp hp]
      exact ⟨Nat.ne_of_gt l3.1, allLt_lt l3.2.2.2⟩
    case e4 =>
      intro p hp
      rcases List.mem_cons.mp hp with rfl | hp
      · exact .tail _ (.head _)
      rcases List.mem_cons.mp hp with rfl | hp
      · exact .tail _ (.tail _ (.head _))
      rcases List.mem_cons.mp hp with rfl | hp
      · exact .tail _ (.tail _ (.tail _ (.head _)))
      rcases List.mem_append.mp hp with hp | hp
      · rw [List.mem_singleton.mp hp]
        unfold tupE
        rw [← hnm, ← hvl]
        exact .head _
      · exact .tail _ (.tail _ (.tail _ (.tail _ hp)))
  · rw [hf] at hv hret
    obtain ⟨t3, rfl⟩ := hv
    ktn_open
    exact hret _ vs n [] _ _ (.inl ⟨rfl, rfl, rfl⟩) (fun _ hp => nomatch hp) (by assumption) (by assumption)
end
end
theorem wakeCDm : True ∧ True := by
  w_top off
  first | (walk1; fail) | exact ⟨trivial, trivial⟩
section
local macro_rules | `(tactic| walk_at "call builtin:list.append") => `(tactic| ((with_reducible show wpAny _ _ (call (Value.builtin _) [Value.ref _, _]) _ _ _); k_dflt (refine append_K (by k_asm) (by k_asm) (by k_upd) ?_ (by assumption)); intro h' F' N'))
local macro_rules | `(tactic| walk_at "call builtin:list.reverse") => `(tactic| ((with_reducible show wpAny _ _ (call (Value.builtin _) [Value.ref _]) _ _ _); k_dflt (refine kl_reverse (by k_asm) (by k_asm) rfl (by k_upd) (by assumption) ?_); intro h' F' N'))
local macro_rules | `(tactic| walk_at "binaryOp LShift int int") => `(tactic| (k_dflt (refine lshift_is (by assumption) (by omega) (by omega) ?_)))
local macro_rules | `(tactic| tb_start) => `(tactic| with_reducible first | refine Mine.atRef ?_ | refine Mine.atFor ?_ | refine Mine.atLoop ?_)
theorem dmC (w : World) (p : Program) (loose : List Str) (mean : ExcName → Option Value) (mg mb : Str → Option Value) (l54 l61 rest : List (Addr × Obj)) (h54 : Tab 54 36 i2q l54) (h61 : Tab 61 51 d2q l61) (hr54 : ∀ p ∈ rest, p.1 ≠ 54) (hr61 : ∀ p ∈ rest, p.1 ≠ 61) (a : Int) (ta tb : Tok) (d : Nat) (ds qs : List Int) (r : Int) (ha : 0 < a) (ha2 : a ≤ 4000) (hd1 : 1 ≤ d) (hd4 : d ≤ 4) (hd3 : Int.fdiv (((Builtin.Int.intBits a : Nat) : Int) + 3 - 1) 3 = (d : Int)) (hds : innerS d a 0 d (List.replicate d 0) = ds) (hdl : ds.length = d) (hd7 : ∀ x ∈ ds, 0 ≤ x ∧ x ≤ 8) (hrun : dmRun ds = (qs.reverse, r)) (hql : qs.length = d) (hq7 : ∀ x ∈ qs, 0 ≤ x ∧ x ≤ 4000) :
    Calls w (hd.heap_1 w.params) p loose mean mg mb 73 20 200 (l54 ++ (l61 ++ rest)) [.int a ta, .int 4 tb] (fun h₀ L m s Q => CodeHd h₀ 58 54 ∧ CodeHd h₀ 65 61 ∧ ∀ (T : Addr) (o : Obj) (t t' : Tok) (l54' l61' : List (Addr × Obj)) h' tk', Tab 54 36 i2q l54' → Tab 61 51 d2q l61' → Fr h₀ L h' m → News h₀ L h' ((T, o) :: (l54' ++ (l61' ++ rest))) → o.cls = .type "tuple" → (∃ n, o.data = .seq #[.int (d2iS d qs 3 0 d) t, .int r t'] n) → Q (.ref T) { s with heap := h', toks := tk' }) PySem.Challenge.pw_to0083_01 := by
  intro dp un gd cn cs ad ccd cl outer A₀ base h₀ L m s Q E B F X N T hk hd hu hret
  obtain ⟨C58, C65, hret⟩ := hret
  refine wpAny_call ?_
  k_dflt cell_enter
  rename_i g1 L1 h1 FG1 F0 N1 B1 X1 T1
  replace C58 := C58.keeps FG1.keep
  replace C65 := C65.keeps FG1.keep
  replace F0 := fr_eq (m' := fun y => if y = Str.ofString "b" then some (Value.int 4 tb) else if y = Str.ofString "a" then some (Value.int a ta) else none) F0 (by intro y; show List.lookup y [(Str.ofString "b", Value.int 4 tb), (Str.ofString "a", Value.int a ta)] = _; rw [lk1, lk1, lk0])
  refine foldM F0 ?_; clear F0; intro mfr0 F0
  ktn_open
  rename Fr g1 _ _ _ => F1
  rename News g1 _ _ _ => N2
  have e43 : ((Builtin.Int.intBits 4 : Nat) : Int) = 3 := by decide
  simp only [e43] at F1
  rw [e43]
  have hr1 : ∀ p ∈ l61 ++ rest, p.1 ≠ 54 := fun p hp => (List.mem_append.mp hp).elim (h61.ne (q := 54) (by decide) (by decide) p) (hr54 p)
  refine' callsUse (i2dC w p loose mean mg mb l54 (l61 ++ rest) h54 hr1 a _ _ d ha ha2 hd1 hd4 hd3) ?k1 ?k2 ?k3 ?k4 ?k5 ?kK ?kd ?ku ?kR
  tb_rel
  refine ⟨C58, ?_⟩
  intro D vs kk l54' h3 tk3 h54' F3 N3 hi3
  rw [hds] at hi3
  clear N2 F1
  (try dsimp only)
  ktn_open
  refine For_invV (hE := ?hE) g1 (by rfl) (by rfl) ?_ (fun _ => rfl)
  case hE => walk1
  ktn_open
  rename_i qa _ ltq _ _ I _ F4 N4 ltI
  have hda : ∀ p ∈ l54' ++ (l61 ++ rest), p.1 ≠ qa := allLt_ne ltq.2
  have hdI : ∀ p ∈ l54' ++ (l61 ++ rest), p.1 ≠ I := allLt_ne ltI.2.2
  have hqD : @Ne Nat D qa := Nat.ne_of_lt ltq.1
  have hds7 : ∀ x ∈ ds.reverse, 0 ≤ x ∧ x ≤ 8 := fun x hx => hd7 x (List.mem_reverse.mp hx)
  have hvs := hi3.reverse
  refine iter_revUnr (ax := D) (I := I) (lo := W.listOf vs.toArray kk) (vs := vs) (n := kk) rfl F4 N4 ⟨.inl (Nat.ne_of_lt ltI.1), .inl (Nat.ne_of_lt ltI.2.1), ?off⟩ (by k_mem) rfl rfl (rev_rest (fun vsuf m₁ nx => ∃ (xs done : List Int) (qv : List Value) (n' : Nat) (tr : Tok), IntsAre vsuf xs ∧ ds.reverse = done ++ xs ∧ IntsAre qv (done.foldl dmStep ([], 0)).1 ∧ nx = (qa, W.listOf qv.toArray n') :: (D, W.listOf vs.toArray kk) :: (l54' ++ (l61 ++ rest)) ∧ qv.length = done.length ∧ 0 ≤ (done.foldl dmStep ([], 0)).2 ∧ (done.foldl dmStep ([], 0)).2 ≤ 3 ∧ m₁ (Str.ofString "r") = some (.int (done.foldl dmStep ([], 0)).2 tr) ∧ m₁ (Str.ofString "q_digits") = some (.ref qa) ∧ (∃ t, m₁ (Str.ofString "n") = some (.int 3 t)) ∧ m₁ (Str.ofString "b") = some (.int 4 tb)) ?step ?done _ _ _ ?init)
  case off =>
    have : ∀ {l : List (Addr × Obj)}, (∀ p ∈ l, p.1 ≠ I) → OffI I (revObj D ((vs.length : Int) - 1)) l := by
      intro l
      induction l with
      | nil => intro _; exact True.intro
      | cons a l ih => intro h; exact ⟨.inl (h a (.head _)), ih fun p hp => h p (.tail _ hp)⟩
    exact this hdI
  case init => exact ⟨ds.reverse, [], [], 0, _, hvs, rfl, .nil, rfl, rfl, by decide, by decide, rfl, rfl, ⟨_, rfl⟩, rfl⟩
  case step =>
    rintro v rr m₁ nx it h tk ⟨xs, dn, qv, n', tr, hix, hdn, hiq, rfl, hql', hr0, hr3, hm1, hm2, ⟨tn', hm3⟩, hm4⟩ hic F₁ N₁
    refine foldQ ?_; intro qloop3
    cases xs with
    | nil => cases hix
    | cons x xs =>
      obtain ⟨t0, vs0, e0, hix'⟩ := hix.cons_inv
      obtain ⟨rfl, rfl⟩ := List.cons.inj e0
      generalize hst : dn.foldl dmStep ([], 0) = st at *
      have hx8 : 0 ≤ x ∧ x ≤ 8 := hds7 x (hdn ▸ List.mem_append.mpr (.inr (.head _)))
      have hdl4 : dn.length ≤ 4 := by
        have := congrArg List.length hdn
        rw [List.length_reverse, List.length_append, hdl] at this
        omega
      replace F₁ := fr_eq (m' := fun y => if y = Str.ofString "a_digit" then some (Value.int x t0) else if y = Str.ofString "r" then some (.int st.2 tr) else if y = Str.ofString "q_digits" then some (.ref qa) else if y = Str.ofString "n" then some (.int 3 tn') else if y = Str.ofString "b" then some (.int 4 tb) else m₁ y) F₁ (by first | (intro y; (repeat (first | with_reducible rfl | refine abS ?_ | (refine ab ?_ ?_; assumption) | fail "ab")); done) | (intro y; (repeat' split) <;> simp_all))
      have hsh : st.2 * 2 ^ Int.toNat 3 = st.2 * 8 := rfl
      have hb3 : Builtin.Int.intBits st.2 ≤ 20 := PySem.intBits_le_iff.mpr (by omega)
      have hszq : qv.toArray.size ≤ sizeLine := by rw [List.size_toArray, sizeLine_eq]; omega
      refine shut ?_
      refine foldM F₁ ?_; clear F₁; intro mfr1 F₁
      ktn_open
      refine' callsUse (divC w p loose mean mg mb _ (st.2 * 8 + x) _ _ _ (by omega) (by omega)) (by k_asm) (by k_asm) (by k_asm) (by k_asm) (by k_asm) (by first | exact rfl | assumption) (by ktr_room) (by ktr_units) ?_
      intro T o t5 t6 h5 tk5 F5 N5 hT hoc hod
      obtain ⟨no, hod⟩ := hod
      obtain ⟨oc', od', odt', osl'⟩ := o
      dsimp only at hoc hod
      subst hoc hod
      have hTq : @Ne Nat T qa := Nat.ne_of_gt (hT (qa, _) (.tail _ (.head _)))
      have hTI : @Ne Nat T I := Nat.ne_of_gt (hT (I, _) (.head _))
      have hIq : @Ne Nat I qa := Nat.ne_of_gt ltI.1
      (try dsimp only)
      ktn_open
      rename Fr g1 _ _ _ => F6
      rename News g1 _ _ _ => N6
      simp only [List.push_toArray] at N6
      have e1 : (dn ++ [x]).foldl dmStep ([], 0) = (st.1 ++ [(st.2 * 8 + x).fdiv 4], (st.2 * 8 + x).fmod 4) := by rw [List.foldl_append, hst]; rfl
      have hm0 : 0 ≤ (st.2 * 8 + x).fmod 4 := by rw [Int.fmod_eq_emod_of_nonneg _ (by decide)]; omega
      have hm4' : (st.2 * 8 + x).fmod 4 ≤ 3 := by rw [Int.fmod_eq_emod_of_nonneg _ (by decide)]; omega
      with_reducible rename Fr _ _ _ _ => FEnd; refine foldM FEnd ?_; clear FEnd; intro mEnd FEnd
      refine turn_end (nx := (qa, _) :: (D, W.listOf vs.toArray kk) :: (l54' ++ (l61 ++ rest))) (by assumption) (news_sub N6 (fun p hp => List.Mem.tail _ hp)) ?ho ⟨by k_mem, xs, dn ++ [x], _, _, ?tr, hix', ?e1, ?e2, rfl, ?e3, ?e4, ?e5, ?e6, rfl, ⟨_, rfl⟩, rfl⟩
      case ho => exact List.forall_mem_cons.mpr ⟨hIq.symm, List.forall_mem_cons.mpr ⟨Nat.ne_of_lt ltI.2.1, hdI⟩⟩
      case e1 => rw [hdn, List.append_assoc]; rfl
      case e2 => rw [e1]; exact hiq.append (.cons _ _ .nil)
      case e3 => rw [List.length_append, List.length_append, hql']; rfl
      case e4 => rw [e1]; exact hm0
      case e5 => rw [e1]; exact hm4'
      case e6 => rw [e1]; rfl
  case done =>
    rintro m₁ nx h tk ⟨xs, dn, qv, n', tr, hix, hdn, hiq, rfl, hql', hr0, hr3, hm1, hm2, ⟨tn', hm3⟩, hm4⟩ F₁ N₁
    cases hix
    rw [List.append_nil] at hdn
    subst hdn
    have hrun' : ds.reverse.foldl dmStep ([], 0) = (qs.reverse, r) := hrun
    rw [hrun'] at hiq hm1
    replace F₁ := fr_eq (m' := fun y => if y = Str.ofString "r" then some (.int r tr) else if y = Str.ofString "q_digits" then some (.ref qa) else if y = Str.ofString "n" then some (.int 3 tn') else if y = Str.ofString "b" then some (.int 4 tb) else m₁ y) F₁ (by first | (intro y; (repeat (first | with_reducible rfl | refine abS ?_ | (refine ab ?_ ?_; assumption) | fail "ab")); done) | (intro y; (repeat' split) <;> simp_all))
    have hszq : qv.toArray.toList.length ≤ sizeLine := by
      have : qv.length = d := by rw [hql', List.length_reverse, hdl]
      rw [sizeLine_eq]
      show qv.length ≤ _
      omega
    (try dsimp only)
    refine foldM F₁ ?_; clear F₁; intro mfr2 F₁
    ktn_open
    rename Fr g1 _ _ _ => F6
    rename News g1 _ _ _ => N6
    have hr2 : ∀ p ∈ l54' ++ rest, p.1 ≠ 61 := fun p hp => (List.mem_append.mp hp).elim (h54'.ne (q := 61) (by decide) (by decide) p) (hr61 p)
    have hq61 : @Ne Nat qa 61 := by
      obtain ⟨o, ho⟩ := h61.has
      exact (hda _ (List.mem_append.mpr (.inr (List.mem_append.mpr (.inl ho))))).symm
    have hqi : IntsAre (qv.toArray.toList.reverse) qs := by
      have := hiq.reverse
      rwa [List.reverse_reverse] at this
    refine callsUse (d2iC w p loose mean mg mb l61 (l54' ++ rest) h61 hr2 qa _ qs n' 3 (by decide) (by decide) (by omega) (by omega) hq7 hqi hq61 _) (by k_asm) (by k_asm) (by k_asm) (news_sub N6 ?sub) (by k_asm) (by first | exact rfl | assumption) (by ktr_room) (by ktr_units) ⟨C65, ?_⟩
    case sub =>
      intro p hp
      rcases List.mem_append.mp hp with hp | hp
      · exact .tail _ (.tail _ (List.mem_append.mpr (.inr (List.mem_append.mpr (.inl hp)))))
      · rcases List.mem_cons.mp hp with rfl | hp
        · exact .head _
        · rcases List.mem_append.mp hp with hp | hp
          · exact .tail _ (.tail _ (List.mem_append.mpr (.inl hp)))
          · exact .tail _ (.tail _ (List.mem_append.mpr (.inr (List.mem_append.mpr (.inr hp)))))
    intro l61' t7 h7 tk7 h61' F7 N7
    (try dsimp only)
    clear F6 N6 F₁ N₁ F4 N4
    ktn_open
    rename News _ _ _ _ => N8
    subst hql
    refine hret _ ?o ?t1 ?t2 l54' l61' _ _ h54' h61' (by assumption) (news_sub N8 ?sub2) ?hc ⟨?n, ?hd⟩
    case sub2 =>
      intro p hp
      rcases List.mem_cons.mp hp with rfl | hp
      · exact .head _
      · rcases List.mem_append.mp hp with hp | hp
        · exact .tail _ (List.mem_append.mpr (.inr (.tail _ (List.mem_append.mpr (.inl hp)))))
        · rcases List.mem_append.mp hp with hp | hp
          · exact .tail _ (List.mem_append.mpr (.inl hp))
          · exact .tail _ (List.mem_append.mpr (.inr (.tail _ (List.mem_append.mpr (.inr hp)))))
    case hc => rfl
    case hd => rfl
end
theorem wakeCPre : True ∧ True := by
  w_top off
  first | (walk1; fail) | exact ⟨trivial, trivial⟩
noncomputable def qTxt (q : Nat) : Str := ofL (List.replicate q 34 ++ [40, 34])
noncomputable def qOut (q : Nat) : Str := if q % 2 = 1 then qTxt q else Str.ofString "('', '')"
section
local macro_rules | `(tactic| walk_at "call builtin:list.append") => `(tactic| ((with_reducible show wpAny _ _ (call (Value.builtin _) [Value.ref _, _]) _ _ _); k_dflt (refine append_K (by k_asm) (by k_asm) (by k_upd) ?_ (by assumption)); intro h' F' N'))
local macro_rules | `(tactic| tb_start) => `(tactic| with_reducible first | refine Mine.atRef ?_ | refine Mine.atFor ?_ | refine Mine.atIter ?_)
theorem preC (w : World) (p : Program) (loose : List Str) (mean : ExcName → Option Value) (mg mb : Str → Option Value) (news : List (Addr × Obj)) (qs : List Nat) (hqs : ∀ q ∈ qs, q ≤ 7) (hql : qs.length ≤ 100) (D : Addr) (vs : List Value) (n : Nat) (hvs : StrsAre vs (qs.map qTxt)) :
    Calls w (_root_.hd.heap_1 w.params) p loose mean mg mb 101 9 100 ((D, W.listOf vs.toArray n) :: news) [.ref D] (fun h₀ L m s Q => ∀ T out n' h' tk', StrsAre out (qs.map qOut) → Fr h₀ L h' m → News h₀ L h' ((T, W.listOf out.toArray n') :: (D, W.listOf vs.toArray n) :: news) → Q (.ref T) { s with heap := h', toks := tk', gens := finN s.gens (2 * qs.length) }) PySem.Challenge.pw_to0083_01 := by
  intro dp un gd cn cs' ad ccd cl outer A₀ base h₀ L m s Q E B F X N T hk hd hu hret
  have hvl : vs.length = qs.length := by rw [hvs.length]; simp
  refine wpAny_call ?_
  k_dflt cell_enter
  rename_i g1 L1 h1 FG1 F0 N1 B1 X1 T1
  replace F0 := fr_eq (m' := fun y => if y = Str.ofString "email_header_fields" then some (Value.ref D) else none) F0 (by intro y; show List.lookup y [(Str.ofString "email_header_fields", Value.ref D)] = _; rw [lk1, lk0])
  refine foldM F0 ?_; clear F0; intro mfr0 F0
  ktn_open
  rename_i T0 _ lT _ FA NA _
  have hnT : ∀ p ∈ news, p.1 ≠ T0 := allLt_ne (show AllLt T0 news from lT.2)
  refine wpAny_For ?_ (fun _ => rfl)
  ktn_open
  have hDT : @Ne Nat D T0 := Nat.ne_of_lt (show @LT.lt Nat _ D T0 from lT.1)
  refine forListG rfl FA NA (fun i m₁ nx g => ∃ (out : List Value) (n' : Nat), nx = (T0, W.listOf out.toArray n') :: (D, W.listOf vs.toArray n) :: news ∧ StrsAre out ((qs.take i).map qOut) ∧ m₁ (Str.ofString "accepted_values") = some (.ref T0) ∧ g = finN s.gens (2 * i) ∧ out.length ≤ i) ⟨[], 0, rfl, .nil, rfl, rfl, Nat.le_refl _⟩ (fun i m₁ nx g hj => by obtain ⟨out, n', rfl, _⟩ := hj; exact .tail _ (.head _)) ?turn ?done
  case turn =>
    rintro I itO i v m₁ nx h tk gens E' hI hi hv ⟨out, n', rfl, hout, hm1, rfl, hol⟩ hoff hic F₁ N₁
    refine foldQ ?_; intro qloop17
    obtain ⟨y, tv, rfl, hy⟩ := hvs.item i v hv
    rw [List.getElem?_map] at hy
    obtain ⟨q, hqi, rfl⟩ := Option.map_eq_some_iff.mp hy
    have hq7 : q ≤ 7 := hqs q (List.mem_of_getElem? hqi)
    have hIT : @Ne Nat I T0 := Nat.ne_of_gt (show @LT.lt Nat _ T0 I from hI _ (.head _))
    have hsz : out.toArray.size ≤ sizeLine := by rw [List.size_toArray, sizeLine_eq]; omega
    have htk : (qs.take (i + 1)).map qOut = (qs.take i).map qOut ++ [qOut q] := by rw [List.take_add_one, hqi]; simp
    replace F₁ := fr_eq (m' := fun y => if y = Str.ofString "accepted_values" then some (.ref T0) else m₁ y) F₁ (by first | (intro y; (repeat (first | with_reducible rfl | refine abS ?_ | (refine ab ?_ ?_; assumption) | fail "ab")); done) | (intro y; (repeat' split) <;> simp_all))
    refine foldM F₁ ?_; clear F₁; intro mfr1 F₁
    ktn_open
    refine callsUse (checkC w p loose mean mg mb _ q hq7 _ rfl _ rfl _) (by k_asm) (by k_asm) (by k_asm) (by k_asm) (by k_asm) (by first | exact rfl | assumption) (by ktr_room) (by ktr_units) ?_
    intro h3 tk3 F3 N3
    (try dsimp only)
    rcases Nat.mod_two_eq_zero_or_one q with hq2 | hq2
    · have e1 : decide (q % 2 = 1) = false := by rw [hq2]; rfl
      have e2 : qOut q = Str.ofString "('', '')" := by unfold qOut; rw [if_neg (by omega)]
      rw [e1]
      rw [e2] at htk
      ktn_open
      rename Fr g1 _ _ _ => F8
      rename News g1 _ _ _ => N8
      simp only [List.push_toArray] at N8
      exact ⟨rfl, _, _, _, _, _, rfl, F8, N8, List.forall_mem_cons.mpr ⟨hIT.symm, fun p hp => hoff p (.tail _ hp)⟩, _, _, rfl, by rw [htk]; exact hout.append' (.cons _ _ .nil), rfl, rfl, by rw [List.length_append]; exact Nat.succ_le_succ hol⟩
    · have e1 : decide (q % 2 = 1) = true := by rw [hq2]; rfl
      have e2 : qOut q = qTxt q := by unfold qOut; rw [if_pos hq2]
      rw [e1]
      rw [e2] at htk
      ktn_open
      rename Fr g1 _ _ _ => F8
      rename News g1 _ _ _ => N8
      simp only [List.push_toArray] at N8
      exact ⟨rfl, _, _, _, _, _, rfl, F8, N8, List.forall_mem_cons.mpr ⟨hIT.symm, fun p hp => hoff p (.tail _ hp)⟩, _, _, rfl, by rw [htk]; exact hout.append' (.cons _ _ .nil), rfl, rfl, by rw [List.length_append]; exact Nat.succ_le_succ hol⟩
  case done =>
    rintro m' nx h tk gens ⟨out, n', rfl, hout, hm1, rfl, hol⟩ F₁ N₁
    rw [hvl, List.take_length] at hout
    replace F₁ := fr_eq (m' := fun y => if y = Str.ofString "accepted_values" then some (.ref T0) else m' y) F₁ (by first | (intro y; (repeat (first | with_reducible rfl | refine abS ?_ | (refine ab ?_ ?_; assumption) | fail "ab")); done) | (intro y; (repeat' split) <;> simp_all))
    (try dsimp only)
    rw [hvl]
    refine foldM F₁ ?_; clear F₁; intro mfr2 F₁
    ktn_open
    exact hret _ _ _ _ _ hout (by assumption) (by assumption)
end
theorem wakeCDm3 : True ∧ True := by
  w_top off
  first | (walk1; fail) | exact ⟨trivial, trivial⟩
theorem dmRows : ∀ k, k ≤ 7 → ∃ (d : Nat) (ds qs : List Int) (r : Int), (1 ≤ d ∧ d ≤ 4) ∧ Int.fdiv (((Builtin.Int.intBits ((3 : Int) ^ k) : Nat) : Int) + 3 - 1) 3 = (d : Int) ∧ innerS d ((3 : Int) ^ k) 0 d (List.replicate d 0) = ds ∧ ds.length = d ∧ (∀ x ∈ ds, 0 ≤ x ∧ x ≤ 8) ∧ dmRun ds = (qs.reverse, r) ∧ qs.length = d ∧ (∀ x ∈ qs, 0 ≤ x ∧ x ≤ 4000) ∧ d2iS d qs 3 0 d = (3 : Int) ^ k / 4 ∧ r = (3 : Int) ^ k % 4
  | 0, _ => ⟨1, [1], [0], 1, by decide⟩
  | 1, _ => ⟨1, [3], [0], 3, by decide⟩
  | 2, _ => ⟨2, [1, 1], [2, 0], 1, by decide⟩
  | 3, _ => ⟨2, [3, 3], [6, 0], 3, by decide⟩
  | 4, _ => ⟨3, [1, 2, 1], [4, 2, 0], 1, by decide⟩
  | 5, _ => ⟨3, [3, 6, 3], [4, 7, 0], 3, by decide⟩
  | 6, _ => ⟨4, [1, 3, 3, 1], [6, 6, 2, 0], 1, by decide⟩
  | 7, _ => ⟨4, [3, 1, 2, 4], [2, 4, 0, 1], 3, by decide⟩
theorem dmPow : ∀ k, k ≤ 7 → 0 < (3 : Int) ^ k ∧ (3 : Int) ^ k ≤ 4000 := by decide
theorem dmC3 (w : World) (p : Program) (loose : List Str) (mean : ExcName → Option Value) (mg mb : Str → Option Value) (l54 l61 rest : List (Addr × Obj)) (h54 : Tab 54 36 i2q l54) (h61 : Tab 61 51 d2q l61) (hr54 : ∀ p ∈ rest, p.1 ≠ 54) (hr61 : ∀ p ∈ rest, p.1 ≠ 61) (k : Nat) (hk : k ≤ 7) (a : Int) (hA : a = 3 ^ k) (ta tb : Tok) :
    Calls w (hd.heap_1 w.params) p loose mean mg mb 73 20 200 (l54 ++ (l61 ++ rest)) [.int a ta, .int 4 tb] (fun h₀ L m s Q => CodeHd h₀ 58 54 ∧ CodeHd h₀ 65 61 ∧ ∀ (T : Addr) (od : Option Addr) (osl : Array (Option Value)) (n : Nat) (t t' : Tok) (l54' l61' : List (Addr × Obj)) h' tk', Tab 54 36 i2q l54' → Tab 61 51 d2q l61' → Fr h₀ L h' m → News h₀ L h' ((T, { cls := .type "tuple", dict := od, data := .seq #[.int (3 ^ k / 4) t, .int (3 ^ k % 4) t'] n, slots := osl }) :: (l54' ++ (l61' ++ rest))) → Q (.ref T) { s with heap := h', toks := tk' }) PySem.Challenge.pw_to0083_01 := by
  subst hA
  obtain ⟨d, ds, qs, r, ⟨hd1, hd4⟩, hd3, hds, hdl, hd7, hrun, hql, hq7, hq, hr⟩ := dmRows k hk
  intro dp un gd cn cs ad ccd cl outer A₀ base h₀ L m s Q E B F X N T hk' hd hu hret
  obtain ⟨C58, C65, hret⟩ := hret
  refine callsUse (dmC w p loose mean mg mb l54 l61 rest h54 h61 hr54 hr61 (3 ^ k) ta tb d ds qs r (dmPow k hk).1 (dmPow k hk).2 hd1 hd4 hd3 hds hdl hd7 hrun hql hq7) B F X N T hk' hd hu ⟨C58, C65, ?_⟩
  intro T' o t t' l54' l61' h' tk' ha hb F' N' hoc ⟨n, hod⟩
  obtain ⟨oc', od', odt', osl'⟩ := o
  dsimp only at hoc hod
  subst hoc hod
  rw [hq, hr] at N'
  exact hret T' od' osl' n t t' l54' l61' h' tk' ha hb F' N'
theorem wakeCNum : True ∧ True := by
  w_top off
  first | (walk1; fail) | exact ⟨trivial, trivial⟩
section
local macro_rules | `(tactic| tb_start) => `(tactic| with_reducible first | refine Mine.atRef ?_ | refine Mine.atFor ?_ | refine Mine.atLoop ?_ | refine Mine.atSIdx ?_)
theorem numC (w : World) (p : Program) (loose : List Str) (mean : ExcName → Option Value) (mg mb : Str → Option Value) (l54 l61 rest : List (Addr × Obj)) (h54 : Tab 54 36 i2q l54) (h61 : Tab 61 51 d2q l61) (hr54 : ∀ p ∈ rest, p.1 ≠ 54) (hr61 : ∀ p ∈ rest, p.1 ≠ 61) (wl : List Nat) (hwl : wl.length ≤ 7) (hwc : ∀ c ∈ wl, inLmr c) (a : Str) (ha : a = ofL wl) (ta : Tok) :
    Calls w (hd.heap_1 w.params) p loose mean mg mb 283 30 300 (l54 ++ (l61 ++ rest)) [.str a ta] (fun h₀ L m s Q => CodeHd h₀ 58 54 ∧ CodeHd h₀ 65 61 ∧ ∀ (t : Tok) (l54' l61' : List (Addr × Obj)) h' tk', Tab 54 36 i2q l54' → Tab 61 51 d2q l61' → Fr h₀ L h' m → News h₀ L h' (l54' ++ (l61' ++ rest)) → Q (.int (nuRun wl wl.length).1 t) { s with heap := h', toks := tk' }) PySem.Challenge.pw_to0083_01 := by
  intro dp un gd cn cs ad ccd cl outer A₀ base h₀ L m s Q E B F X N T hk hd hu hret
  obtain ⟨C58, C65, hret⟩ := hret
  have hal : a.length = wl.length := by rw [ha, ofL_len]
  have hal2 : a.length ≤ 100 := by omega
  refine wpAny_call ?_
  k_dflt cell_enter
  rename_i g1 L1 h1 FG1 F0 N1 B1 X1 T1
  replace C58 := C58.keeps FG1.keep
  replace C65 := C65.keeps FG1.keep
  replace F0 := fr_eq (m' := fun y => if y = Str.ofString "word" then some (Value.str a ta) else none) F0 (by intro y; show List.lookup y [(Str.ofString "word", Value.str a ta)] = _; rw [lk1, lk0])
  refine foldM F0 ?_; clear F0; intro mfr0 F0
  ktn_open
  refine For_invV (hE := ?hE) g1 (by rfl) (by rfl) ?_ (fun _ => rfl)
  case hE => walk1
  ktn_open
  rename IsRange _ _ _ _ _ _ _ _ => hr
  rw [hal] at hr
  refine range_I (n := wl.length) (fun i m₁ nx => ∃ (l54' l61' : List (Addr × Obj)) (lt vt : Tok), Tab 54 36 i2q l54' ∧ Tab 61 51 d2q l61' ∧ nx = l54' ++ (l61' ++ rest) ∧ m₁ (Str.ofString "word") = some (.str a ta) ∧ m₁ (Str.ofString "lacks") = some (.int (nuRun wl i).2 lt) ∧ m₁ (Str.ofString "number") = some (.int (nuRun wl i).1 vt)) rfl hr (small_down (by omega)) (size_down wl.length) (by assumption) (by assumption) ?h0 ?step ?done
  case h0 => exact ⟨l54, l61, _, _, h54, h61, rfl, rfl, rfl, rfl⟩
  case done =>
    rintro m₁ nx h tk ⟨l54', l61', lt, vt, h54', h61', rfl, hm1, hm2, hm3⟩ F₁ N₁
    replace F₁ := fr_eq (m' := fun y => if y = Str.ofString "number" then some (Value.int (nuRun wl wl.length).1 vt) else m₁ y) F₁ (by first | (intro y; (repeat (first | with_reducible rfl | refine abS ?_ | (refine ab ?_ ?_; assumption) | fail "ab")); done) | (intro y; (repeat' split) <;> simp_all))
    (try dsimp only)
    refine foldM F₁ ?_; clear F₁; intro mfr1 F₁
    ktn_open
    exact hret _ _ _ _ _ h54' h61' (by assumption) (by assumption)
  case step =>
    rintro I i m₁ nx t h tk hI hi ⟨l54', l61', lt, vt, h54', h61', rfl, hm1, hm2, hm3⟩ hoff F₁ N₁
    obtain ⟨k, hk'⟩ : ∃ k, wl.length - 1 - i = k := ⟨_, rfl⟩
    have hk7 : k ≤ 7 := by omega
    have hkl : k < wl.length := by omega
    have hb : (wl.length : Int) - 1 + (i : Int) * (-1) = (k : Int) := by omega
    rw [hb] at F₁
    replace F₁ := fr_eq (m' := fun y => if y = Str.ofString "below" then some (Value.int (k : Nat) t) else if y = Str.ofString "word" then some (Value.str a ta) else if y = Str.ofString "lacks" then some (Value.int (nuRun wl i).2 lt) else if y = Str.ofString "number" then some (Value.int (nuRun wl i).1 vt) else m₁ y) F₁ (by first | (intro y; (repeat (first | with_reducible rfl | refine abS ?_ | (refine ab ?_ ?_; assumption) | fail "ab")); done) | (intro y; (repeat' split) <;> simp_all))
    have hI54 : @Ne Nat 54 I := by
      obtain ⟨o, ho⟩ := h54.has
      exact Nat.ne_of_lt (hI _ (List.mem_append.mpr (.inl ho)))
    have hI61 : @Ne Nat 61 I := by
      obtain ⟨o, ho⟩ := h61.has
      exact Nat.ne_of_lt (hI _ (List.mem_append.mpr (.inr (List.mem_append.mpr (.inl ho)))))
    generalize hits : krsIt ((wl.length : Int) - 1 + ((i + 1 : Nat) : Int) * (-1)) ((wl.length : Int) - ((i + 1 : Nat) : Int)) (-1) = it at *
    refine foldQ ?_; intro qloop16
    ktn_open
    obtain ⟨c, hc⟩ : ∃ c, wl[k]? = some c := ⟨wl[k], List.getElem?_eq_getElem hkl⟩
    have hci : inLmr c := hwc c (List.mem_of_getElem? hc)
    have hix : Txt.item a (k : Int) = ofL [c] := by rw [ha]; exact item_pos hc
    refine callsUse (dmC3 w p loose mean mg mb l54' l61' ((I, it) :: rest) h54' h61' (List.forall_mem_cons.mpr ⟨hI54.symm, hr54⟩) (List.forall_mem_cons.mpr ⟨hI61.symm, hr61⟩) k hk7 _ (by rw [Int.toNat_natCast]) _ _) (by k_asm) (by k_asm) (by k_asm) (news_sub N₁ ?sub) (by k_asm) (by first | exact rfl | assumption) (by ktr_room) (by ktr_units) ⟨C58, C65, ?_⟩
    case sub =>
      intro p hp
      rcases List.mem_append.mp hp with hp | hp
      · exact .tail _ (List.mem_append.mpr (.inl hp))
      · rcases List.mem_append.mp hp with hp | hp
        · exact .tail _ (List.mem_append.mpr (.inr (List.mem_append.mpr (.inl hp))))
        · rcases List.mem_cons.mp hp with rfl | hp
          · exact .head _
          · exact .tail _ (List.mem_append.mpr (.inr (List.mem_append.mpr (.inr hp))))
    intro T od osl n5 t5 t6 l54a l61a h5 tk5 h54a h61a F5 N5
    (try dsimp only)
    clear F₁ N₁
    ktn_open
    rw [hix]
    obtain ⟨pg, hpg⟩ : ∃ pg, pegI c = pg := ⟨_, rfl⟩
    obtain ⟨rst, ho⟩ : ∃ rst, Builtin.Str.occurrences (Str.ofString "lmr") (ofL [c]) 0 (Str.ofString "lmr").length 1 = pg :: rst := by
      rw [← hpg]
      rcases hci with rfl | rfl | rfl <;> exact ⟨[], by decide +kernel⟩
    have hpl : pg ≤ 100 := by
      rw [← hpg]
      rcases hci with rfl | rfl | rfl <;> decide
    refine SC.index ho ?_
    (try dsimp only)
    clear hix ho
    generalize hsh : (3 : Int) ^ k / 4 = sh at *
    generalize hmo : (3 : Int) ^ k % 4 = mo at *
    obtain ⟨nu, hnu⟩ : ∃ nu, (nuRun wl i).1 = nu := ⟨_, rfl⟩
    obtain ⟨lk, hlk⟩ : ∃ lk, (nuRun wl i).2 = lk := ⟨_, rfl⟩
    rename Fr g1 _ _ _ => F6
    rename News g1 _ _ _ => N6
    rw [hnu, hlk] at F6
    ktn_open
    refine For_invV (hE := ?hE2) g1 (by rfl) (by rfl) ?_ (fun _ => rfl)
    case hE2 => walk1
    ktn_open
    rename IsRange _ _ _ _ _ _ _ _ => hr2
    rename News g1 _ _ _ => N7
    refine range_I (n := pg) (fun j m₂ nx2 => ∃ (v2 l2 t2 t3 t4 : Tok), nx2 = l54a ++ (l61a ++ (I, it) :: rest) ∧ m₂ (Str.ofString "number") = some (.int (inNu sh mo lk nu j) v2) ∧ m₂ (Str.ofString "lacks") = some (.int lk l2) ∧ m₂ (Str.ofString "share") = some (.int sh t2) ∧ m₂ (Str.ofString "more") = some (.int mo t3) ∧ m₂ (Str.ofString "peg") = some (.int pg t4) ∧ m₂ (Str.ofString "word") = some (.str a ta)) rfl hr2 (small_le8 hpl) (size_le8 pg) (by assumption) (news_sub N7 (fun p hp => .tail _ hp)) ?i0 ?istep ?idone
    case i0 => exact ⟨_, _, _, _, _, rfl, rfl, rfl, rfl, rfl, rfl, rfl⟩
    case istep =>
      clear N7
      rintro I2 j m₂ nx2 t8 h8 tk8 hI2 hj ⟨v2, l2, t2, t3, t4, rfl, hm1, hm2, hm3, hm4, hm5, hm6⟩ hoff2 F₂ N₂
      have hz : (0 : Int) + (j : Int) * 1 = (j : Int) := by omega
      rw [hz] at F₂
      generalize krsIt (0 + ((j + 1 : Nat) : Int) * 1) ((pg : Int) - ((j + 1 : Nat) : Int)) 1 = it2 at *
      obtain ⟨nj, hnj⟩ : ∃ nj, inNu sh mo lk nu j = nj := ⟨_, rfl⟩
      rw [hnj] at hm1
      replace F₂ := fr_eq (m' := fun y => if y = Str.ofString "one" then some (Value.int (j : Nat) t8) else if y = Str.ofString "number" then some (Value.int nj v2) else if y = Str.ofString "lacks" then some (Value.int lk l2) else if y = Str.ofString "share" then some (Value.int sh t2) else if y = Str.ofString "more" then some (Value.int mo t3) else if y = Str.ofString "peg" then some (Value.int pg t4) else if y = Str.ofString "word" then some (Value.str a ta) else m₂ y) F₂ (by first | (intro y; (repeat (first | with_reducible rfl | refine abS ?_ | (refine ab ?_ ?_; assumption) | fail "ab")); done) | (intro y; (repeat' split) <;> simp_all))
      refine foldQ ?_; intro qloop20
      refine foldM F₂ ?_; clear F₂; intro mfr3 F₂
      ktn_open
      rename Fr g1 _ _ _ => F8
      rename News g1 _ _ _ => N8
      have e9 : inNu sh mo lk nu (j + 1) = nj + sh + (if decide (Builtin.bitXor lk (j : Int) < mo) = true then 1 else 0) := by conv => lhs; unfold inNu; rw [hnj]
      with_reducible rename Fr _ _ _ _ => FEnd; refine foldM FEnd ?_; clear FEnd; intro mEnd FEnd
      refine turn_end (by assumption) N8 hoff2 ⟨?v2, ?l2, ?t2, ?t3, ?t4, rfl, ?en, ?e2, ?e3, ?e4, ?e5, ?e6⟩
      case en => rw [e9]; rfl
      case e2 => rfl
      case e3 => rfl
      case e4 => rfl
      case e5 => rfl
      case e6 => rfl
    case idone =>
      clear N7
      rintro m₂ nx2 h8 tk8 ⟨v2, l2, t2, t3, t4, rfl, hm1, hm2, hm3, hm4, hm5, hm6⟩ F₂ N₂
      replace F₂ := fr_eq (m' := fun y => if y = Str.ofString "number" then some (Value.int (inNu sh mo lk nu pg) v2) else if y = Str.ofString "lacks" then some (Value.int lk l2) else if y = Str.ofString "peg" then some (Value.int pg t4) else if y = Str.ofString "word" then some (Value.str a ta) else m₂ y) F₂ (by first | (intro y; (repeat (first | with_reducible rfl | refine abS ?_ | (refine ab ?_ ?_; assumption) | fail "ab")); done) | (intro y; (repeat' split) <;> simp_all))
      (try dsimp only)
      refine foldM F₂ ?_; clear F₂; intro mfr4 F₂
      ktn_open
      rename Fr g1 _ _ _ => F8
      rename News g1 _ _ _ => N8
      subst hits
      have er : nuRun wl (i + 1) = (inNu sh mo lk nu pg, Builtin.bitXor lk (pg : Int)) := by
        have hgd : wl.getD k 0 = c := by rw [List.getD_eq_getElem?_getD, hc]; rfl
        unfold nuRun
        rw [hk', hgd, hpg, hnu, hlk, hsh, hmo]
      with_reducible rename Fr _ _ _ _ => FEnd; refine foldM FEnd ?_; clear FEnd; intro mEnd FEnd
      refine turn_end (nx := l54a ++ (l61a ++ rest)) (by assumption) (news_sub N8 ?sub3) ?ho ⟨l54a, l61a, ?lt, ?vt, h54a, h61a, rfl, ?f1, ?f2, ?f3⟩
      case sub3 =>
        intro p hp
        rcases List.mem_cons.mp hp with rfl | hp
        · exact List.mem_append.mpr (.inr (List.mem_append.mpr (.inr (.head _))))
        · rcases List.mem_append.mp hp with hp | hp
          · exact List.mem_append.mpr (.inl hp)
          · rcases List.mem_append.mp hp with hp | hp
            · exact List.mem_append.mpr (.inr (List.mem_append.mpr (.inl hp)))
            · exact List.mem_append.mpr (.inr (List.mem_append.mpr (.inr (.tail _ hp))))
      case ho =>
        intro p hp
        rcases List.mem_append.mp hp with hp | hp
        · exact tab_off h54a N8 (fun q hq => List.mem_append.mpr (.inl hq)) (List.mem_append.mpr (.inr (List.mem_append.mpr (.inr (.head _))))) hI54 p hp
        · rcases List.mem_append.mp hp with hp | hp
          · exact tab_off h61a N8 (fun q hq => List.mem_append.mpr (.inr (List.mem_append.mpr (.inl hq)))) (List.mem_append.mpr (.inr (List.mem_append.mpr (.inr (.head _))))) hI61 p hp
          · exact Nat.ne_of_lt (hI p (List.mem_append.mpr (.inr (List.mem_append.mpr (.inr hp)))))
      case f1 => rfl
      case f2 => rw [er]; rfl
      case f3 => rw [er]; rfl
end
theorem wakeCMend : True ∧ True := by
  w_top off
  first | (walk1; fail) | exact ⟨trivial, trivial⟩
section
local macro_rules | `(tactic| tb_start) => `(tactic| with_reducible first | refine Mine.atRef ?_ | refine Mine.atFor ?_ | refine Mine.atComp ?_ | refine Mine.atIter ?_ | refine Mine.atEnum ?_ | refine Mine.atSubI ?_ | refine Mine.atLIdx ?_ | refine Mine.atIntS ?_)
noncomputable def pegM (i : Nat) : Nat := if i = 0 then 109 else 114
theorem mrAt {i c : Nat} (h : (Str.ofString "mr").cps[i]? = some c) : i < 2 ∧ c = pegM i := by
  have e : (Str.ofString "mr").cps = #[109, 114] := by decide +kernel
  rw [e] at h
  rcases i with _ | _ | i
  · exact ⟨by decide, by simpa [pegM] using h.symm⟩
  · exact ⟨by decide, by simpa [pegM] using h.symm⟩
  · simp at h
theorem qEq : ∀ q, q ≤ 7 → (qOut q == qTxt q) = decide (q % 2 = 1) := by decide +kernel
theorem topAt_lt {p : Nat} {wl : List Nat} (h : p ∈ wl) : topAt wl p < wl.length := by
  obtain ⟨i, hi, he⟩ := List.getElem_of_mem h
  exact Nat.lt_of_le_of_lt (topAt_get wl i (by rw [List.getElem?_eq_getElem hi, he])) hi
theorem faultPeg {wl : List Nat} {f p1 p2 : Nat} (h : faultOf wl = f) (h1 : 1 ≤ f) (h2 : f ≤ 3) (hp : twoOf f = (p1, p2)) : p1 ∈ wl ∨ p2 ∈ wl := by
  unfold faultOf at h
  have m1 : wl.count 109 % 2 = 1 → 109 ∈ wl := fun h => List.count_pos_iff.mp (by omega)
  have m2 : wl.count 114 % 2 = 1 → 114 ∈ wl := fun h => List.count_pos_iff.mp (by omega)
  obtain rfl | rfl | rfl : f = 1 ∨ f = 2 ∨ f = 3 := by omega
  · cases hp
    exact .inr (m1 (by omega))
  · cases hp
    exact .inr (m2 (by omega))
  · cases hp
    exact .inl (m1 (by omega))
theorem mendCut {wl : List Nat} {k g : Nat} (h : k + 1 ≤ wl.length) : Txt.slice (ofL wl) none (some (k : Int)) ++ ofL [g] ++ Txt.slice (ofL wl) (some ((k : Int) + 1)) none = ofL (wl.take k ++ g :: wl.drop (k + 1)) := by
  have e : ((k : Int) + 1) = ((k + 1 : Nat) : Int) := by omega
  rw [slice_to (by omega), e, slice_from h, ofL_append, ofL_append, List.append_assoc]
  rfl
theorem layTwo : ∀ i, i ≤ 7 → ∀ j, j ≤ 7 → (PyData.list (List.map PyData.int [((i : Nat) : Int), ((j : Nat) : Int)])).layable0 = true := by decide +kernel
theorem idxTwo1 {i j : Nat} (h : i < j) : (([((i : Nat) : Int), ((j : Nat) : Int)].idxOf ((j : Nat) : Int) : Nat) : Int) = 1 := by
  have h1 : (((i : Nat) : Int) == ((j : Nat) : Int)) = false := beq_eq_false_iff_ne.mpr (by omega)
  rw [List.idxOf_cons, h1]
  simp
theorem idxTwo0 {i j : Nat} : (([((i : Nat) : Int), ((j : Nat) : Int)].idxOf ((i : Nat) : Int) : Nat) : Int) = 0 := by
  rw [List.idxOf_cons, beq_self_eq_true]
  rfl
theorem strDig : ∀ i, i < 10 → Str.ofString (toString ((i : Nat) : Int)) = ofL [48 + i] := by decide +kernel
theorem fa3 {b1 b2 fa : Nat} (h1 : b1 < 2) (h2 : b2 < 2) (h : b1 + 2 * b2 = fa) : fa ≤ 3 := by omega
theorem lt2 {b : Nat} (h : b < 2) : b = 0 ∨ b = 1 := by omega
theorem mendC (w : World) (p : Program) (loose : List Str) (mean : ExcName → Option Value) (mg mb : Str → Option Value) (l61 rest : List (Addr × Obj)) (h61 : Tab 61 51 d2q l61) (hr61 : ∀ p ∈ rest, p.1 ≠ 61) (wl : List Nat) (hwl : wl.length ≤ 7) (hwc : ∀ c ∈ wl, inLmr c) (a : Str) (ha : a = ofL wl) (t : Tok) :
    Calls w (_root_.hd.heap_1 w.params) p loose mean mg mb 276 30 300 (l61 ++ rest) [.str a t] (fun h₀ L m s Q => CodeHd h₀ 65 61 ∧ ∀ l61' t' h' tk', Tab 61 51 d2q l61' → Fr h₀ L h' m → News h₀ L h' (l61' ++ rest) → Q (.str (ofL (mendL wl)) t') { s with heap := h', toks := tk', gens := finN s.gens 4 }) PySem.Challenge.pw_to0083_01 := by
  intro dp un gd cn cs' ad ccd cl outer A₀ base h₀ L m s Q E B F X N T hk hd hu hret
  obtain ⟨C65, hret⟩ := hret
  have hal : a.length = wl.length := by rw [ha, ofL_len]
  have hal2 : a.length ≤ 100 := hal ▸ Nat.le_trans hwl (by decide)
  have hal' : a.cps.size = wl.length := hal
  refine wpAny_call ?_
  k_dflt (refine' code_defC ?k1 ?k2 ?k3 ?k4 ?k5 ?kA ?kF ?kK ?k6 ?k7 ?k8 ?k9 ?kB ?kD ?_ ?c2 ?c3 ?c4; (case kA => exact rfl); (case kF => exact rfl); (case kK => assumption); (case k1 => k_asm); (case k2 => k_asm); (case k3 => k_asm); (case k4 => k_asm); (case k5 => k_asm); (case k6 => k_is); (case k7 => k_is); (case k8 => ktr_room); (case k9 => exact BindsTo.of_eq rfl); (case kB => exact rfl); (case kD => decide +kernel); (case c2 => exact rfl); (case c3 => exact rfl); (case c4 => exact rfl); k_whole; intro g' L' h' tk' cells' FG' F' N' Y' B' X' T' l1; k_cells Y'; (try simp only [List.cons_append, List.nil_append] at N'); (try dsimp only); (try k_lift B'); (try k_fold))
  rename_i oA oB dA dB
  replace C65 := C65.keeps FG'.keep
  replace dB : oB.data = .cell (some (.str a t)) := dB
  replace dA : oA.data = .cell none := dA
  replace F' := fr_eq (m' := fun y => none) F' (by intro y; rfl)
  have lall : ∀ p ∈ l61 ++ rest, @LT.lt Nat _ p.1 L' := l1
  refine foldM F' ?_; clear F'; intro mfr0 F'
  ktn_open
  refine compPure (by k_asm) (by with_unfolding_all rfl) (by rfl) (by decide) (by rfl) (by decide) (by rfl) (by rfl) (fun _ => rfl) ?_
  ktn_open
  refine wpAny_pyIter_strU ?_
  rename Fr g' _ _ _ => F1
  rename News g' _ _ _ => N1
  have lIt : ∀ p ∈ (L' + 1 + 1, oA) :: (L' + 1, oB) :: (l61 ++ rest), @LT.lt Nat _ p.1 h'.objs.size := fun p hp => Heap.lt_size (N1 p hp).1
  have hLt : @LT.lt Nat _ L' h'.objs.size := F1.ns.lt
  have hI0 : g'.get? h'.objs.size = none := Heap.get?_none_of_le (Nat.le_trans F1.above (Nat.le_of_lt hLt))
  (try dsimp only)
  refine ⟨h'.objs.size, [h'.objs.size], [h'.objs.size], _, _, _, fun i yv => ∃ t, yv = .str (qTxt (wl.count (pegM i))) t, (L' + 1 + 1, oA) :: (L' + 1, oB) :: (l61 ++ rest), rfl, CSrc.str (xs := Str.ofString "mr") (t := ?tt) rfl rfl rfl, by decide +kernel, ?st, ?fp, F1.push _, fun p hp => ⟨Heap.get?_push_of_some _ (N1 p hp).1, (N1 p hp).2⟩, ?nw, ?lw, ?h0, ?el, ?dn⟩
  case st =>
    have hty : strIterType (Str.ofString "mr") = "str_ascii_iterator" := by decide +kernel
    refine ⟨_, Heap.get?_push_size _ rfl, congrArg Value.type hty, ?_⟩
    rfl
  case fp => intro b hb; rw [List.mem_singleton.mp hb, Heap.size_push]; exact Nat.lt_succ_self _
  case nw => intro p hp hm; exact Nat.ne_of_lt (lIt p hp) (List.mem_singleton.mp hm)
  case lw => intro hm; exact Nat.ne_of_lt hLt (List.mem_singleton.mp hm)
  case h0 => intro b hb; rw [List.mem_singleton.mp hb]; exact hI0
  case el =>
    clear F1 N1
    rintro i C oC m₂ h tk E' hi hoC ⟨c, u, hc, hm2⟩ F1 N1 hnC
    refine foldQ ?_; intro qloop10
    obtain ⟨hi2, hce⟩ := mrAt hc
    have hcnt : Txt.count a ⟨#[c]⟩ = ((wl.count c : Nat) : Int) := by rw [ha]; exact count_ofL wl c
    have hcnt7 : wl.count c ≤ 7 := Nat.le_trans List.count_le_length hwl
    generalize hq : wl.count c = q at *
    ktn_open
    rw [hcnt]
    ktn_open
    have e9 : Txt.mul (Str.ofString "\"") ((q : Nat) : Int) ++ Str.ofString "(\"" = qTxt (wl.count (pegM i)) := by rw [← hce, hq]; exact qTxt_of q hcnt7
    rw [e9]
  case dn =>
    clear F1 N1
    intro D ys h tk hyl hG F1 N1 hnD
    have hz2 : (Str.ofString "mr").cps.size = 2 := by decide +kernel
    rw [hz2] at hyl
    obtain ⟨y1, y2, rfl⟩ : ∃ y1 y2, ys = [y1, y2] := by
      rcases ys with _ | ⟨y1, _ | ⟨y2, _ | ⟨y3, r⟩⟩⟩
      · simp at hyl
      · simp at hyl
      · exact ⟨y1, y2, rfl⟩
      · simp at hyl
    obtain ⟨t1, rfl⟩ := hG 0 y1 rfl
    obtain ⟨t2, rfl⟩ := hG 1 y2 rfl
    clear hG
    have hc1 : wl.count 109 ≤ 7 := Nat.le_trans List.count_le_length hwl
    have hc2 : wl.count 114 ≤ 7 := Nat.le_trans List.count_le_length hwl
    replace N1 : News g' L' h ((D, W.listOf [Value.str (qTxt (wl.count 109)) t1, Value.str (qTxt (wl.count 114)) t2].toArray 2) :: (L' + 1 + 1, oA) :: (L' + 1, oB) :: (l61 ++ rest)) := N1
    generalize hq1 : wl.count 109 = q1 at *
    generalize hq2 : wl.count 114 = q2 at *
    ktn_open
    refine compPure (by k_asm) (by with_unfolding_all rfl) (by rfl) (by decide) (by rfl) (by decide) (by rfl) (by rfl) (fun _ => rfl) ?_
    ktn_open
    have lD : ∀ p ∈ (L' + 1 + 1, oA) :: (L' + 1, oB) :: (l61 ++ rest), @LT.lt Nat _ p.1 D := hnD
    refine callsUse (preC w p loose mean mg mb ((L' + 1 + 1, oA) :: (L' + 1, oB) :: (l61 ++ rest)) [q1, q2] (by intro q hq; rcases List.mem_cons.mp hq with rfl | hq; exact hc1; rw [List.mem_singleton.mp hq]; exact hc2) (by simp) D _ 2 (.cons _ _ (.cons _ _ .nil))) (by k_asm) (by k_asm) (by k_asm) (by k_asm) (by k_asm) (by first | exact rfl | assumption) (by ktr_room) (by ktr_units) ?_
    intro P out np h3 tk3 hout F3 N3
    obtain ⟨u1, vs1, ev1, ho2⟩ := hout.cons_inv
    obtain ⟨u2, vs2, ev2, ho3⟩ := ho2.cons_inv
    obtain rfl := ho3.nil_inv
    subst ev2 ev1
    (try dsimp only)
    ktn_open
    rename ZipApart _ _ _ _ _ _ _ => hZA
    rename (IsZip _ _ _ _ _ ∧ _) => hZS
    refine (WalksT.zip2 rfl _ _ _ _ _ _ _ hZA _ _).self 0 _ _ _ hZS ?_
    rename_i hh z TI TO i1 i2 FZ hkZ kz kTO k1 k2 hzL jz jTO j1 j2 hle NZ
    have wrL : ∀ x ∈ [z, TO, i1, i2], @LT.lt Nat _ L' x := four hzL.1 hzL.2.1 hzL.2.2.1 hzL.2.2.2
    have wrJ : ∀ x ∈ [z, TO, i1, i2], @LT.lt Nat _ (h3.objs.size - 1) x := four jz jTO j1 j2
    have hab : @LE.le Nat _ g'.objs.size L' := FZ.above
    clear kz kTO k1 k2 hzL jz jTO j1 j2 hkZ
    have ZW := fun (a b : Str) (pa pb tp : Pos) (kk : Nat) (scope : Scope) (A : Around) (hA : A.handled = none) (hk : scope.kind = .function) (ha : scope.names.lookup a = some .local) (hb : scope.names.lookup b = some .local) (hab : a ≠ b) => CSrc.zip (prog := PySem.Challenge.pw_to0083_01) (w := w) (A := A) (pa := pa) (pb := pb) (tp := tp) (kk := kk) hA (xs := #[Value.str (qOut q1) u1, Value.str (qOut q2) u2]) (ys := #[Value.str (qTxt q1) t1, Value.str (qTxt q2) t2]) hZA hk ha hb hab
    refine ⟨z, [z, TI, TO, i1, i2, P, D], [z, TO, i1, i2], _, _, _, fun i yv => ∃ t, yv = .int ((if i = 0 then q1 % 2 else q2 % 2 : Nat) : Int) t, (P, W.listOf #[Value.str (qOut q1) u1, Value.str (qOut q2) u2] np) :: (D, W.listOf #[Value.str (qTxt q1) t1, Value.str (qTxt q2) t2] 2) :: (L' + 1 + 1, oA) :: (L' + 1, oB) :: (l61 ++ rest), rfl, ZW (Str.ofString "left") (Str.ofString "text") _ _ _ _ _ _ rfl rfl rfl rfl (by decide), (show 2 ≤ sizeLine by decide +kernel), ?hst, ?fp, ?F, ?N, ?nw, ?lw, ?h0, ?el, ?dn⟩
    case hst => exact hZS
    case fp => exact zipFp hZS
    case F => exact FZ
    case N => exact NZ
    clear ZW
    case nw => exact fun p hp hm => Nat.lt_irrefl _ (Nat.lt_of_lt_of_le (wrJ _ hm) (hle p hp))
    case lw => exact fun hm => Nat.lt_irrefl _ (wrL _ hm)
    case h0 => exact fun b hb => Heap.get?_none_of_le (Nat.le_trans hab (Nat.le_of_lt (wrL b hb)))
    case el =>
      clear FZ NZ
      rintro i C oC m₂ h tk E' hi hoC ⟨x, y, hx, hy, hm1, hm2⟩ F1 N1 hnC
      refine foldQ ?_; intro qloop11
      replace hi : i < 2 := hi
      obtain ⟨q, u, v, hq7, rfl, rfl, hqi⟩ : ∃ q u v, q ≤ 7 ∧ x = .str (qOut q) u ∧ y = .str (qTxt q) v ∧ q % 2 = (if i = 0 then q1 % 2 else q2 % 2) := by
        rcases i with _ | _ | i
        · exact ⟨q1, _, _, hc1, (Option.some.inj hx).symm, (Option.some.inj hy).symm, rfl⟩
        · exact ⟨q2, _, _, hc2, (Option.some.inj hx).symm, (Option.some.inj hy).symm, rfl⟩
        · omega
      have hqe := qEq q hq7
      generalize qOut q = xo at *
      generalize qTxt q = yo at *
      have e9 : (if (xo == yo) = true then (1 : Int) else 0) = ((if i = 0 then q1 % 2 else q2 % 2 : Nat) : Int) := by
        rw [hqe, ← hqi]
        rcases Nat.mod_two_eq_zero_or_one q with h | h <;> simp [h]
      ktn_open
      exact congrArg (fun z => Value.int z _) e9
    case dn =>
      clear FZ NZ
      intro D2 ys h tk hyl hG F1 N1 hnD2
      obtain ⟨y1, y2, rfl⟩ : ∃ y1 y2, ys = [y1, y2] := by
        rcases ys with _ | ⟨y1, _ | ⟨y2, _ | ⟨y3, r⟩⟩⟩
        · simp at hyl
        · simp at hyl
        · exact ⟨y1, y2, rfl⟩
        · simp at hyl
      obtain ⟨t3, rfl⟩ := hG 0 y1 rfl
      obtain ⟨t4, rfl⟩ := hG 1 y2 rfl
      clear hG
      replace N1 : News g' L' h ((D2, W.listOf [Value.int ((q1 % 2 : Nat) : Int) t3, Value.int ((q2 % 2 : Nat) : Int) t4].toArray 2) :: (P, W.listOf #[Value.str (qOut q1) u1, Value.str (qOut q2) u2] np) :: (D, W.listOf #[Value.str (qTxt q1) t1, Value.str (qTxt q2) t2] 2) :: (L' + 1 + 1, oA) :: (L' + 1, oB) :: (l61 ++ rest)) := N1
      ktn_open
      obtain ⟨b1, hb1⟩ : ∃ b, q1 % 2 = b := ⟨_, rfl⟩
      obtain ⟨b2, hb2⟩ : ∃ b, q2 % 2 = b := ⟨_, rfl⟩
      have hb1' : b1 < 2 := by rw [← hb1]; exact Nat.mod_lt _ (by decide)
      have hb2' : b2 < 2 := by rw [← hb2]; exact Nat.mod_lt _ (by decide)
      have hL61 : ∀ p ∈ l61, p.1 = 61 → @LT.lt Nat _ 61 L' := fun p hp e => e ▸ lall p (List.mem_append.mpr (.inl hp))
      have h61L : @LT.lt Nat _ 61 L' := by
        obtain ⟨o, ho⟩ := h61.has
        exact hL61 _ ho rfl
      have hD61 : @Ne Nat D2 61 := Nat.ne_of_gt (Nat.lt_trans h61L (Nat.lt_trans (Nat.lt_succ_self L') (hnD2 (L' + 1, oB) (.tail _ (.tail _ (.tail _ (.head _)))))))
      rw [hb1, hb2] at N1
      refine callsUse (d2iC w p loose mean mg mb l61 ((L' + 1 + 1, oA) :: (L' + 1, oB) :: rest) h61 (List.forall_mem_cons.mpr ⟨Nat.ne_of_gt (Nat.lt_succ_of_lt (Nat.lt_succ_of_lt h61L)), List.forall_mem_cons.mpr ⟨Nat.ne_of_gt (Nat.lt_succ_of_lt h61L), hr61⟩⟩) D2 [Value.int (b1 : Nat) t3, Value.int (b2 : Nat) t4] [((b1 : Nat) : Int), ((b2 : Nat) : Int)] 2 1 (by decide) (by decide) (Nat.le_add_left 1 1) (show 2 ≤ 4 by decide) (by intro x hx; rcases List.mem_cons.mp hx with rfl | hx; omega; rw [List.mem_singleton.mp hx]; omega) (.cons _ _ (.cons _ _ .nil)) hD61 _) (by k_asm) (by k_asm) (by k_asm) (news_sub N1 ?sub) (by k_asm) (by first | exact rfl | assumption) (by ktr_room) (by ktr_units) ⟨C65, ?_⟩
      case sub =>
        intro p hp
        rcases List.mem_append.mp hp with hp | hp
        · exact .tail _ (.tail _ (.tail _ (.tail _ (.tail _ (List.mem_append.mpr (.inl hp))))))
        · rcases List.mem_cons.mp hp with rfl | hp
          · exact .head _
          · rcases List.mem_cons.mp hp with rfl | hp
            · exact .tail _ (.tail _ (.tail _ (.head _)))
            · rcases List.mem_cons.mp hp with rfl | hp
              · exact .tail _ (.tail _ (.tail _ (.tail _ (.head _))))
              · exact .tail _ (.tail _ (.tail _ (.tail _ (.tail _ (List.mem_append.mpr (.inr hp))))))
      intro l61' t5 h5 tk5 h61' F5 N5
      have efv : d2iS [((b1 : Nat) : Int), ((b2 : Nat) : Int)].length [((b1 : Nat) : Int), ((b2 : Nat) : Int)] 1 0 [((b1 : Nat) : Int), ((b2 : Nat) : Int)].length = ((b1 + 2 * b2 : Nat) : Int) := by
        obtain rfl | rfl := lt2 hb1'
        all_goals (obtain rfl | rfl := lt2 hb2') <;> decide
      rw [efv]
      have hfa : faultOf wl = b1 + 2 * b2 := by unfold faultOf; rw [hq1, hq2, hb1, hb2]
      obtain ⟨fa, hfb⟩ : ∃ fa, b1 + 2 * b2 = fa := ⟨_, rfl⟩
      rw [hfb] at hfa
      rw [hfb]
      have hfa3 : fa ≤ 3 := fa3 hb1' hb2' hfb
      replace N5 : News g' L' h5 ((L' + 1 + 1, oA) :: (L' + 1, oB) :: (l61' ++ rest)) := news_sub N5 (by
        intro p hp
        rcases List.mem_cons.mp hp with rfl | hp
        · exact List.mem_append.mpr (.inr (.tail _ (.head _)))
        · rcases List.mem_cons.mp hp with rfl | hp
          · exact List.mem_append.mpr (.inr (.tail _ (.tail _ (.head _))))
          · rcases List.mem_append.mp hp with hp | hp
            · exact List.mem_append.mpr (.inl hp)
            · exact List.mem_append.mpr (.inr (.tail _ (.tail _ (.tail _ hp)))))
      have hA1 : ∀ p ∈ l61' ++ rest, p.1 ≠ L' + 1 + 1 := fun p hp => (List.mem_append.mp hp).elim (tab_offC h61' N5 (fun q hq => .tail _ (.tail _ (List.mem_append.mpr (.inl hq)))) (.head _) dA (Nat.ne_of_lt (Nat.lt_succ_of_lt (Nat.lt_succ_of_lt h61L))) p) fun hp => Nat.ne_of_lt (Nat.lt_succ_of_lt (Nat.lt_succ_of_lt (lall p (List.mem_append.mpr (.inr hp)))))
      (try dsimp only)
      clear F1 N1
      rcases Nat.eq_zero_or_pos fa with hf0 | hf0
      · subst hf0
        ktn_open
        have em : mendL wl = wl := by unfold mendL; rw [if_pos hfa]
        rw [em, ← ha] at hret
        rename News h₀ L _ _ => N9
        exact hret _ _ _ _ h61' (by assumption) (news_sub N9 (fun p hp => .tail _ (.tail _ hp)))
      · have hf1 : ((fa : Nat) : Int) ≠ 0 := by omega
        ktn_open
        · exact absurd (by assumption) hf1
        refine callsUse (headC w p loose mean mg mb ((L' + 1 + 1, oA) :: (L' + 1, oB) :: (l61' ++ rest))) (by k_asm) (by k_asm) (by k_asm) (by k_asm) (by k_asm) (by first | exact rfl | assumption) (by ktr_room) (by ktr_units) ?_
        intro l x d td h6 tk6 F6 N6 hnd hdx hxl
        have hAd : @LT.lt Nat _ (L' + 1 + 1) d := hnd _ (.head _)
        have hLd : @LT.lt Nat _ L' d := Nat.lt_trans (Nat.lt_succ_of_lt (Nat.lt_succ_self L')) hAd
        (try dsimp only)
        ktn_open
        rename Fr g' _ _ _ => F7
        rename News g' _ _ _ => N7
        rename (Obj.data _ = Data.cell (some (Value.ref x))) => dA2
        rename_i _ oA2 _
        have hwp : ∀ c ∈ wl, pegC c := fun c hc => by
          unfold pegC
          rcases hwc c hc with rfl | rfl | rfl <;> decide
        have hwc' : ∀ c ∈ wl, c ∈ [108, 109, 114] := fun c hc => by rcases hwc c hc with rfl | rfl | rfl <;> decide
        have hwa : ∀ c ∈ wl, c < 128 := fun c hc => by rcases hwc c hc with rfl | rfl | rfl <;> decide
        have hasc : strIterType a = "str_ascii_iterator" := by
          have : a.cps.all (· < 128) = true := by
            rw [ha]
            simpa using hwa
          unfold strIterType
          rw [this]
          rfl
        obtain ⟨bl, hbl⟩ : ∃ bl, bl = (L' + 1 + 1, oA2) :: (L' + 1, oB) :: (l61' ++ rest) := ⟨_, rfl⟩
        have hbd : ∀ p ∈ bl, @LT.lt Nat _ p.1 d := by
          rw [hbl]
          exact List.forall_mem_cons.mpr ⟨hAd, fun p hp => hnd p (.tail _ hp)⟩
        refine wpAny_For ?_ (fun _ => rfl)
        ktn_open
        refine callEnumStr hasc F7 N7 ?_
        intro h8 e it F8 N8 hei hLi hni h0i h0e hst
        (try dsimp only)
        refine selfEnum rfl hei hst ?_
        have hil : @LT.lt Nat _ l it := hni _ (.head _)
        refine forEnumT rfl (by rfl) (by rfl) (by rfl) F8 N8 hei hLi hni h0i h0e hst (fun i m₁ nx gn => gn = finN s.gens 4 ∧ ∃ (vs : List Value) (n : Nat) (en : List (Addr × Obj)) (tf : Tok), nx = (l, W.listOf vs.toArray n) :: (x, instObj 248 d) :: (d, hdrDict w.params td l) :: (en ++ bl) ∧ EntsAre en vs (ents wl i) ∧ (∀ p ∈ en, p.1 ≠ l) ∧ m₁ (Str.ofString "fault") = some (.int (fa : Nat) tf)) ?hJ ?turn ?done
        case hJ => exact ⟨rfl, [], 0, [], _, by rw [hbl]; rfl, ⟨rfl, fun i e h => by simp [ents] at h⟩, (fun _ hp => nomatch hp), rfl⟩
        case turn =>
          rintro i c t1 t2 oe oi m₁ nx h tk gens E' hi hc ⟨rfl, vs, n, en, tf, rfl, hen, henl, hm1⟩ hoff F₁ N₁
          refine foldQ ?_; intro qloop12
          have hil7 : i < 10 := by
            have : a.cps.size = wl.length := hal
            omega
          have hcw : wl[i]? = some c := by rw [ha] at hc; simpa using hc
          have hpc : pegC c := by
            unfold pegC
            rcases hwc c (List.mem_of_getElem? hcw) with rfl | rfl | rfl <;> decide
          have hstep := ents_step hcw
          have hup := upTxt hpc
          have h1l : (⟨#[c]⟩ : Str).length ≤ 100 := by show 1 ≤ 100; decide
          rw [put_eq hm1] at F₁
          dsimp only at F₁
          obtain ⟨rs, hrs⟩ : ∃ rs, rs = (e, oe) :: (it, oi) :: (en ++ bl) := ⟨_, rfl⟩
          have N₂ : News g' L' h ((l, W.listOf vs.toArray n) :: (x, instObj 248 d) :: (d, hdrDict w.params td l) :: (L' + 1 + 1, oA2) :: rs) := news_sub N₁ (by
            intro p hp
            rcases List.mem_cons.mp hp with rfl | hp
            · exact .tail _ (.tail _ (.head _))
            rcases List.mem_cons.mp hp with rfl | hp
            · exact .tail _ (.tail _ (.tail _ (.head _)))
            rcases List.mem_cons.mp hp with rfl | hp
            · exact .tail _ (.tail _ (.tail _ (.tail _ (.head _))))
            rcases List.mem_cons.mp hp with rfl | hp
            · exact .tail _ (.tail _ (.tail _ (.tail _ (.tail _ (List.mem_append.mpr (.inr (by rw [hbl]; exact .head _)))))))
            rw [hrs] at hp
            rcases List.mem_cons.mp hp with rfl | hp
            · exact .head _
            rcases List.mem_cons.mp hp with rfl | hp
            · exact .tail _ (.head _)
            · exact .tail _ (.tail _ (.tail _ (.tail _ (.tail _ hp)))))
          clear N₁
          have hoff' : ∀ p ∈ en, p.1 ∉ [e, it] := fun p hp => hoff p (.tail _ (.tail _ (.tail _ (List.mem_append.mpr (.inl hp)))))
          have hrl : ∀ p ∈ (L' + 1 + 1, oA2) :: rs, p.1 ≠ l := by
            have hdl : @LT.lt Nat _ d l := Nat.lt_trans hdx hxl
            rw [hrs]
            refine List.forall_mem_cons.mpr ⟨Nat.ne_of_lt (Nat.lt_trans hAd hdl), List.forall_mem_cons.mpr ⟨Nat.ne_of_gt (Nat.lt_trans hil hei), List.forall_mem_cons.mpr ⟨Nat.ne_of_gt hil, fun p hp => ?_⟩⟩⟩
            rcases List.mem_append.mp hp with hp | hp
            · exact henl p hp
            · exact Nat.ne_of_lt (Nat.lt_trans (hbd p hp) hdl)
          have hens : EntsAre ((L' + 1 + 1, oA2) :: rs) vs (ents wl i) := hen.sub fun p hp => by
            rw [hrs]
            exact .tail _ (.tail _ (.tail _ (List.mem_append.mpr (.inl hp))))
          ktn_open
          rw [strDig i hil7]
          refine callsUse (setC w p loose mean mg mb ((L' + 1 + 1, oA2) :: rs) x d l td vs n (ents wl i) hens (ents_peg hwp i) (Nat.le_trans (ents_len wl i) (by omega)) (Nat.ne_of_lt hxl) (Nat.ne_of_lt (Nat.lt_trans hdx hxl)) hrl (upC c) i (upPeg hpc) hil7 _ _ hup rfl _ _) (by k_asm) (by k_asm) (by k_asm) (by k_asm) (by k_asm) (by first | exact rfl | assumption) (by ktr_room) (by ktr_units) ?_
          intro v vs' n' new h9 tk9 hcase hnew F9 N9
          (try dsimp only)
          ktn_open
          rename Fr g' _ _ _ => F10
          rename News g' _ _ _ => N10
          refine ⟨rfl, _, _, _, (l, W.listOf vs'.toArray n') :: (x, instObj 248 d) :: (d, hdrDict w.params td l) :: ((new ++ en) ++ bl), _, rfl, F10, news_sub N10 ?s1, ?s2, rfl, vs', n', new ++ en, ?tf, rfl, ?s3, ?s4, ?s5⟩
          case s5 => rfl
          case s4 =>
            intro p hp
            rcases List.mem_append.mp hp with hp | hp
            · exact (hnew p hp).1
            · exact henl p hp
          case s3 =>
            rcases hcase with ⟨hs, rfl, rfl⟩ | ⟨hs, D9, od, osl, n1, t3, t4, rfl, rfl⟩
            · rw [hstep, if_pos hs]
              exact hen
            · rw [hstep, if_neg (by rw [hs]; decide)]
              exact hen.snoc
          case s2 =>
            intro p hp
            rcases List.mem_cons.mp hp with rfl | hp
            · exact hoff (l, W.listOf vs.toArray n) (.head _)
            rcases List.mem_cons.mp hp with rfl | hp
            · exact hoff _ (.tail _ (.head _))
            rcases List.mem_cons.mp hp with rfl | hp
            · exact hoff _ (.tail _ (.tail _ (.head _)))
            rcases List.mem_append.mp hp with hp | hp
            · rcases List.mem_append.mp hp with hp | hp
              · have h1 := (hnew p hp).2
                have he9 := h1 (e, oe) (by rw [hrs]; exact .tail _ (.head _))
                have hi9 := h1 (it, oi) (by rw [hrs]; exact .tail _ (.tail _ (.head _)))
                intro hm
                rcases List.mem_cons.mp hm with hm | hm
                · exact Nat.ne_of_gt he9 hm
                · exact Nat.ne_of_gt hi9 (List.mem_singleton.mp hm)
              · exact hoff' p hp
            · exact hoff p (.tail _ (.tail _ (.tail _ (List.mem_append.mpr (.inr hp)))))
          case s1 =>
            intro p hp
            rcases List.mem_cons.mp hp with rfl | hp
            · exact .tail _ (.tail _ (.tail _ (List.mem_append.mpr (.inr (.tail _ (by rw [hrs]; exact .head _))))))
            rcases List.mem_cons.mp hp with rfl | hp
            · exact .tail _ (.tail _ (.tail _ (List.mem_append.mpr (.inr (.tail _ (by rw [hrs]; exact .tail _ (.head _)))))))
            rcases List.mem_cons.mp hp with rfl | hp
            · exact .head _
            rcases List.mem_cons.mp hp with rfl | hp
            · exact .tail _ (.head _)
            rcases List.mem_cons.mp hp with rfl | hp
            · exact .tail _ (.tail _ (.head _))
            rcases List.mem_append.mp hp with hp | hp
            · rcases List.mem_append.mp hp with hp | hp
              · exact .tail _ (.tail _ (.tail _ (List.mem_append.mpr (.inl hp))))
              · exact .tail _ (.tail _ (.tail _ (List.mem_append.mpr (.inr (.tail _ (by rw [hrs]; exact .tail _ (.tail _ (List.mem_append.mpr (.inl hp)))))))))
            · exact .tail _ (.tail _ (.tail _ (List.mem_append.mpr (.inr (.tail _ (by rw [hrs]; exact .tail _ (.tail _ (List.mem_append.mpr (.inr hp)))))))))
        case done =>
          rintro m' nx h tk gens ⟨rfl, vs, n, en, tf, rfl, hen, henl, hm1⟩ F₁ N₁
          rw [put_eq hm1] at F₁
          replace N₁ : News g' L' h ((l, W.listOf vs.toArray n) :: (x, instObj 248 d) :: (d, hdrDict w.params td l) :: (L' + 1 + 1, oA2) :: (L' + 1, oB) :: (en ++ (l61' ++ rest))) := news_sub N₁ (by
            intro p hp
            rw [hbl]
            rcases List.mem_cons.mp hp with rfl | hp
            · exact .head _
            rcases List.mem_cons.mp hp with rfl | hp
            · exact .tail _ (.head _)
            rcases List.mem_cons.mp hp with rfl | hp
            · exact .tail _ (.tail _ (.head _))
            rcases List.mem_cons.mp hp with rfl | hp
            · exact .tail _ (.tail _ (.tail _ (List.mem_append.mpr (.inr (.head _)))))
            rcases List.mem_cons.mp hp with rfl | hp
            · exact .tail _ (.tail _ (.tail _ (List.mem_append.mpr (.inr (.tail _ (.head _))))))
            rcases List.mem_append.mp hp with hp | hp
            · exact .tail _ (.tail _ (.tail _ (List.mem_append.mpr (.inl hp))))
            · exact .tail _ (.tail _ (.tail _ (List.mem_append.mpr (.inr (.tail _ (.tail _ hp)))))))
          ktn_open
          have hx2 := twoAt fa (by omega) hfa3
          refine kba_turn (value' := PySem.Expr.Name (Str.ofString "x") ⟨0, 0, 0, 0⟩) (fun _ => rfl) ?_
          refine item_N (l := [_, _, _]) (by assumption) (by k_mem) (by omega) (by omega) (hx2 _ _ _).choose_spec ?_
          generalize (hx2 _ _ _).choose = tt
          clear hx2
          obtain ⟨p1, p2, hp12⟩ : ∃ p1 p2, twoOf fa = (p1, p2) := ⟨_, _, rfl⟩
          have hpp : p1 ∈ [108, 109, 114] ∧ p2 ∈ [108, 109, 114] := by
            have h9 : ∀ f, f ≤ 3 → (twoOf f).1 ∈ [108, 109, 114] ∧ (twoOf f).2 ∈ [108, 109, 114] := by decide
            have h8 := h9 fa hfa3
            rwa [hp12] at h8
          rw [hp12]
          (try dsimp only)
          ktn_open
          refine compGrow (by k_asm) (by with_unfolding_all rfl) (by rfl) (by decide) (by rfl) (by decide) (by rfl) (by rfl) (fun _ => rfl) ?_
          ktn_open
          refine wpAny_pyIter_strU ?_
          rename Fr g' _ _ _ => F12
          rename News g' _ _ _ => N12
          rename Heap => H12
          obtain ⟨LD, hLD⟩ : ∃ LD, LD = (l, W.listOf vs.toArray n) :: (x, instObj 248 d) :: (d, hdrDict w.params td l) :: (L' + 1 + 1, oA2) :: (L' + 1, oB) :: (en ++ (l61' ++ rest)) := ⟨_, rfl⟩
          replace N12 : News g' L' H12 LD := by rw [hLD]; exact news_sub N12 (fun p hp => .tail _ hp)
          have hLt12 : @LT.lt Nat _ L' H12.objs.size := F12.ns.lt
          have hI12 : g'.get? H12.objs.size = none := Heap.get?_none_of_le (Nat.le_trans F12.above (Nat.le_of_lt hLt12))
          (try dsimp only)
          refine ⟨H12.objs.size, [H12.objs.size], [H12.objs.size], _, _, _, fun i yv => ∃ t, yv = .int ((topAt wl (if i = 0 then p1 else p2) : Nat) : Int) t, LD, rfl, CSrc.str (xs := ofL [p1, p2]) (t := tt) rfl rfl rfl, (show 2 ≤ sizeLine by decide +kernel), ?st2, ?fp2, F12.push _, fun p hp => ⟨Heap.get?_push_of_some _ (N12 p hp).1, (N12 p hp).2⟩, ?nw2, ?lw2, ?h02, ?el2, ?dn2⟩
          case st2 =>
            have hty : strIterType (ofL [p1, p2]) = "str_ascii_iterator" := by
              have h9 : ∀ p1 ∈ [108, 109, 114], ∀ p2 ∈ [108, 109, 114], strIterType (ofL [p1, p2]) = "str_ascii_iterator" := by decide +kernel
              exact h9 _ hpp.1 _ hpp.2
            refine ⟨_, Heap.get?_push_size _ rfl, congrArg Value.type hty, ?_⟩
            rfl
          case fp2 => intro b hb; rw [List.mem_singleton.mp hb, Heap.size_push]; exact Nat.lt_succ_self _
          case nw2 => intro p hp hm; exact Nat.ne_of_lt (Heap.lt_size (N12 p hp).1) (List.mem_singleton.mp hm)
          case lw2 => intro hm; exact Nat.ne_of_lt hLt12 (List.mem_singleton.mp hm)
          case h02 => intro b hb; rw [List.mem_singleton.mp hb]; exact hI12
          case el2 =>
            rw [hal'] at hen
            clear F12 N12
            rintro i C oC D3 ys own m₂ h tk E' hi hoC ⟨c, u, hc, hm2⟩ hown F1 N1 hlt
            refine foldQ ?_; intro qloop13
            have hi2 : i < 2 := hi
            have hcp : c = (if i = 0 then p1 else p2) := by
              rcases i with _ | _ | i
              · simpa using hc.symm
              · simpa using hc.symm
              · omega
            have hc3 : c ∈ [108, 109, 114] := by rw [hcp]; split; exact hpp.1; exact hpp.2
            have hpc : pegC c := (by decide : ∀ c ∈ [108, 109, 114], c ∈ [108, 109, 114, 76, 77, 82]) c hc3
            obtain ⟨rs, hrs⟩ : ∃ rs, rs = (D3, LCg.lst ys) :: (own ++ (en ++ (l61' ++ rest))) := ⟨_, rfl⟩
            replace N1 : News g' L' h ((l, W.listOf vs.toArray n) :: (x, instObj 248 d) :: (d, hdrDict w.params td l) :: (C, oC) :: (L' + 1 + 1, oA2) :: (L' + 1, oB) :: rs) := by
              rw [hLD] at N1
              rw [hrs]
              exact news_sub N1 re1
            have hsl : Str.ofString (toString ((a.length : Nat) : Int)) = ofL [48 + wl.length] := by rw [hal]; exact strDig _ (by omega)
            ktn_open
            rw [hsl]
            refine callsUse (getC w p loose mean mg mb ((C, oC) :: (L' + 1 + 1, oA2) :: (L' + 1, oB) :: rs) x d l td vs n (ents wl wl.length) (hen.sub (by rw [hrs]; exact re3)) (ents_peg hwp _) c hpc _ rfl _ false (.str (ofL [48 + wl.length]) (tk + 1 + 1))) (by k_asm) (by k_asm) (by k_asm) (by k_asm) (by k_asm) (by first | exact rfl | assumption) (by ktr_room) (by ktr_units) ?_
            intro v h9 tk9 hv F9 N9
            obtain ⟨t9, rfl⟩ : ∃ t9, v = .str (ofL [48 + topAt wl c]) t9 := by
              rw [findE_ents hwc' hc3 wl.length (Nat.le_refl _)] at hv
              by_cases h7 : topAt wl c < wl.length
              · rw [if_pos h7] at hv
                exact hv
              · rw [if_neg h7] at hv
                have h8 := topAt_le (p := c) wl
                have h9 : topAt wl c = wl.length := by omega
                rw [h9]
                exact ⟨_, hv⟩
            have htl : topAt wl c < 10 := by
              have h8 := topAt_le (p := c) wl
              omega
            (try dsimp only)
            ktn_open
            refine KIN.call_text (digBack _ htl) (by rw [ofL_len]; exact Nat.le_add_left 1 639) ?_
            rename Fr g' _ _ _ => F13
            rename News g' _ _ _ => N13
            refine ⟨⟨_, _, rfl, F13, news_sub N13 ?_⟩, _, by rw [← hcp]⟩
            rw [hLD, hrs]
            exact re2
          case dn2 =>
            clear F12 N12
            intro D3 ys h tk hyl hG F1 N1 hnD3
            replace hyl : ys.length = 2 := hyl
            obtain ⟨y1, y2, rfl⟩ : ∃ y1 y2, ys = [y1, y2] := by
              rcases ys with _ | ⟨y1, _ | ⟨y2, _ | ⟨y3, r⟩⟩⟩
              · simp at hyl
              · simp at hyl
              · exact ⟨y1, y2, rfl⟩
              · simp at hyl
            obtain ⟨t3, h33⟩ := hG 0 y1 rfl
            obtain ⟨t4, h44⟩ := hG 1 y2 rfl
            replace h33 : y1 = .int ((topAt wl p1 : Nat) : Int) t3 := h33
            replace h44 : y2 = .int ((topAt wl p2 : Nat) : Int) t4 := h44
            subst h33 h44
            clear hG
            have htp := topAt_le (p := p1) wl
            have htq := topAt_le (p := p2) wl
            rw [hLD] at N1
            replace N1 : News g' L' h ((D3, W.listOf [Value.int ((topAt wl p1 : Nat) : Int) t3, Value.int ((topAt wl p2 : Nat) : Int) t4].toArray 2) :: (L' + 1 + 1, oA2) :: (L' + 1, oB) :: (en ++ (l61' ++ rest))) := news_sub N1 (by
              intro p hp
              rcases List.mem_cons.mp hp with rfl | hp
              · exact .head _
              · exact .tail _ (.tail _ (.tail _ (.tail _ hp))))
            have hml : mendL wl = if topAt wl p1 < topAt wl p2 then wl.take (topAt wl p1) ++ p2 :: wl.drop (topAt wl p1 + 1) else wl.take (topAt wl p2) ++ p1 :: wl.drop (topAt wl p2 + 1) := by
              unfold mendL
              rw [hfa, if_neg (by omega), hp12]
            have hpl : topAt wl p1 < wl.length ∨ topAt wl p2 < wl.length := (faultPeg hfa (by omega) hfa3 hp12).imp topAt_lt topAt_lt
            generalize htpe : topAt wl p1 = tp at *
            generalize htqe : topAt wl p2 = tq at *
            by_cases hpq : tp < tq
            · rw [if_pos hpq] at hml
              have htl2 : (ofL [p1, p2]).length = 2 := ofL_len _
              ktn_open
              rename (_ = ((tp : Nat) : Int) ∨ _ = ((tq : Nat) : Int)) => hmx
              rename (((tp : Nat) : Int) ≤ _ ∧ ((tq : Nat) : Int) ≤ _) => hmb
              have e2 := hmx.resolve_left (by omega)
              subst e2
              clear hmx hmb
              rename (_ = ((tp : Nat) : Int) ∨ _ = ((tq : Nat) : Int)) => hmn
              rename (_ ≤ ((tp : Nat) : Int) ∧ _ ≤ ((tq : Nat) : Int)) => hmb
              have e1 := hmn.resolve_right (by omega)
              subst e1
              clear hmn hmb
              rename News g' _ _ _ => N14
              refine index_list_ints (ns := [((tp : Nat) : Int), ((tq : Nat) : Int)]) (News.isList N14 (.head _)) (.cons _ _ (.cons _ _ .nil)) (layTwo _ (Nat.le_trans htp hwl) _ (Nat.le_trans htq hwl)) (.tail _ (.head _)) ?_
              rw [idxTwo1 hpq]
              ktn_open
              refine item_str (by decide) (by rw [htl2]; decide) (by rw [htl2]; decide) ?_
              intro hl9
              have ei : Txt.item (ofL [p1, p2]) 1 = ofL [p2] := item_pos (k := 1) rfl
              rw [ei] at hl9 ⊢
              have hl8 : (ofL [p2]).length ≤ 100 := by omega
              obtain ⟨gk, hgk⟩ : ∃ gk, ofL [p2] = gk := ⟨_, rfl⟩
              rw [hgk] at hl9 hl8 ⊢
              ktn_open
              rename News h₀ L _ _ => N15
              have efin := mendCut (g := p2) (wl := wl) (k := tp) (by omega)
              rw [hgk, ← ha, ← hml] at efin
              rw [efin]
              exact hret _ _ _ _ h61' (by assumption) (news_sub N15 (fun p hp => .tail _ (.tail _ (.tail _ (List.mem_append.mpr (.inr hp))))))
            · rw [if_neg hpq] at hml
              have htl2 : (ofL [p1, p2]).length = 2 := ofL_len _
              ktn_open
              rename (_ = ((tp : Nat) : Int) ∨ _ = ((tq : Nat) : Int)) => hmx
              rename (((tp : Nat) : Int) ≤ _ ∧ ((tq : Nat) : Int) ≤ _) => hmb
              have e2 := hmx.elim id (fun h => h.trans (show ((tq : Nat) : Int) = ((tp : Nat) : Int) by omega))
              subst e2
              clear hmx hmb
              rename (_ = ((tp : Nat) : Int) ∨ _ = ((tq : Nat) : Int)) => hmn
              rename (_ ≤ ((tp : Nat) : Int) ∧ _ ≤ ((tq : Nat) : Int)) => hmb
              have e1 := hmn.elim (fun h => h.trans (show ((tp : Nat) : Int) = ((tq : Nat) : Int) by omega)) id
              subst e1
              clear hmn hmb
              rename News g' _ _ _ => N14
              refine index_list_ints (ns := [((tp : Nat) : Int), ((tq : Nat) : Int)]) (News.isList N14 (.head _)) (.cons _ _ (.cons _ _ .nil)) (layTwo _ (Nat.le_trans htp hwl) _ (Nat.le_trans htq hwl)) (.head _) ?_
              rw [idxTwo0]
              ktn_open
              refine item_str (by decide) (by rw [htl2]; decide) (by rw [htl2]; decide) ?_
              intro hl9
              have ei : Txt.item (ofL [p1, p2]) 0 = ofL [p1] := item_pos (k := 0) rfl
              rw [ei] at hl9 ⊢
              have hl8 : (ofL [p1]).length ≤ 100 := by omega
              obtain ⟨gk, hgk⟩ : ∃ gk, ofL [p1] = gk := ⟨_, rfl⟩
              rw [hgk] at hl9 hl8 ⊢
              ktn_open
              rename News h₀ L _ _ => N15
              have efin := mendCut (g := p1) (wl := wl) (k := tq) (by omega)
              rw [hgk, ← ha, ← hml] at efin
              rw [efin]
              exact hret _ _ _ _ h61' (by assumption) (news_sub N15 (fun p hp => .tail _ (.tail _ (.tail _ (List.mem_append.mpr (.inr hp))))))
end
theorem wakeCLaw : True ∧ True := by
  w_top off
  first | (walk1; fail) | exact ⟨trivial, trivial⟩
section
local macro_rules | `(tactic| tb_start) => `(tactic| with_reducible first | refine Mine.atRef ?_ | refine Mine.atFor ?_ | refine Mine.atComp ?_ | refine Mine.atIter ?_ | refine Mine.atEnum ?_ | refine Mine.atEComp ?_ | refine Mine.atSubR ?_ | refine Mine.atSubI ?_ | refine Mine.atEqR ?_ | refine Mine.atGood ?_)
theorem nameAx {h : Heap} {a : Addr} {its : Array Value} (H : h.IsList a its) : ∃ a', a' = a ∧ h.IsList a' its := ⟨a, rfl, H⟩
theorem nameIts {h : Heap} {e it l : Addr} {items : Array Value} (x : (∃ old, IsEnum h e it ((0 : Nat) : Int) old) ∧ h.IsListIter it l 0 ∧ h.IsList l items) : ∃ l' its, l' = l ∧ its = items ∧ ((∃ old, IsEnum h e it ((0 : Nat) : Int) old) ∧ h.IsListIter it l' 0 ∧ h.IsList l' its) := ⟨l, items, rfl, rfl, x⟩
theorem lawT : PySem.Challenge.rw_to0083_01.Holds := hd (by
  k_fill
  intro w s₀ s₁ mg mb G Y fa o pm cd doc dV kV ho hd hcd hD hmg hg args vals as hpre hlay hrd hwl hlo
  have KX := km_in_of Y
  km_tabs Y
  have X := (Ground.X G).1
  have V := (Ground.X G).2
  refine Ground.open G ?_
  intro T B D TE TW
  try (refine guard_noD D (by decide +kernel) ?_; clear D)
  km_lay T hmg ho hd cd
  clear hmg
  wrow_args hpre hlay hrd hwl hlo
  first | refine callC_kw (enter_call ?_) | refine enter_call ?_
  w_top on
  refine Mine.postG hT9 (fun _ _ => rfl) ?_
  w_call any ho hd hcd hD T F
  clear hd
  kn_ghosts F T
  k_drop
  rename IntsAre _ _ => hI
  rename Heap.IsList (ghostOf _ _) _ _ => hL0
  rename CodeHd _ (58, 54).1 _ => C58
  rename CodeHd _ (65, 61).1 _ => C65
  rename CellsAre _ _ _ => CA
  rename (Obj.data _ = _) => dS
  rename News _ _ _ _ => N0
  rename Fr _ _ _ _ => F0
  rename Top _ _ _ _ _ _ => TK
  rename Below _ _ _ _ => BK
  rename Frag.In _ (ghostOf _ _) => XK
  rename (61 < _ ∧ _) => l0
  replace C58 : CodeHd (ghostOf s₁.heap [(65, 61), (58, 54)]) 58 54 := C58
  replace C65 : CodeHd (ghostOf s₁.heap [(65, 61), (58, 54)]) 65 61 := C65
  rename List Int => ns
  rename List Value => vs
  replace F0 := fr_eq (m' := fun y => none) F0 (by intro y; rfl)
  clear CA hD B TE TW V X Y hT8 hcd ho
  generalize hgh : ghostOf s₁.heap [(65, 61), (58, 54)] = gh at *
  rename Obj => oS
  rename Heap => h1
  obtain ⟨ax, eax, hL1⟩ := nameAx hL0
  subst eax
  clear hL1
  replace dS : oS.data = .cell (some (.ref ax)) := dS
  refine foldQ ?_; intro qlaw
  refine foldE ?_; intro elaw
  refine foldM F0 ?_; clear F0; intro mfr0 F0
  ktn_open
  refine compGrow (by k_asm) (by with_unfolding_all rfl) (by rfl) (by decide) (by rfl) (by decide) (by rfl) (by rfl) (fun _ => rfl) ?_
  ktn_open
  rename Fr h1 _ _ _ => F1
  rename News h1 _ _ _ => N1
  refine callEnumList (News.isList N1 (.head _)) F1 N1 ?_
  intro h2 e it F2 N2 hei hLi hni hli hez h0i h0e hst
  (try dsimp only)
  refine selfEnumL rfl hei hli hst ?_
  obtain ⟨le, its, ele, eits, hst2⟩ := nameIts hst
  clear hst
  rename (s₁.heap.objs.size + 1 < _ ∧ _) => l1'
  subst ele
  have hits : ∀ (i : Nat) (v : Value), its[i]? = some v → ∃ z t, v = Value.int z t := by
    rw [eits]
    intro i v hv
    rcases i with _ | _ | i
    · exact ⟨_, _, (Option.some.inj hv).symm⟩
    · exact ⟨_, _, (Option.some.inj hv).symm⟩
    · simp at hv
  have hsz2 : its.size = 2 := by rw [eits]; rfl
  clear eits
  have EW := fun (a b : Str) (pa pb tp : Pos) (kk : Nat) (scope : Scope) (A : Around) (hA : A.handled = none) (hk : scope.kind = .function) (ha : scope.names.lookup a = some .local) (hb : scope.names.lookup b = some .local) (hab : a ≠ b) => CSrc.enumList (prog := PySem.Challenge.pw_to0083_01) (w := w) (A := A) (pa := pa) (pb := pb) (tp := tp) (kk := kk) (items := its) hA hei hli hk ha hb hab
  have hLe : @LT.lt Nat _ s₁.heap.objs.size le := Nat.lt_trans (Nat.lt_succ_self _) l1'.1
  refine ⟨e, [e, it, le], [e, it], _, _, _, fun i yv => ∃ z t, yv = .int z t, [(s₁.heap.objs.size + 1, oS), (61, tabObj #[]), (54, tabObj #[])], rfl, EW (Str.ofString "k") (Str.ofString "start") _ _ _ _ _ _ rfl rfl rfl rfl (by decide), (by rw [hsz2]; decide +kernel), ?hst, ?fp, ?F, ?N, ?nw, ?lw, ?h0, ?el, ?dn⟩
  case hst => exact hst2
  case F => exact F2
  case N => exact news_sub N2 (fun p hp => .tail _ hp)
  case fp => exact List.forall_mem_cons.mpr ⟨hez, List.forall_mem_cons.mpr ⟨Nat.lt_trans hei hez, List.forall_mem_cons.mpr ⟨Nat.lt_trans hli (Nat.lt_trans hei hez), fun _ hb => nomatch hb⟩⟩⟩
  case nw =>
    intro p hp hm
    have h9 := hni p (.tail _ hp)
    rcases List.mem_cons.mp hm with h | h
    · exact Nat.ne_of_lt (Nat.lt_trans h9 hei) h
    · exact Nat.ne_of_lt h9 (List.mem_singleton.mp h)
  case lw =>
    intro hm
    rcases List.mem_cons.mp hm with h | h
    · exact Nat.ne_of_lt (Nat.lt_trans hLi hei) h
    rcases List.mem_cons.mp h with h | h
    · exact Nat.ne_of_lt hLi h
    · exact Nat.ne_of_lt hLe (List.mem_singleton.mp h)
  case h0 => exact List.forall_mem_cons.mpr ⟨h0e, List.forall_mem_cons.mpr ⟨h0i, List.forall_mem_cons.mpr ⟨Heap.get?_none_of_le (Nat.le_trans F2.above (Nat.le_of_lt hLe)), fun _ hb => nomatch hb⟩⟩⟩
  case el =>
    clear F2 N2 EW
    have hvi : ∀ v, v ∈ vs.toArray → ∃ z t, v = Value.int z t := fun v hv => intsMem hI v (List.mem_toArray.mp hv)
    have hnl : ns.length ≤ sizeLine := by rw [sizeLine_eq]; omega
    rintro i C oC D ys own m₂ h tk E' hi hoC ⟨x, y, ⟨t, z, hz, hxy⟩, hm1, hm2⟩ hown F3 N3 hlt
    refine foldQ ?_; intro qloop5
    rw [hsz2] at hi
    obtain ⟨z0, tz, rfl⟩ := hits i z hz
    have hx := congrArg (fun a : Array Value => a[0]?) hxy
    have hy := congrArg (fun a : Array Value => a[1]?) hxy
    replace hx : x = Value.int ((i : Nat) : Int) t := Option.some.inj hx
    replace hy : y = Value.int z0 tz := Option.some.inj hy
    subst hx hy
    clear hxy
    replace N3 : News h1 s₁.heap.objs.size h ((s₁.heap.objs.size + 1, oS) :: (C, oC) :: (D, LCg.lst ys) :: (own ++ [(61, tabObj #[]), (54, tabObj #[])])) := news_sub N3 re4
    ktn_open
    k_dflt (refine' kmk_slice3_lit ?zF ?zN ?zl ?zp ?zq ?zk ?zo ?ze ?_ ?zs ?zt ?zz; (case zF => k_asm); (case zN => k_asm); (case zl => exact Fr.lst (by k_asm) hL0); (case zp => exact IsPart.int _ _); (case zq => exact IsPart.int _ _); (case zk => exact IsPart.int _ _); (case zo => decide); (case ze => exact rfl); (case zs => with_unfolding_all rfl); (case zt => intro _; with_unfolding_all rfl); (case zz => exact kmk_sz hI hnl))
    intro D' h' F' N' l1
    ktn_open
    refine sumList rfl (by k_asm) (by k_asm) (News.isList (by k_asm) (.head _)) (fun v hv => hvi v (pickMem (by simpa using hv))) ?_
    intro h'' tk'' zz tt F4 N4
    (try dsimp only)
    ktn_open
    · rename Fr h1 _ _ _ => F5
      exact F5
    · rename News h1 _ _ _ => N5
      exact news_sub N5 (fun p hp => .tail _ (re5 p hp))
  case dn =>
    clear F2 N2 EW
    intro D ys h tk hyl hG F3 N3 hnD
    rw [hsz2] at hyl
    obtain ⟨y1, y2, rfl⟩ : ∃ y1 y2, ys = [y1, y2] := by
      rcases ys with _ | ⟨y1, _ | ⟨y2, _ | ⟨y3, r⟩⟩⟩
      · simp at hyl
      · simp at hyl
      · exact ⟨y1, y2, rfl⟩
      · simp at hyl
    obtain ⟨z1, t1, rfl⟩ := hG 0 y1 rfl
    obtain ⟨z2, t2, rfl⟩ := hG 1 y2 rfl
    clear hG hits
    replace N3 : News h1 s₁.heap.objs.size h ((D, W.listOf [Value.int z1 t1, Value.int z2 t2].toArray 2) :: (54, tabObj #[]) :: (61, tabObj #[]) :: []) := news_sub N3 (by
      intro p hp
      rcases List.mem_cons.mp hp with rfl | hp
      · exact .head _
      rcases List.mem_cons.mp hp with rfl | hp
      · exact .tail _ (.tail _ (.tail _ (.head _)))
      · rw [List.mem_singleton.mp hp]; exact .tail _ (.tail _ (.head _)))
    ktn_open
    refine item_N (l := [_, _]) (by assumption) (.head _) (by decide) (by decide) rfl ?_
    obtain ⟨n, hn, hn4, hn7⟩ := cntOf z1
    ktn_open
    rw [hn]
    rename Fr h1 _ _ _ => F4
    rw [hn] at F4
    obtain ⟨hmp, hq1, hq2⟩ := cntN n hn4 hn7
    refine callsUse (classC w _ _ _ _ _ _ n _ (by omega)) (by k_asm) (by k_asm) (by k_asm) (by k_asm) (by k_asm) (by first | exact rfl | assumption) (by ktr_room) (by ktr_units) ?_
    intro r vr kr rws h4 tk4 F5 N5 hsub hvl hrows
    obtain ⟨v, hv, lr, kl, t5, t6, t7, t8, rfl, hmem⟩ := hrows n (Nat.le_refl _)
    (try dsimp only)
    ktn_open
    refine kba_turn (value' := PySem.Expr.Name (Str.ofString "x") ⟨0, 0, 0, 0⟩) (fun _ => rfl) ?_
    refine item_N (by assumption) (.head _) (by omega) (by omega) (by rw [Int.toNat_natCast]; exact hv) ?_
    ktn_open
    rename News h1 _ _ _ => N6
    refine kba_turn (value' := PySem.Expr.Name (Str.ofString "x") ⟨0, 0, 0, 0⟩) (fun _ => rfl) ?_
    refine item_N (l := [_, _, _, _]) N6 (.tail _ hmem) (by decide) (by decide) rfl ?_
    replace N6 := news_sub (l' := [(D, W.listOf [Value.int z1 t1, Value.int z2 t2].toArray 2), (54, tabObj #[]), (61, tabObj #[])]) N6 (fun p hp => .tail _ (hsub p hp))
    generalize hmn : (rowAt n).1 = mn at *
    clear hrows hmem hv hsub
    ktn_open
    refine item_N (l := [_, _]) (by assumption) (.head _) (by decide) (by decide) rfl ?_
    ktn_open
    obtain ⟨hu0, hu1⟩ := modOf (z := z2) hmp
    generalize hnu : z2.fmod mn = nu at *
    rename News h1 _ _ _ => N7
    refine callsUse (standC w _ _ _ _ _ [(54, tabObj #[]), (61, tabObj #[])] nu n _ _ (by omega)) (by k_asm) (by k_asm) (by k_asm) (news_sub N7 (fun p hp => .tail _ hp)) (by k_asm) (by first | exact rfl | assumption) (by ktr_room) (by ktr_units) ?_
    intro t9 h5 tk5 F8 N8
    have hok := okEvery hn4 hn7 hu0 (hmn ▸ hu1)
    obtain ⟨wl, hwl⟩ : ∃ wl, (stand n nu n).1 = wl := ⟨_, rfl⟩
    rw [hwl] at hok ⊢
    obtain ⟨wlen, wlc, wnu, wcame⟩ := okParts hok
    obtain ⟨sw, hsw⟩ : ∃ sw, sw = ofL wl := ⟨_, rfl⟩
    rw [← hsw]
    have hswl : sw.length = n := by rw [hsw, ofL_len, wlen]
    have hswl2 : sw.length ≤ 100 := by omega
    (try dsimp only)
    clear hok
    ktn_open
    refine wpAny_For ?_ (fun _ => rfl)
    ktn_open
    refine callsUse (movesC w _ _ _ _ _ _ sw _ hswl2) (by k_asm) (by k_asm) (by k_asm) (by k_asm) (by k_asm) (by first | exact rfl | assumption) (by ktr_room) (by ktr_units) ?_
    intro x9 vm nm h6 tk6 F9 N9 hvm hlt9
    (try dsimp only)
    ktn_open
    rename News h1 _ _ _ => N10
    rename Fr h1 _ _ _ => F10
    have hvml : vm.length ≤ 21 := by
      rw [hvm.length, hsw, moves_ofL, List.length_map]
      have := movesL_len wl
      omega
    refine kmk_add_lit (zs := .str sw t9 :: vm) F10 N10 (News.isList N10 (.tail _ (.head _))) (News.isList N10 (.head _)) rfl ?_ (by simp [sizeLine_eq]; omega)
    intro DZ h7 F11 N11 hltZ
    have hzs : StrsAre (.str sw t9 :: vm) ((wl :: movesL wl).map ofL) := by
      rw [List.map_cons, ← hsw, ← moves_ofL, ← hsw]
      exact .cons _ _ hvm
    have hzm := strs_mem hzs
    obtain ⟨zs, hzse⟩ : ∃ zs, zs = Value.str sw t9 :: vm := ⟨_, rfl⟩
    rw [← hzse] at hzm hzs N11
    clear hzse hvm N10
    replace N11 : News h1 s₁.heap.objs.size h7 ((DZ, W.listOf zs.toArray 0) :: (54, tabObj #[]) :: ([(61, tabObj #[])] ++ [])) := news_sub N11 (by
      intro p hp
      rcases List.mem_cons.mp hp with rfl | hp
      · exact .head _
      · exact .tail _ (.tail _ (.tail _ hp)))
    have hZ54 : @LT.lt Nat _ 54 DZ := hltZ (54, tabObj #[]) (.tail _ (.tail _ (.head _)))
    have hZ61 : @LT.lt Nat _ 61 DZ := hltZ (61, tabObj #[]) (.tail _ (.tail _ (.tail _ (.head _))))
    refine forListT rfl F11 N11 (fun i m₁ nx gens => AllBare gens ∧ ∃ (l61 : List (Addr × Obj)) (tc tm tn : Tok), Tab 61 51 d2q l61 ∧ nx = (DZ, W.listOf zs.toArray 0) :: (54, tabObj #[]) :: (l61 ++ []) ∧ m₁ (Str.ofString "sent") = some (.str sw t9) ∧ m₁ (Str.ofString "count") = some (.int (n : Nat) tc) ∧ m₁ (Str.ofString "many") = some (.int mn tm) ∧ m₁ (Str.ofString "number") = some (.int nu tn)) ?hJ (fun i m₁ nx g hj => by obtain ⟨-, l, _, _, _, -, rfl, -⟩ := hj; exact .head _) ?turn ?done
    case hJ => exact ⟨AllBare.of_eq hg, [(61, tabObj #[])], _, _, _, .inl rfl, rfl, rfl, rfl, rfl, rfl⟩
    case turn =>
      rintro I itO i v m₁ nx h tk gens E' hIlt hi hv ⟨hbare, l61, tc, tm, tn, h61, rfl, hm1, hm2, hm3, hm4⟩ hoff hic F₁ N₁
      refine foldQ ?_; intro qloop6
      obtain ⟨cw, tv, hcw, rfl⟩ := hzm v (List.mem_of_getElem? hv)
      obtain ⟨hmend, hfilt⟩ := wcame cw hcw
      obtain ⟨hcl, hcc⟩ := cameIn wlc hcw
      obtain ⟨sc, hsc⟩ : ∃ sc, sc = ofL cw := ⟨_, rfl⟩
      rw [← hsc]
      have hscl : sc.length = n := by rw [hsc, ofL_len, hcl, wlen]
      have hscl2 : sc.length ≤ 100 := by omega
      rw [put_eq hm1, put_eq hm2] at F₁
      ktn_open
      refine callsUse (movesC w _ _ _ _ _ _ sc _ hscl2) (by k_asm) (by k_asm) (by k_asm) (by k_asm) (by k_asm) (by first | exact rfl | assumption) (by ktr_room) (by ktr_units) ?_
      intro xa va na h8 tk8 F12 N12 hva hlta
      (try dsimp only)
      ktn_open
      rename Fr h1 _ _ _ => F13
      rename News h1 _ _ _ => N13
      have hval : va.length ≤ 21 := by
        rw [hva.length, hsc, moves_ofL, List.length_map]
        have := movesL_len cw
        omega
      refine kmk_add_lit (zs := .str sc tv :: va) F13 N13 (News.isList N13 (.tail _ (.head _))) (News.isList N13 (.head _)) rfl ?_ (by simp [sizeLine_eq]; omega)
      intro DA h9 F14 N14 hltA
      have has : StrsAre (.str sc tv :: va) ((cw :: movesL cw).map ofL) := by
        rw [List.map_cons, ← hsc, ← moves_ofL, ← hsc]
        exact .cons _ _ hva
      have hfv := strs_filter has
      rw [hfilt] at hfv
      obtain ⟨tf, vf, hfe, hfn⟩ := hfv.cons_inv
      obtain rfl := hfn.nil_inv
      rw [← hsw] at hfe
      have ham := strs_mem has
      have harl : (Value.str sc tv :: va).length ≤ 22 := by rw [List.length_cons]; omega
      obtain ⟨ar, hare⟩ : ∃ ar, ar = Value.str sc tv :: va := ⟨_, rfl⟩
      rw [← hare] at ham hfe harl N14
      clear hare hva has N13
      replace N14 : News h1 s₁.heap.objs.size h9 ((DA, W.listOf ar.toArray 0) :: (I, itO) :: (DZ, W.listOf zs.toArray 0) :: (54, tabObj #[]) :: (l61 ++ [])) := news_sub N14 (by
        intro p hp
        rcases List.mem_cons.mp hp with rfl | hp
        · exact .head _
        · exact .tail _ (.tail _ (.tail _ hp)))
      have hA54 : @LT.lt Nat _ 54 DA := hltA (54, tabObj #[]) (.tail _ (.tail _ (.tail _ (.tail _ (.head _)))))
      have hAI : @LT.lt Nat _ I DA := hltA (I, itO) (.tail _ (.tail _ (.head _)))
      have hI61 : @LT.lt Nat _ 61 I := Nat.lt_trans hZ61 (hIlt (DZ, _) (.head _))
      ktn_open
      rename News h1 _ _ _ => N15
      refine callsUse (mendC w _ _ _ _ _ l61 [(DA, W.listOf ar.toArray 0), (I, itO), (DZ, W.listOf zs.toArray 0), (54, tabObj #[])] h61 ?hr61 cw (by omega) hcc sc hsc _) (by k_asm) (by k_asm) (by k_asm) (news_sub N15 ?sub1) (by k_asm) (by first | exact rfl | assumption) (by ktr_room) (by ktr_units) ⟨C65, ?_⟩
      case hr61 => exact List.forall_mem_cons.mpr ⟨Nat.ne_of_gt (Nat.lt_trans hI61 hAI), List.forall_mem_cons.mpr ⟨Nat.ne_of_gt hI61, List.forall_mem_cons.mpr ⟨Nat.ne_of_gt hZ61, List.forall_mem_cons.mpr ⟨show @Ne Nat 54 61 by decide, fun _ hp => nomatch hp⟩⟩⟩⟩
      case sub1 =>
        intro p hp
        simp only [List.mem_append, List.mem_cons, List.append_nil, List.not_mem_nil, or_false] at hp ⊢
        rcases hp with hp | hp | hp | hp | hp <;> simp only [hp, true_or, or_true]
      intro l61' tm9 h10 tk10 h61' F16 N16
      rw [hmend, ← hsw]
      (try dsimp only)
      replace N16 : News h1 s₁.heap.objs.size h10 ((DA, W.listOf ar.toArray 0) :: (I, itO) :: (DZ, W.listOf zs.toArray 0) :: (54, tabObj #[]) :: (l61' ++ [])) := news_sub N16 (by
        intro p hp
        simp only [List.mem_append, List.mem_cons, List.append_nil, List.not_mem_nil, or_false] at hp ⊢
        rcases hp with hp | hp | hp | hp | hp <;> simp only [hp, true_or, or_true])
      ktn_open
      refine compFilter rfl evV (by k_asm) (by with_unfolding_all rfl) (by decide) (by rfl) (by decide) (by rfl) (fun _ => rfl) (by decide) ?_
      walk1
      rename Fr h1 _ _ _ => F17
      rename News h1 _ _ _ => N17
      refine ⟨DA, ar, 0, _, rfl, by rw [sizeLine_eq]; omega, F17, N17, .head _, ?tst, ?dn2⟩
      case tst =>
        clear F17
        rintro C oC v m₂ h g d tk o E'' hv hoC hmx F18 N18 hltC
        obtain ⟨aw, ta, haw, rfl⟩ := ham v hv
        have hal := (cameIn hcc haw).1
        obtain ⟨sa, hsa⟩ : ∃ sa, sa = ofL aw := ⟨_, rfl⟩
        rw [← hsa] at hmx
        rw [evV_of, evB_iff]
        refine foldQ ?_; intro qloop7
        have hsal : sa.length ≤ 100 := by rw [hsa, ofL_len]; omega
        have hcm : Txt.count sa (Str.ofString "m") = ((aw.count 109 : Nat) : Int) := by
          rw [hsa, show Str.ofString "m" = (⟨#[109]⟩ : Str) by decide +kernel]
          exact count_ofL aw 109
        have hcr : Txt.count sa (Str.ofString "r") = ((aw.count 114 : Nat) : Int) := by
          rw [hsa, show Str.ofString "r" = (⟨#[114]⟩ : Str) by decide +kernel]
          exact count_ofL aw 114
        ktn_open
        · rw [← hcm, ← hcr, decide_eq_true (by assumption), decide_eq_true (by assumption)]
          rfl
        · rw [← hcm, ← hcr, decide_eq_true (by assumption), decide_eq_false (by assumption)]
          rfl
        · rw [← hcm, decide_eq_false (by assumption)]
          rfl
      case dn2 =>
        clear F17 N17
        intro DF k9 h tk F18 N18 hneF
        rw [hfe] at N18
        replace N18 : News h1 s₁.heap.objs.size h ((DF, W.listOf #[Value.str sw tf] k9) :: (I, itO) :: (DZ, W.listOf zs.toArray 0) :: (54, tabObj #[]) :: (l61' ++ [])) := news_sub N18 (by
          intro p hp
          rcases List.mem_cons.mp hp with rfl | hp
          · exact .head _
          · exact .tail _ (.tail _ hp))
        have hself : (sw == sw) = true := beq_self_eq_true sw
        ktn_open
        rename News h1 _ _ _ => N19
        refine ne_dataH (reads_list_at (News.get N19 (.tail _ (.head _))) rfl rfl (.cons (.str _ _) .nil)) (reads_list_at (News.get N19 (.head _)) rfl rfl (.cons (.str _ _) .nil)) (by rw [hsw]; exact shapedOne wlc) (by rw [hsw]; exact shapedOne wlc) (by ke_room) ?_
        ke_norm
        clear N18
        ktn_open
        · rename (sw != sw) = true => hq
          rw [bne, hself] at hq
          cases hq
        have hoffI : ∀ {h' : Heap} {q1 q2 : Addr × Obj}, News h1 s₁.heap.objs.size h' (q1 :: q2 :: (I, itO) :: (DZ, W.listOf zs.toArray 0) :: (54, tabObj #[]) :: (l61' ++ [])) → ∀ p ∈ (DZ, W.listOf zs.toArray 0) :: (54, tabObj #[]) :: (l61' ++ []), p.1 ≠ I := fun Nq p hp => by
          rcases List.mem_cons.mp hp with rfl | hp
          · exact hoff _ (.head _)
          rcases List.mem_cons.mp hp with rfl | hp
          · exact hoff _ (.tail _ (.head _))
          · rcases List.mem_append.mp hp with hp | hp
            · exact tab_offI h61' Nq (fun q hq => .tail _ (.tail _ (.tail _ (.tail _ (.tail _ (List.mem_append.mpr (.inl hq))))))) (.tail _ (.tail _ (.head _))) hic.2 (Nat.ne_of_lt hI61) p hp
            · cases hp
        rcases List.mem_cons.mp hcw with hce | hcm
        · have hcs : sc = sw := by rw [hsc, hsw, hce]
          refine callsUse (levSame w _ _ _ _ _ _ sc sw _ _ _ hscl2 hswl2 (by rw [hcs]; exact hself)) (by k_asm) (by k_asm) (by k_asm) (by k_asm) (by k_asm) (by first | exact rfl | assumption) (by ktr_room) (by ktr_units) ?_
          intro h11 t11 tk11 F20 N20
          have hne : (sc != sw) = false := by rw [hcs, bne, hself]; rfl
          (try dsimp only)
          ktn_open
          · rename ((0 : Int) ≠ 2 * _) => hq
            rw [hne] at hq
            exact absurd (by decide) hq
          · rename Fr h1 _ _ _ => F21
            rename News h1 _ _ _ => N21
            exact Or.inl ⟨rfl, _, _, _, (DZ, W.listOf zs.toArray 0) :: (54, tabObj #[]) :: (l61' ++ []), _, rfl, F21, news_sub N21 (fun p hp => .tail _ (.tail _ hp)), hoffI N21, bareFin hbare _, l61', tc, tm, tn, h61', rfl, rfl, rfl, hm3, hm4⟩
        · obtain ⟨u, x, y, v, hwu, hcu, hxy, hxw, hyl⟩ := movesL_diff hcm
          have hne : (sc != sw) = true := by
            have h9 : (sc == sw) = false := by
              rw [hsc, hsw, ofL_beq, beq_eq_false_iff_ne]
              rw [hwu, hcu]
              intro h
              exact hxy (List.cons.inj (List.append_cancel_left h)).1.symm
            rw [bne, h9]
            rfl
          have huv : u.length + v.length ≤ 20 := by
            have := congrArg List.length hwu
            rw [List.length_append, List.length_cons] at this
            omega
          have hlo : (Txt.lower (ofL [x]) == Txt.lower (ofL [y])) = false := by
            have hx3 : x ∈ [108, 109, 114] := by simpa [inLmr] using wlc x hxw
            have h9 : ∀ x ∈ [108, 109, 114], ∀ y ∈ [108, 109, 114], x ≠ y → (Txt.lower (ofL [x]) == Txt.lower (ofL [y])) = false := by decide +kernel
            exact h9 x hx3 y hyl hxy
          refine callsUse (levT w _ _ _ _ _ _ sc sw _ _ _ u v y x (by rw [hsc, hcu]) (by rw [hsw, hwu]) (Ne.symm hxy) hlo huv) (by k_asm) (by k_asm) (by k_asm) (by k_asm) (by k_asm) (by first | exact rfl | assumption) (by ktr_room) (by ktr_units) ?_
          intro h11 t11 tk11 F20 N20
          (try dsimp only)
          ktn_open
          · rename ((2 : Int) ≠ 2 * _) => hq
            rw [hne] at hq
            exact absurd (by decide) hq
          · rename Fr h1 _ _ _ => F21
            rename News h1 _ _ _ => N21
            exact Or.inl ⟨rfl, _, _, _, (DZ, W.listOf zs.toArray 0) :: (54, tabObj #[]) :: (l61' ++ []), _, rfl, F21, news_sub N21 (fun p hp => .tail _ (.tail _ hp)), hoffI N21, bareFin hbare _, l61', tc, tm, tn, h61', rfl, rfl, rfl, hm3, hm4⟩
    case done =>
      rintro m' nx h tk gens ⟨hbare, l61, tc, tm, tn, h61, rfl, hm1, hm2, hm3, hm4⟩ F₁ N₁
      rw [put_eq hm1, put_eq hm2, put_eq hm3, put_eq hm4] at F₁
      replace N₁ : News h1 s₁.heap.objs.size h ([(54, tabObj #[])] ++ (l61 ++ [])) := news_sub N₁ (fun p hp => .tail _ hp)
      obtain ⟨l54, h54, hl54⟩ : ∃ l54, Tab 54 36 i2q l54 ∧ l54 = [(54, tabObj #[])] := ⟨_, .inl rfl, rfl⟩
      rw [← hl54] at N₁
      clear hl54
      ktn_open
      refine callsUse (numC w _ _ _ _ _ l54 l61 [] h54 h61 (fun _ hp => nomatch hp) (fun _ hp => nomatch hp) wl (by omega) wlc sw hsw _) (by k_asm) (by k_asm) (by k_asm) (by k_asm) (by k_asm) (by first | exact rfl | assumption) (by ktr_room) (by ktr_units) ⟨C58, C65, ?_⟩
      intro t20 l54a l61a h20 tk20 h54a h61a F20 N20
      rw [wlen, wnu]
      (try dsimp only)
      walk1
      walk1
      walk1
      rw [if_pos (beq_self_eq_true nu)]
      ktn_open
      refine callsUse (dmC3 w _ _ _ _ _ l54a l61a [] h54a h61a (fun _ hp => nomatch hp) (fun _ hp => nomatch hp) n (by omega) _ (by rw [Int.toNat_natCast]) _ _) (by k_asm) (by k_asm) (by k_asm) (by k_asm) (by k_asm) (by first | exact rfl | assumption) (by ktr_room) (by ktr_units) ⟨C58, C65, ?_⟩
      intro TT od osl nn t21 t22 l54b l61b h21 tk21 h54b h61b F21 N21
      rw [hq1, hq2] at N21
      (try dsimp only)
      ktn_open
      rename News h1 _ _ _ => N22
      refine eq_dataH (reads_tuple_at (News.get N22 (.tail _ (.head _))) rfl rfl (.cons (.int _ _) (.cons (.int _ _) .nil))) (reads_tuple_at (News.get N22 (.head _)) rfl rfl (.cons (.int _ _) (.cons (.int _ _) .nil))) (by rfl) (by rfl) (by ke_room) ?_
      ke_norm
      rename Fr h1 _ _ _ => F30
      rename News h1 _ _ _ => N30
      refine ⟨⟨goodW_bool F30 rfl (fun _ => rfl) ?post rfl, tabGrown h61b N30 ?m61, tabGrown h54b N30 ?m54, True.intro⟩, hbare⟩
      case m61 => exact fun p hp => .tail _ (.tail _ (List.mem_append.mpr (.inr (List.mem_append.mpr (.inl hp)))))
      case m54 => exact fun p hp => .tail _ (.tail _ (List.mem_append.mpr (.inl hp)))
      case post => kc_post)
end
end
end Mine
theorem PySem.Challenge.cw_to0083_01_holds : PySem.Challenge.rw_to0083_01.Holds :=
  Mine.lawT
