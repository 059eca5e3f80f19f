import PyProof.Rows.All
import Wide.All
import OpenK.AllK
import Wide.FinOn
import PySem.Challenge.RW_il0079_01
open PySem PySem.W PyProof.Rows PySem.Calls PySem.Spec
set_option Elab.async false
set_option rowWalk.seconds 0

namespace Mine
section
theorem three {A B C : Prop} (main : C) (_ : A) (_ : B) : C := main
-- the head: the law holds if the top runs as told (hd.1.1) and the law's call walks (hd.1.2)
set_option maxRecDepth 100000 in
set_option maxHeartbeats 8000000 in
noncomputable def hd : PSigma (fun T : Prop ×' Prop => T.1 ∧ T.2 → PySem.Challenge.rw_il0079_01.Holds) := by
  refine ⟨⟨?a, ?b⟩, fun both => ?m0⟩
  case m0 =>
    w_on
    refine holds_law (by kernel_rfl) fun said => ?_
    apply three
    rotate_left
    refine ?hl
    rotate_left
    refine ?hc
    case main =>
      k_head
      case hw => w_witness2
    exact both.2
    exact both.1
set_option maxRecDepth 100000 in
set_option maxHeartbeats 8000000 in
theorem hd_left : hd.1.1 := by
  intro w
  kernel_rfl
end
section
/-- what a call of the def at f promises: from any frame of a def, with the list objects of `need` on the ledger -/
noncomputable def Claim (w : World) (mean : ExcName → Option Value) (mg mb : Str → Option Value) (f : Addr) (d u z : Nat) (need : List (Addr × Obj)) (vs : List Value) (R : Value → Prop) : Prop :=
  ∀ (dp un : Nat) (gd : Option (List Code)) (cn : Str) (cs : Scope) (a : Addr) (ccd : Value) (cl : List (Str × Addr)) (outer : List Env) (A₀ : Around) (base h₀ : Heap) (L : Addr) (m : Str → Option Value) (news : List (Addr × Obj)) (s : Shared) (Q E : Value → Shared → Prop),
    Below A₀ base outer h₀ → Fr h₀ L s.heap m → (hd.heap_1 w.params).In h₀ → News h₀ L s.heap news → Top hd.view_1 [Str.ofString "_filemode_table"] mean mg mb h₀ → cs.kind = .function → (∀ p ∈ need, p ∈ news) →
    dp + d < recursionLimit → un + u < cLine → z ≤ s.toks →
    (∀ r h' tk', R r → Fr h₀ L h' m → News h₀ L h' news → Q r { s with heap := h', toks := tk' }) →
    wpAny (model PySem.Challenge.rw_il0079_01.row.prog w) (ktrTop dp un gd cn cs L a ccd cl outer) (call (.ref f) vs) Q E s

theorem claim_use {w : World} {mean : ExcName → Option Value} {mg mb : Str → Option Value} {f : Addr} {d u z : Nat} {need : List (Addr × Obj)} {vs : List Value} {R : Value → Prop}
    {dp un : Nat} {gd : Option (List Code)} {cn : Str} {cs : Scope} {a : Addr} {ccd : Value} {cl : List (Str × Addr)} {outer : List Env} {A₀ : Around} {base h₀ : Heap} {L : Addr} {m : Str → Option Value} {news : List (Addr × Obj)} {s : Shared} {Q E : Value → Shared → Prop}
    (C : Claim w mean mg mb f d u z need vs R) (B : Below A₀ base outer h₀) (F : Fr h₀ L s.heap m) (X : (hd.heap_1 w.params).In h₀) (N : News h₀ L s.heap news) (T : Top hd.view_1 [Str.ofString "_filemode_table"] mean mg mb h₀) (hk : cs.kind = .function) (hn : ∀ p ∈ need, p ∈ news)
    (hd : dp + d < recursionLimit) (hu : un + u < cLine) (ht : z ≤ s.toks) (ret : ∀ r h' tk', R r → Fr h₀ L h' m → News h₀ L h' news → Q r { s with heap := h', toks := tk' }) :
    wpAny (model PySem.Challenge.rw_il0079_01.row.prog w) (ktrTop dp un gd cn cs L a ccd cl outer) (call (.ref f) vs) Q E s :=
  C dp un gd cn cs a ccd cl outer A₀ base h₀ L m news s Q E B F X N T hk hn hd hu ht ret

noncomputable def TNext (M : Model) (A : Around) (rest : List Stmt) (env : Env) (Q : Flow → Shared → Prop) (E : Value → Shared → Prop) (f : Flow) (s' : Shared) : Prop :=
  0 < s'.toks → match f with | .next => wpAny M A (execs rest env) Q E s' | f => Q f s'
theorem execs_cons_t {M : Model} {A : Around} {E : Value → Shared → Prop} {s : Shared} {env : Env} {st : Stmt} {rest : List Stmt} {Q : Flow → Shared → Prop} (ht : 0 < s.toks) (h : wpAny M A (exec st env) (TNext M A rest env Q E) E s) : wpAny M A (execs (st :: rest) env) Q E s := by
  refine wpAny_with_toks (n := 1) ht (wpAny_execs_cons (wpAny_mono (wpAny_toks_of (n := 1) ht h) (fun f s' hf => ?_) fun e s' he _ => he.2))
  have := hf.2 hf.1
  cases f with
  | next => exact wpAny_mono this (fun _ _ x _ => x) fun _ _ x _ => x
  | brk => exact fun _ => this
  | cont => exact fun _ => this
  | ret v => exact fun _ => this
theorem tnext_next {M : Model} {A : Around} {E : Value → Shared → Prop} {env : Env} {rest : List Stmt} {Q : Flow → Shared → Prop} {h : Heap} {g : Array GenState} {d : Drawn} {t : Nat} {os : OsState}
    (k : ∀ tk, 0 < tk → wpAny M A (execs rest env) Q E ⟨h, g, d, tk, os⟩) : TNext M A rest env Q E .next ⟨h, g, d, t, os⟩ := fun ht => k t ht
theorem tnext_ret {M : Model} {A : Around} {E : Value → Shared → Prop} {env : Env} {rest : List Stmt} {Q : Flow → Shared → Prop} {s : Shared} {v : Value} (k : Q (.ret v) s) : TNext M A rest env Q E (.ret v) s := fun _ => k
theorem tnext_brk {M : Model} {A : Around} {E : Value → Shared → Prop} {env : Env} {rest : List Stmt} {Q : Flow → Shared → Prop} {s : Shared} (k : Q .brk s) : TNext M A rest env Q E .brk s := fun _ => k
theorem tnext_cont {M : Model} {A : Around} {E : Value → Shared → Prop} {env : Env} {rest : List Stmt} {Q : Flow → Shared → Prop} {s : Shared} (k : Q .cont s) : TNext M A rest env Q E .cont s := fun _ => k

noncomputable def stalkN (u : Int) : Int := if 0 < u then 1 else Int.fdiv (-u) 64 + 2
noncomputable def stalk (u : Int) : Int := Int.fdiv (u + 64 * stalkN u) (2 ^ (stalkN u - 1).toNat)
end
section
theorem stalk_at {u n : Int} (h1 : -5000 < u) (h2 : u < 5000) (a : 1 ≤ n) (b : n = 1 ∨ u + 64 * (n - 1) ≤ 64) (c : ¬ u + 64 * n ≤ 64) : n = stalkN u := by
  unfold stalkN
  have := fdiv_fmod_facts (-u) 64
  split <;> omega
theorem stalk_end {u n : Int} {t : Tok} (h1 : -5000 < u) (h2 : u < 5000) (a : 1 ≤ n) (b : n = 1 ∨ u + 64 * (n - 1) ≤ 64) (c : ¬ u + 64 * n ≤ 64) : ∃ t', Value.int (Int.fdiv (u + 64 * n) (2 ^ (n - 1).toNat)) t = .int (stalk u) t' := by
  have e := stalk_at h1 h2 a b c
  subst e
  exact ⟨t, rfl⟩
set_option maxRecDepth 100000 in
set_option maxHeartbeats 8000000 in
theorem stalk_spec (w : World) (mean : ExcName → Option Value) (mg mb : Str → Option Value) (u : Int) (t : Tok) (h1 : -5000 < u) (h2 : u < 5000) :
    Claim w mean mg mb 235 1 8 0 [] [.int u t] (fun v => ∃ t', v = .int (stalk u) t') := by
  unfold Claim
  intro dp un gd cn cs a ccd cl outer A₀ base h₀ L m news s Q E B F X N T hk hn hdp hun htk hret
  w_top off
  k_with_none
  have kf : PySem.Challenge.rw_il0079_01 = PySem.Challenge.rw_il0079_01 ∧ hd.heap_1 w.params = hd.heap_1 w.params := by (k_fill; exact ⟨rfl, rfl⟩)
  clear kf
  k_with "exec While Compare cons nil" => k_while (fun _ n => 1 ≤ n ∧ n < 100 ∧ (n = 1 ∨ u + 64 * (n - 1) ≤ 64)) (fun _ n => (100 - n).toNat) "n"
  refine wpAny_call ?_
  k_dflt cell_enter
  k_steps
  all_goals exact hret _ _ _ (stalk_end h1 h2 (by assumption) (by assumption) (by assumption)) (by k_asm) (by k_asm)
end
section
/-! texts: replace of one sign, the spelled text -/
noncomputable def sub1 (c : Nat) (z l : List Nat) : List Nat := l.flatMap fun a => if a = c then z else [a]
theorem sub1_append (c : Nat) (z a b : List Nat) : sub1 c z (a ++ b) = sub1 c z a ++ sub1 c z b := by simp [sub1]
theorem sub1_free (c : Nat) (z : List Nat) : ∀ l : List Nat, c ∉ l → sub1 c z l = l
  | [], _ => rfl
  | a :: r, h => by
    have h1 : a ≠ c := fun e => h (e ▸ .head _)
    have ih := sub1_free c z r fun hm => h (.tail _ hm)
    simp only [sub1, List.flatMap_cons, if_neg h1] at ih ⊢
    rw [ih]; rfl
theorem sub1_one (c : Nat) (z : List Nat) : sub1 c z [c] = z := by simp [sub1]
theorem sub1_join (c : Nat) (z : Str) : ∀ parts : List Str, (∀ p ∈ parts, c ∉ p.cps.toList) → (Str.join z parts).cps.toList = sub1 c z.cps.toList (Str.join ⟨#[c]⟩ parts).cps.toList
  | [], _ => rfl
  | [x], h => by
    show x.cps.toList = sub1 c z.cps.toList x.cps.toList
    rw [sub1_free _ _ _ (h x (.head _))]
  | x :: y :: r, h => by
    have ih := sub1_join c z (y :: r) fun p hp => h p (.tail _ hp)
    show (x ++ z ++ Str.join z (y :: r)).cps.toList = sub1 c z.cps.toList (x ++ ⟨#[c]⟩ ++ Str.join ⟨#[c]⟩ (y :: r)).cps.toList
    simp only [Str.cps_append, Array.toList_append, sub1_append, ih]
    rw [sub1_free _ _ _ (h x (.head _))]
    show _ = x.cps.toList ++ sub1 c z.cps.toList [c] ++ _
    rw [sub1_one]
theorem replace_list (x z : Str) (c : Nat) : (Txt.replace x ⟨#[c]⟩ z).cps.toList = sub1 c z.cps.toList x.cps.toList := by
  rw [StrLaws.replace_one, sub1_join c z _ (StrLaws.split_free x c), StrLaws.join_split]
theorem replace_absent (x z : Str) (c : Nat) (h : c ∉ x.cps.toList) : Txt.replace x ⟨#[c]⟩ z = x := by
  apply Str.ext'
  apply Array.ext'
  rw [replace_list, sub1_free _ _ _ h]

/-- what a sign is written as: w = 0 the plain escape, 1 the canonical one, 2 the html one -/
noncomputable def sgn (w : Int) (a : Nat) : List Nat :=
  if a = 38 then [38, 97, 109, 112, 59] else if a = 34 then [38, 113, 117, 111, 116, 59]
  else if a = 60 ∧ w ≠ 2 then [38, 108, 116, 59] else if a = 62 ∧ w ≠ 1 then [38, 103, 116, 59] else [a]
noncomputable def spellL (w : Int) (l : List Nat) : List Nat := l.flatMap (sgn w)
noncomputable def spellS (w : Int) (x : Str) : Str := ⟨(spellL w x.cps.toList).toArray⟩
/-- no sign that the law's texts lack: 9, 10, 13 -/
noncomputable def Tame (x : Str) : Prop := ∀ a ∈ x.cps.toList, a ≠ 9 ∧ a ≠ 10 ∧ a ≠ 13

noncomputable def escA (l : List Nat) : List Nat := sub1 9 [38, 35, 48, 57, 59] (sub1 10 [38, 35, 49, 48, 59] (sub1 13 [38, 35, 49, 51, 59] (sub1 34 [38, 113, 117, 111, 116, 59] (sub1 62 [38, 103, 116, 59] (sub1 60 [38, 108, 116, 59] (sub1 38 [38, 97, 109, 112, 59] l))))))
noncomputable def escH (l : List Nat) : List Nat := sub1 34 [38, 113, 117, 111, 116, 59] (sub1 62 [38, 103, 116, 59] (sub1 38 [38, 97, 109, 112, 59] l))
noncomputable def escC (l : List Nat) : List Nat := sub1 13 [38, 35, 120, 68, 59] (sub1 10 [38, 35, 120, 65, 59] (sub1 9 [38, 35, 120, 57, 59] (sub1 34 [38, 113, 117, 111, 116, 59] (sub1 60 [38, 108, 116, 59] (sub1 38 [38, 97, 109, 112, 59] l)))))
theorem escA_cons (a : Nat) (l : List Nat) : escA (a :: l) = escA [a] ++ escA l := by
  show escA ([a] ++ l) = _
  simp only [escA, sub1_append]
theorem escH_cons (a : Nat) (l : List Nat) : escH (a :: l) = escH [a] ++ escH l := by
  show escH ([a] ++ l) = _
  simp only [escH, sub1_append]
theorem escC_cons (a : Nat) (l : List Nat) : escC (a :: l) = escC [a] ++ escC l := by
  show escC ([a] ++ l) = _
  simp only [escC, sub1_append]
theorem escA_one (a : Nat) (h : a ≠ 9 ∧ a ≠ 10 ∧ a ≠ 13) : escA [a] = sgn 0 a := by
  by_cases h1 : a = 38
  · subst h1; decide
  by_cases h2 : a = 34
  · subst h2; decide
  by_cases h3 : a = 60
  · subst h3; decide
  by_cases h4 : a = 62
  · subst h4; decide
  simp [escA, sub1, sgn, h1, h2, h3, h4, h.1, h.2.1, h.2.2]
theorem escH_one (a : Nat) : escH [a] = sgn 2 a := by
  by_cases h1 : a = 38
  · subst h1; decide
  by_cases h2 : a = 34
  · subst h2; decide
  by_cases h4 : a = 62
  · subst h4; decide
  simp [escH, sub1, sgn, h1, h2, h4]
theorem escC_one (a : Nat) (h : a ≠ 9 ∧ a ≠ 10 ∧ a ≠ 13) : escC [a] = sgn 1 a := by
  by_cases h1 : a = 38
  · subst h1; decide
  by_cases h2 : a = 34
  · subst h2; decide
  by_cases h3 : a = 60
  · subst h3; decide
  simp [escC, sub1, sgn, h1, h2, h3, h.1, h.2.1, h.2.2]
theorem escA_eq : ∀ l : List Nat, (∀ a ∈ l, a ≠ 9 ∧ a ≠ 10 ∧ a ≠ 13) → escA l = spellL 0 l
  | [], _ => rfl
  | a :: l, h => by
    rw [escA_cons, escA_one a (h a (.head _)), escA_eq l fun b hb => h b (.tail _ hb)]; rfl
theorem escH_eq : ∀ l : List Nat, escH l = spellL 2 l
  | [] => rfl
  | a :: l => by rw [escH_cons, escH_one a, escH_eq l]; rfl
theorem escC_eq : ∀ l : List Nat, (∀ a ∈ l, a ≠ 9 ∧ a ≠ 10 ∧ a ≠ 13) → escC l = spellL 1 l
  | [], _ => rfl
  | a :: l, h => by
    rw [escC_cons, escC_one a (h a (.head _)), escC_eq l fun b hb => h b (.tail _ hb)]; rfl

theorem sgn_len (w : Int) (a : Nat) : (sgn w a).length ≤ 6 := by
  unfold sgn
  split
  · decide
  split
  · decide
  split
  · decide
  split
  · decide
  · simp
theorem spellL_len (w : Int) : ∀ l : List Nat, (spellL w l).length ≤ 6 * l.length
  | [] => Nat.zero_le _
  | a :: l => by
    have := spellL_len w l
    have := sgn_len w a
    simp only [spellL, List.flatMap_cons, List.length_append, List.length_cons] at *
    omega
theorem spellS_len (w : Int) (x : Str) : (spellS w x).length ≤ 6 * x.length := by
  have := spellL_len w x.cps.toList
  simpa [spellS, Str.length] using this
theorem spellS_toList (w : Int) (x : Str) : (spellS w x).cps.toList = spellL w x.cps.toList := by simp [spellS]
theorem spellL_append (w : Int) (a b : List Nat) : spellL w (a ++ b) = spellL w a ++ spellL w b := by simp [spellL]
theorem str_ext {x y : Str} (h : x.cps.toList = y.cps.toList) : x = y := Str.ext' (Array.ext' h)
theorem len_eq (x : Str) : x.length = x.cps.toList.length := by simp [Str.length]
theorem sub1_len (c : Nat) (z : List Nat) (n : Nat) (hz : z.length ≤ n) (hn : 1 ≤ n) : ∀ l : List Nat, (sub1 c z l).length ≤ n * l.length
  | [] => Nat.zero_le _
  | a :: l => by
    have ih := sub1_len c z n hz hn l
    have e : sub1 c z (a :: l) = (if a = c then z else [a]) ++ sub1 c z l := by simp [sub1]
    rw [e, List.length_append, List.length_cons, Nat.mul_succ]
    have : (if a = c then z else [a]).length ≤ n := by
      split
      · exact hz
      · exact hn
    omega
end
section
local macro_rules | `(tactic| walk_at "no key 0") => `(tactic| fail)
section
variable {prog : Program} {w : World} {A : Around} {E : Value → Shared → Prop} {s : Shared} {name : Str} {scope : Scope} {L a : Addr} {cd : Value} {h₀ : Heap} {m : Str → Option Value} {news : List (Addr × Obj)} {Q : Flow → Shared → Prop}
theorem if_replace {x : Str} {t : Tok} {c : Nat} {cs zs : String} {k1 k2 k3 : Nat} {p1 p2 p3 p4 p5 p6 p7 p8 p9 p10 p11 : Pos} (F : Fr h₀ L s.heap m) (N : News h₀ L s.heap news) (hm : m (Str.ofString "text") = some (.str x t)) (ht : 0 < s.toks) (hx : x.length ≤ 1000000)
    (hk : scope.kind = .function) (hl : (envOf name scope L a cd).kindOf (Str.ofString "text") = some .local) (hc : Str.ofString cs = ⟨#[c]⟩) (hz : (Str.ofString zs).length ≤ 14) (hcz : ((⟨#[c]⟩ : Str) == Str.ofString zs) = false)
    (hline : (p6.endLine == p9.line) = true)
    (h : ∀ t' h' tk', 0 < tk' → Fr h₀ L h' (fun y => if y = Str.ofString "text" then some (.str (Txt.replace x ⟨#[c]⟩ (Str.ofString zs)) t') else m y) → News h₀ L h' news → Q .next { s with heap := h', toks := tk' }) :
    wpAny (model prog w) A (exec (.If (.Compare (.Constant (.str (Str.ofString cs)) k1 p1) [.In] [.Name (Str.ofString "text") p2] p3)
      [.Assign [.Name (Str.ofString "text") p4] (.Call (.Attribute (.Name (Str.ofString "text") p5) (Str.ofString "replace") p6) [.Constant (.str (Str.ofString cs)) k2 p7, .Constant (.str (Str.ofString zs)) k3 p8] [] p9) p10] [] p11) (envOf name scope L a cd)) Q E s := by
  refine wpAny_If ?_
  refine wpAny_isTrue_Compare1 ?_
  refine Calls.Constant_str ?_
  refine ld F hm ?_ hk hl
  refine in_str ?_
  refine wpAny_truthy_bool ?_
  rw [hc, StrLaws.found_one]
  by_cases hin : c ∈ x.cps.toList
  · simp only [hin, decide_true, if_true]
    refine wpAny_execs_cons ?_
    refine wpAny_Assign_Name ?_
    refine wpAny_Call_method_lateS rfl rfl hline ?_
    refine ld F hm ?_ hk hl
    refine ⟨"str", "str.replace", PySem.F.plainAttrs_str, PySem.F.slot_str_replace, PySem.F.type_str_replace, typeIs_str _ _ _, (fun _ e => nomatch e), ?_⟩
    refine callWith_method1 ?_
    refine args_cons ?_
    refine Calls.Constant_str ?_
    refine args_cons ?_
    refine Calls.Constant_str ?_
    refine args_nil ?_
    simp only [List.cons_append, List.nil_append]
    refine wpAny_with_toks (n := 1) (Nat.le_add_left 1 _) ?_
    refine SC.replaceW (Nat.ne_of_gt (Nat.lt_of_lt_of_le ht (Nat.le_add_right _ 1))) (Nat.succ_ne_zero _) (Nat.ne_of_lt (Nat.lt_succ_self _)) hcz (by omega) hz ?_
    intro t' k hk1
    refine stN F N ?_ hk hl
    intro h' F' N'
    refine wpAny_execs_nil ?_
    exact h t' h' _ (Nat.succ_pos _) F' N'
  · simp only [hin, decide_false, Bool.false_eq_true, if_false]
    refine wpAny_execs_nil ?_
    have e : m = fun y => if y = Str.ofString "text" then some (.str (Txt.replace x ⟨#[c]⟩ (Str.ofString zs)) t) else m y := by
      funext y
      by_cases hy : y = Str.ofString "text"
      · subst hy; rw [if_pos rfl, replace_absent _ _ _ hin, hm]
      · rw [if_neg hy]
    exact h t _ _ (by omega) (e ▸ F) N
end

theorem replace_len {x : Str} {c : Nat} {zs : String} {n k : Nat} (hx : x.length ≤ n) (hz : (Str.ofString zs).length ≤ k) (hk : 1 ≤ k) : (Txt.replace x ⟨#[c]⟩ (Str.ofString zs)).length ≤ k * n := by
  rw [len_eq, replace_list]
  have := sub1_len c (Str.ofString zs).cps.toList k (by rw [← len_eq]; exact hz) hk x.cps.toList
  rw [← len_eq] at this
  exact Nat.le_trans this (Nat.mul_le_mul_left _ hx)
theorem lit (cs : String) (l : List Nat) (h : Str.ofString cs = ⟨l.toArray⟩) : (Str.ofString cs).cps.toList = l := by rw [h]
theorem esc0_law {x : Str} (h : Tame x) : (Txt.replace (Txt.replace (Txt.replace (Txt.replace (Txt.replace (Txt.replace (Txt.replace x ⟨#[38]⟩ (Str.ofString "&amp;")) ⟨#[60]⟩ (Str.ofString "&lt;")) ⟨#[62]⟩ (Str.ofString "&gt;")) ⟨#[34]⟩ (Str.ofString "&quot;")) ⟨#[13]⟩ (Str.ofString "&#13;")) ⟨#[10]⟩ (Str.ofString "&#10;")) ⟨#[9]⟩ (Str.ofString "&#09;")) = spellS 0 x := by
  apply str_ext
  rw [spellS_toList, ← escA_eq _ h]
  simp only [replace_list, show (Str.ofString "&amp;").cps.toList = [38, 97, 109, 112, 59] from by decide, show (Str.ofString "&lt;").cps.toList = [38, 108, 116, 59] from by decide, show (Str.ofString "&gt;").cps.toList = [38, 103, 116, 59] from by decide, show (Str.ofString "&quot;").cps.toList = [38, 113, 117, 111, 116, 59] from by decide, show (Str.ofString "&#13;").cps.toList = [38, 35, 49, 51, 59] from by decide, show (Str.ofString "&#10;").cps.toList = [38, 35, 49, 48, 59] from by decide, show (Str.ofString "&#09;").cps.toList = [38, 35, 48, 57, 59] from by decide]
  rfl
theorem escH_law (x : Str) : (Txt.replace (Txt.replace (Txt.replace x ⟨#[38]⟩ (Str.ofString "&amp;")) ⟨#[62]⟩ (Str.ofString "&gt;")) ⟨#[34]⟩ (Str.ofString "&quot;")) = spellS 2 x := by
  apply str_ext
  rw [spellS_toList, ← escH_eq]
  simp only [replace_list, show (Str.ofString "&amp;").cps.toList = [38, 97, 109, 112, 59] from by decide, show (Str.ofString "&gt;").cps.toList = [38, 103, 116, 59] from by decide, show (Str.ofString "&quot;").cps.toList = [38, 113, 117, 111, 116, 59] from by decide]
  rfl
theorem escC_law {x : Str} (h : Tame x) : (Txt.replace (Txt.replace (Txt.replace (Txt.replace (Txt.replace (Txt.replace x ⟨#[38]⟩ (Str.ofString "&amp;")) ⟨#[60]⟩ (Str.ofString "&lt;")) ⟨#[34]⟩ (Str.ofString "&quot;")) ⟨#[9]⟩ (Str.ofString "&#x9;")) ⟨#[10]⟩ (Str.ofString "&#xA;")) ⟨#[13]⟩ (Str.ofString "&#xD;")) = spellS 1 x := by
  apply str_ext
  rw [spellS_toList, ← escC_eq _ h]
  simp only [replace_list, show (Str.ofString "&amp;").cps.toList = [38, 97, 109, 112, 59] from by decide, show (Str.ofString "&lt;").cps.toList = [38, 108, 116, 59] from by decide, show (Str.ofString "&quot;").cps.toList = [38, 113, 117, 111, 116, 59] from by decide, show (Str.ofString "&#x9;").cps.toList = [38, 35, 120, 57, 59] from by decide, show (Str.ofString "&#xA;").cps.toList = [38, 35, 120, 65, 59] from by decide, show (Str.ofString "&#xD;").cps.toList = [38, 35, 120, 68, 59] from by decide]
  rfl
set_option maxRecDepth 100000 in
set_option maxHeartbeats 8000000 in
theorem esc_spec (w : World) (mean : ExcName → Option Value) (mg mb : Str → Option Value) (x : Str) (t : Tok) (hx : x.length ≤ 20) (htm : Tame x) :
    Claim w mean mg mb 35 1 8 1 [] [.str x t] (fun v => ∃ t', v = .str (spellS 0 x) t') := by
  unfold Claim
  intro dp un gd cn cs a ccd cl outer A₀ base h₀ L m news s Q E B F X N T hk hn hdp hun htk hret
  w_top off
  k_with_none
  have kf : PySem.Challenge.rw_il0079_01 = PySem.Challenge.rw_il0079_01 ∧ hd.heap_1 w.params = hd.heap_1 w.params := by (k_fill; exact ⟨rfl, rfl⟩)
  clear kf
  refine wpAny_call ?_
  k_dflt cell_enter
  refine wpAny_execs_cons ?_
  refine wpAny_Try_except ?_
  rename Fr _ _ _ _ => F0
  rename News _ _ _ _ => N0
  have ht0 := Nat.lt_of_lt_of_le htk (Nat.le_add_right s.toks 1)
  have l0 := hx
  refine wpAny_execs_cons ?_
  refine if_replace (c := 38) F0 N0 rfl (Nat.lt_of_lt_of_le htk (Nat.le_add_right _ _)) (by omega) rfl rfl (by decide) (by decide) (by decide) rfl ?_
  clear ht0; intro t1 h1 k1 ht1 F1 N1
  have l1 := replace_len (c := 38) (zs := "&amp;") (k := 5) l0 (by decide) (by decide)
  clear F0 N0
  refine wpAny_execs_cons ?_
  refine if_replace (c := 60) F1 N1 rfl ht1 (by omega) rfl rfl (by decide) (by decide) (by decide) rfl ?_
  intro t2 h2 k2 ht2 F2 N2
  have l2 := replace_len (c := 60) (zs := "&lt;") (k := 6) l1 (by decide) (by decide)
  clear F1 N1
  refine wpAny_execs_cons ?_
  refine if_replace (c := 62) F2 N2 rfl ht2 (by omega) rfl rfl (by decide) (by decide) (by decide) rfl ?_
  intro t3 h3 k3 ht3 F3 N3
  have l3 := replace_len (c := 62) (zs := "&gt;") (k := 6) l2 (by decide) (by decide)
  clear F2 N2
  refine wpAny_execs_cons ?_
  refine if_replace (c := 34) F3 N3 rfl ht3 (by omega) rfl rfl (by decide) (by decide) (by decide) rfl ?_
  intro t4 h4 k4 ht4 F4 N4
  have l4 := replace_len (c := 34) (zs := "&quot;") (k := 6) l3 (by decide) (by decide)
  clear F3 N3
  refine wpAny_execs_cons ?_
  refine if_replace (c := 13) F4 N4 rfl ht4 (by omega) rfl rfl (by decide) (by decide) (by decide) rfl ?_
  intro t5 h5 k5 ht5 F5 N5
  have l5 := replace_len (c := 13) (zs := "&#13;") (k := 6) l4 (by decide) (by decide)
  clear F4 N4
  refine wpAny_execs_cons ?_
  refine if_replace (c := 10) F5 N5 rfl ht5 (by omega) rfl rfl (by decide) (by decide) (by decide) rfl ?_
  intro t6 h6 k6 ht6 F6 N6
  have l6 := replace_len (c := 10) (zs := "&#10;") (k := 6) l5 (by decide) (by decide)
  clear F5 N5
  refine wpAny_execs_cons ?_
  refine if_replace (c := 9) F6 N6 rfl ht6 (by omega) rfl rfl (by decide) (by decide) (by decide) rfl ?_
  intro t7 h7 k7 ht7 F7 N7
  have l7 := replace_len (c := 9) (zs := "&#09;") (k := 6) l6 (by decide) (by decide)
  clear F6 N6
  k_steps
  all_goals exact hret _ _ _ ⟨_, congrArg (fun y => Value.str y _) (esc0_law htm)⟩ (by k_asm) (by k_asm)

set_option maxRecDepth 100000 in
set_option maxHeartbeats 8000000 in
theorem escH_spec (w : World) (mean : ExcName → Option Value) (mg mb : Str → Option Value) (x : Str) (t : Tok) (hx : x.length ≤ 20) (htm : Tame x) :
    Claim w mean mg mb 42 1 8 1 [] [.str x t] (fun v => ∃ t', v = .str (spellS 2 x) t') := by
  unfold Claim
  intro dp un gd cn cs a ccd cl outer A₀ base h₀ L m news s Q E B F X N T hk hn hdp hun htk hret
  w_top off
  k_with_none
  have kf : PySem.Challenge.rw_il0079_01 = PySem.Challenge.rw_il0079_01 ∧ hd.heap_1 w.params = hd.heap_1 w.params := by (k_fill; exact ⟨rfl, rfl⟩)
  clear kf
  refine wpAny_call ?_
  k_dflt cell_enter
  refine wpAny_execs_cons ?_
  refine wpAny_Try_except ?_
  rename Fr _ _ _ _ => F0
  rename News _ _ _ _ => N0
  have ht0 := Nat.lt_of_lt_of_le htk (Nat.le_add_right s.toks 1)
  have l0 := hx
  refine wpAny_execs_cons ?_
  refine if_replace (c := 38) F0 N0 rfl (Nat.lt_of_lt_of_le htk (Nat.le_add_right _ _)) (by omega) rfl rfl (by decide) (by decide) (by decide) rfl ?_
  clear ht0; intro t1 h1 k1 ht1 F1 N1
  have l1 := replace_len (c := 38) (zs := "&amp;") (k := 5) l0 (by decide) (by decide)
  clear F0 N0
  refine wpAny_execs_cons ?_
  refine if_replace (c := 62) F1 N1 rfl ht1 (by omega) rfl rfl (by decide) (by decide) (by decide) rfl ?_
  intro t2 h2 k2 ht2 F2 N2
  have l2 := replace_len (c := 62) (zs := "&gt;") (k := 6) l1 (by decide) (by decide)
  clear F1 N1
  refine wpAny_execs_cons ?_
  refine if_replace (c := 34) F2 N2 rfl ht2 (by omega) rfl rfl (by decide) (by decide) (by decide) rfl ?_
  intro t3 h3 k3 ht3 F3 N3
  have l3 := replace_len (c := 34) (zs := "&quot;") (k := 6) l2 (by decide) (by decide)
  clear F2 N2
  k_steps
  all_goals exact hret _ _ _ ⟨_, congrArg (fun y => Value.str y _) (escH_law x)⟩ (by k_asm) (by k_asm)

set_option maxRecDepth 100000 in
set_option maxHeartbeats 8000000 in
theorem escC_spec (w : World) (mean : ExcName → Option Value) (mg mb : Str → Option Value) (x : Str) (t : Tok) (hx : x.length ≤ 20) (htm : Tame x) :
    Claim w mean mg mb 49 1 8 1 [] [.str x t] (fun v => ∃ t', v = .str (spellS 1 x) t') := by
  unfold Claim
  intro dp un gd cn cs a ccd cl outer A₀ base h₀ L m news s Q E B F X N T hk hn hdp hun htk hret
  w_top off
  k_with_none
  have kf : PySem.Challenge.rw_il0079_01 = PySem.Challenge.rw_il0079_01 ∧ hd.heap_1 w.params = hd.heap_1 w.params := by (k_fill; exact ⟨rfl, rfl⟩)
  clear kf
  refine wpAny_call ?_
  k_dflt cell_enter
  refine wpAny_execs_cons ?_
  refine wpAny_Try_except ?_
  rename Fr _ _ _ _ => F0
  rename News _ _ _ _ => N0
  have ht0 := Nat.lt_of_lt_of_le htk (Nat.le_add_right s.toks 1)
  have l0 := hx
  refine wpAny_execs_cons ?_
  refine if_replace (c := 38) F0 N0 rfl (Nat.lt_of_lt_of_le htk (Nat.le_add_right _ _)) (by omega) rfl rfl (by decide) (by decide) (by decide) rfl ?_
  clear ht0; intro t1 h1 k1 ht1 F1 N1
  have l1 := replace_len (c := 38) (zs := "&amp;") (k := 5) l0 (by decide) (by decide)
  clear F0 N0
  refine wpAny_execs_cons ?_
  refine if_replace (c := 60) F1 N1 rfl ht1 (by omega) rfl rfl (by decide) (by decide) (by decide) rfl ?_
  intro t2 h2 k2 ht2 F2 N2
  have l2 := replace_len (c := 60) (zs := "&lt;") (k := 6) l1 (by decide) (by decide)
  clear F1 N1
  refine wpAny_execs_cons ?_
  refine if_replace (c := 34) F2 N2 rfl ht2 (by omega) rfl rfl (by decide) (by decide) (by decide) rfl ?_
  intro t3 h3 k3 ht3 F3 N3
  have l3 := replace_len (c := 34) (zs := "&quot;") (k := 6) l2 (by decide) (by decide)
  clear F2 N2
  refine wpAny_execs_cons ?_
  refine if_replace (c := 9) F3 N3 rfl ht3 (by omega) rfl rfl (by decide) (by decide) (by decide) rfl ?_
  intro t4 h4 k4 ht4 F4 N4
  have l4 := replace_len (c := 9) (zs := "&#x9;") (k := 6) l3 (by decide) (by decide)
  clear F3 N3
  refine wpAny_execs_cons ?_
  refine if_replace (c := 10) F4 N4 rfl ht4 (by omega) rfl rfl (by decide) (by decide) (by decide) rfl ?_
  intro t5 h5 k5 ht5 F5 N5
  have l5 := replace_len (c := 10) (zs := "&#xA;") (k := 6) l4 (by decide) (by decide)
  clear F4 N4
  refine wpAny_execs_cons ?_
  refine if_replace (c := 13) F5 N5 rfl ht5 (by omega) rfl rfl (by decide) (by decide) (by decide) rfl ?_
  intro t6 h6 k6 ht6 F6 N6
  have l6 := replace_len (c := 13) (zs := "&#xD;") (k := 6) l5 (by decide) (by decide)
  clear F5 N5
  k_steps
  all_goals exact hret _ _ _ ⟨_, congrArg (fun y => Value.str y _) (escC_law htm)⟩ (by k_asm) (by k_asm)

end
local macro_rules
  | `(tactic| walk_at "execs cons") => `(tactic| k_extra "m1")
  | `(tactic| walk_at "TNext") => `(tactic| k_extra "m2")
section
section
variable {h₀ : Heap} {L : Addr} {m : Str → Option Value}
theorem news_flat {h : Heap} {x : Addr × Obj} {a b : List (Addr × Obj)} (N : News h₀ L h ((x :: a) ++ b)) : News h₀ L h (x :: (a ++ b)) := N
theorem news_flat2 {h : Heap} {x : Addr × Obj} {a b c : List (Addr × Obj)} (N : News h₀ L h ((x :: a ++ b) ++ c)) : News h₀ L h (x :: (a ++ b ++ c)) := N
theorem fr_know {h : Heap} {x : Str} {v : Value} (F : Fr h₀ L h m) (e : m x = some v) : Fr h₀ L h (fun y => if y = x then some v else m y) := by
  have : (fun y => if y = x then some v else m y) = m := by
    funext y
    by_cases hy : y = x
    · rw [if_pos hy, hy, e]
    · rw [if_neg hy]
  rw [this]; exact F
end
section
variable {prog : Program} {w : World} {A : Around} {E : Value → Shared → Prop} {s : Shared} {env : Env} {h₀ : Heap} {Q : Flow → Shared → Prop} {target : Expr} {body : List Stmt}
theorem subL_of {a b : List (Addr × Obj)} (h : ∀ p ∈ a, p ∈ b) : SubL a b := by
  induction a with
  | nil => trivial
  | cons x r ih => exact ⟨h x (.head _), ih fun p hp => h p (.tail _ hp)⟩
theorem turns_for {it : Value} {s₂ : Shared} (hE : PassesOwn (model prog w) A env E) (h₂ : TurnsAt prog w A h₀ env target body Q E it s₂) :
    codeAny (model prog w) A (.forLoop target it body [] env) (fun r s' => match r with | .ok f => Q f s' | .error e => cameBackBy (model prog w) A env E e s') s₂ := by
  obtain ⟨I, fp, wr, n, P, Md, St, m, news, J, rfl, W, hLf, hwr, hnw, hst, F, N, h0, step, hQ⟩ := h₂
  exact ktu_loop (R := fun r s' => match r with | .ok f => Q f s' | .error e => cameBackBy (model prog w) A env E e s') W hLf hwr hnw hst F N J h0 (by intros; exact wpAny_passesOwn hE (wpAny_mono (by apply step <;> assumption) (fun _ _ x => wpAny_passesOwn hE x) fun _ _ x => x)) hQ
theorem tupTurns_inv {ax : Addr} {lo : Obj} {vs : List Value} {n : Nat} {m₀ : Str → Option Value} {news : List (Addr × Obj)} (J : Nat → (Str → Option Value) → List (Addr × Obj) → Prop)
    (hh : A.handled = none) (F : Fr h₀ env.locals s.heap m₀) (N : News h₀ env.locals s.heap news) (hm : (ax, lo) ∈ news) (hc : lo.cls = .type "tuple") (hd : lo.data = .seq vs.toArray n) (h0 : J 0 m₀ news)
    (turn : ∀ i v m₁ nx h tk its, vs[i]? = some v → J i m₁ nx → nx.map (·.1) = news.map (·.1) → (ax, lo) ∈ nx → OwnOff its (news.map (·.1)) → Fr h₀ env.locals h m₁ → News h₀ env.locals h (nx ++ its) →
      wpAny (model prog w) A (assign target env v) (fun _ s₂ => wpAny (model prog w) A (execs body env)
        (InvPostN h₀ env.locals (fun m' nx' => (ax, lo) ∈ nx' ∧ J (i + 1) m' nx') its (news.map (·.1)) { s with heap := h, toks := tk } Q) E s₂) E { s with heap := h, toks := tk })
    (done : ∀ m₁ nx h tk, J vs.length m₁ nx → nx.map (·.1) = news.map (·.1) → (ax, lo) ∈ nx → Fr h₀ env.locals h m₁ → News h₀ env.locals h nx → Q .next { s with heap := h, toks := tk }) :
    wpAny (model prog w) A (pyIter (.ref ax)) (fun it s₂ => TurnsAt prog w A h₀ env target body Q E it s₂) E s := by
  refine iter_tupTurns hh F N hm hc hd fun I hI => ?_
  have go : ∀ (d j : Nat), d + j = vs.length → ∀ m₁ nx, J j m₁ nx → nx.map (·.1) = news.map (·.1) → (ax, lo) ∈ nx →
      ItemsRest prog w A E h₀ env target body Q s [(I, "tuple_iterator")] [(ax, lo)] ((vs.drop j).map .val) m₁ nx := by
    intro d
    induction d with
    | zero =>
      intro j hj m₁ nx hJ ha hmem
      have e : vs.drop j = [] := List.drop_eq_nil_of_le (by omega)
      rw [e]
      have e2 : j = vs.length := by omega
      subst e2
      exact fun h tk F' N' => done m₁ nx h tk hJ ha hmem F' N'
    | succ d ih =>
      intro j hj m₁ nx hJ ha hmem
      have hlt : j < vs.length := by omega
      rw [List.drop_eq_getElem_cons hlt, List.map_cons]
      refine ItemsRest.val fun h tk F' => ?_
      refine AllObj.cons fun o ho => AllObj.nil fun N' => ?_
      have hoff : OwnOff [(I, o)] (news.map (·.1)) := fun p hp b hb e => by
        rw [List.mem_singleton.mp hp] at e
        obtain ⟨q, hq, e'⟩ := List.mem_map.mp hb
        exact absurd (hI q hq) (by rw [e', ← e]; exact Nat.lt_irrefl _)
      have N'' : News h₀ env.locals h (nx ++ [(I, o)]) := fun p hp => N' p ((List.mem_append.mp hp).elim (fun h => List.mem_append.mpr (.inr h)) fun h => List.mem_append.mpr (.inl h))
      refine wpAny_mono (turn j vs[j] m₁ nx h tk [(I, o)] (by simp [hlt]) hJ ha hmem hoff F' N'') (fun _ s₂ h₂ => wpAny_mono h₂ (fun f s₃ p => ?_) fun _ _ e => e) fun _ _ e => e
      have fin : InvEndN h₀ env.locals (fun m' nx' => (ax, lo) ∈ nx' ∧ J (j + 1) m' nx') [(I, o)] (news.map (·.1)) { s with heap := h, toks := tk } s₃ →
          UnrEndW h₀ env.locals { s with heap := h, toks := tk } [(I, o)] (fun m' n' => SubL [(ax, lo)] n' ∧ ItemsRest prog w A E h₀ env target body Q s [(I, "tuple_iterator")] [(ax, lo)] ((vs.drop (j + 1)).map .val) m' n') s₃ := by
        rintro ⟨h', tk', m', news', nx', rfl, F2, N2, hn2, ho2, ha2, hmem2, hJ2⟩
        refine ⟨h', tk', m', nx', rfl, F2, fun p hp => ?_, fun p hp q hq e => ?_, subL_of fun p hp => by rw [List.mem_singleton.mp hp]; exact hmem2, ih (j + 1) (by omega) m' nx' hJ2 ha2 hmem2⟩
        · rcases List.mem_append.mp hp with hp | hp
          · exact N2 p (ho2 p hp)
          · exact N2 p (hn2 p hp)
        · have h1 : p.1 ∈ news.map (·.1) := ha2 ▸ List.mem_map.mpr ⟨p, hp, rfl⟩
          exact hoff q hq p.1 h1 e.symm
      cases f with
      | ret v => exact p
      | brk => exact p
      | next => exact fin p
      | cont => exact fin p
  have := go vs.length 0 rfl m₀ news h0 rfl hm
  rwa [List.drop_zero] at this
end
end
section
/-- a turn's end, the ledger free to grow -/
noncomputable def EndG (h₀ : Heap) (L : Addr) (J : (Str → Option Value) → List (Addr × Obj) → Prop) (I : Addr) (oI : Obj) (s₁ s₂ : Shared) : Prop :=
  ∃ h' tk m' nx, s₂ = { s₁ with heap := h', toks := tk } ∧ Fr h₀ L h' m' ∧ News h₀ L h' ((I, oI) :: nx) ∧ (∀ p ∈ nx, p.1 ≠ I) ∧ J m' nx
noncomputable def PostG (h₀ : Heap) (L : Addr) (J : (Str → Option Value) → List (Addr × Obj) → Prop) (I : Addr) (oI : Obj) (s₁ : Shared) (Q : Flow → Shared → Prop) (f : Flow) (s₂ : Shared) : Prop :=
  match f with
  | .ret v => Q (.ret v) s₂
  | .brk => Q .next s₂
  | _ => EndG h₀ L J I oI s₁ s₂
theorem postG_next {h₀ : Heap} {L : Addr} {J : (Str → Option Value) → List (Addr × Obj) → Prop} {I : Addr} {oI : Obj} {s₁ s₂ : Shared} {Q : Flow → Shared → Prop} (h : EndG h₀ L J I oI s₁ s₂) : PostG h₀ L J I oI s₁ Q .next s₂ := h
theorem postG_cont {h₀ : Heap} {L : Addr} {J : (Str → Option Value) → List (Addr × Obj) → Prop} {I : Addr} {oI : Obj} {s₁ s₂ : Shared} {Q : Flow → Shared → Prop} (h : EndG h₀ L J I oI s₁ s₂) : PostG h₀ L J I oI s₁ Q .cont s₂ := h
theorem postG_ret {h₀ : Heap} {L : Addr} {J : (Str → Option Value) → List (Addr × Obj) → Prop} {I : Addr} {oI : Obj} {s₁ s₂ : Shared} {Q : Flow → Shared → Prop} {v : Value} (h : Q (.ret v) s₂) : PostG h₀ L J I oI s₁ Q (.ret v) s₂ := h
theorem postG_brk {h₀ : Heap} {L : Addr} {J : (Str → Option Value) → List (Addr × Obj) → Prop} {I : Addr} {oI : Obj} {s₁ s₂ : Shared} {Q : Flow → Shared → Prop} (h : Q .next s₂) : PostG h₀ L J I oI s₁ Q .brk s₂ := h
abbrev itG (x left step : Int) : Obj := { cls := .type "range_iterator", data := .fields #[rawInt x, rawInt left, rawInt step] }
section
variable {prog : Program} {w : World} {A : Around} {E : Value → Shared → Prop} {s : Shared} {env : Env} {h₀ : Heap} {Q : Flow → Shared → Prop} {x : Str} {body : List Stmt}
theorem rangeInv {r : Addr} {a b c : Int} {t₀ u₀ v₀ : Tok} {n : Nat} {m₀ : Str → Option Value} {news : List (Addr × Obj)} (J : Nat → (Str → Option Value) → List (Addr × Obj) → Prop)
    (hh : A.handled = none) (hr : IsRange s.heap r a b c t₀ u₀ v₀) (hsmall : Builtin.Range.small a b c = true) (hn : Builtin.Range.rangeSize a b c = (n : Int)) (F : Fr h₀ env.locals s.heap m₀) (N : News h₀ env.locals s.heap news) (h0 : J 0 m₀ news)
    (turn : ∀ i t m₁ nx h tk I oI, i < n → J i m₁ nx → (∀ p ∈ nx, p.1 ≠ I) → Fr h₀ env.locals h (fun y => if y = x then some (.int (a + (i : Int) * c) t) else m₁ y) → News h₀ env.locals h ((I, oI) :: nx) →
      wpAny (model prog w) A (execs body env) (PostG h₀ env.locals (J (i + 1)) I oI { s with heap := h, toks := tk } Q) E { s with heap := h, toks := tk })
    (done : ∀ m₁ nx h tk, J n m₁ nx → Fr h₀ env.locals h m₁ → News h₀ env.locals h nx → Q .next { s with heap := h, toks := tk }) :
    wpAny (model prog w) A (pyIter (.ref r)) (fun it s₂ => LoopAtV prog w A h₀ env x body Q E it s₂) E s := by
  refine wpAny_pyIter_range hr hsmall ?_
  have W : Walks prog w A s.heap.objs.size [s.heap.objs.size] [s.heap.objs.size] n (fun i v => ∃ t, v = .int (a + i * c) t)
      (fun i h => IsRangeIter h s.heap.objs.size (a + (i : Nat) * c) ((n : Int) - (i : Nat)) c) := Walks.range hh _ a c n
  have hnew := next_is_new F
  refine ⟨_, _, _, n, _, _, m₀, news, J, rfl, W, ?_, ?_, ?_, (by show IsRangeIter _ _ _ _ _; rw [hn]; simpa using Heap.get?_push_size _ rfl), F.push _, (fun p hp => ⟨Heap.get?_push_of_some _ (N p hp).1, (N p hp).2⟩), h0, ?_, ?_⟩
  · intro hm
    exact absurd F.ns.lt ((List.mem_singleton.mp hm) ▸ Nat.lt_irrefl _)
  · intro b hb
    rw [List.mem_singleton.mp hb]
    exact hnew
  · intro p hp hI
    exact absurd (Heap.lt_size (N p hp).1) ((List.mem_singleton.mp hI) ▸ Nat.lt_irrefl _)
  · rintro i v m₁ news₁ s₁ own ⟨hh', tk', rfl⟩ hin ⟨t, rfl⟩ hJ hoff hown hget hall hst F₁ N₁
    obtain ⟨oI, hst'⟩ : ∃ oI, hh'.get? s.heap.objs.size = some oI := ⟨_, hst⟩
    have hmem := hall s.heap.objs.size (List.mem_singleton.mpr rfl) hnew _ hst'
    refine wpAny_mono (turn i t m₁ news₁ hh' tk' s.heap.objs.size oI hin hJ (fun p hp e => hoff p hp (List.mem_singleton.mpr e)) F₁ (fun p hp => by
      rcases List.mem_cons.mp hp with rfl | hp
      · exact N₁ _ (List.mem_append_left _ hmem)
      · exact N₁ _ (List.mem_append_right _ hp))) (fun f s₂ p => ?_) fun _ _ e => e
    have fin : EndG h₀ env.locals (J (i + 1)) s.heap.objs.size oI { s with heap := hh', toks := tk' } s₂ → LoopStepU h₀ env.locals [s.heap.objs.size] own (J (i + 1)) { s with heap := hh', toks := tk' } .next s₂ := by
      rintro ⟨h', tk, m', nx, e, F', N', ho, hj⟩
      refine ⟨rfl, h', tk, m', nx, e, F', fun p hp => ?_, fun p hp hI => ho p hp (List.mem_singleton.mp hI), hj⟩
      rcases List.mem_append.mp hp with hp | hp
      · have h1 : p.1 = s.heap.objs.size := List.mem_singleton.mp (hown p hp)
        have h2 : hh'.get? p.1 = some p.2 := hget p hp
        have h3 : p = (s.heap.objs.size, oI) := by
          rw [h1, hst'] at h2
          exact Prod.ext h1 (Option.some.inj h2).symm
        rw [h3]; exact N' _ (List.mem_cons_self ..)
      · exact N' _ (List.mem_cons_of_mem _ hp)
    cases f with
    | ret v => exact .ret p
    | brk => exact .brk p
    | next => exact .next (fin p)
    | cont => exact .cont (fin p)
  · rintro h' tk m' news' F' N' _ hJ
    exact done m' news' h' tk hJ F' N'
/-- a for over a list of the ledger, by an invariant; the list stays on the ledger -/
theorem listInv {l : Addr} {lo : Obj} {vs : List Value} {k : Nat} {m₀ : Str → Option Value} {news : List (Addr × Obj)} (J : Nat → (Str → Option Value) → List (Addr × Obj) → Prop)
    (hh : A.handled = none) (hlo : lo = listOf vs.toArray k) (F : Fr h₀ env.locals s.heap m₀) (N : News h₀ env.locals s.heap news) (hm : (l, lo) ∈ news) (h0 : J 0 m₀ news)
    (turn : ∀ i v m₁ nx h tk I oI, vs[i]? = some v → J i m₁ nx → (l, lo) ∈ nx → (∀ p ∈ nx, p.1 ≠ I) → Fr h₀ env.locals h (fun y => if y = x then some v else m₁ y) → News h₀ env.locals h ((I, oI) :: nx) →
      wpAny (model prog w) A (execs body env) (PostG h₀ env.locals (fun m nx => (l, lo) ∈ nx ∧ J (i + 1) m nx) I oI { s with heap := h, toks := tk } Q) E { s with heap := h, toks := tk })
    (done : ∀ m₁ nx h tk, J vs.length m₁ nx → (l, lo) ∈ nx → Fr h₀ env.locals h m₁ → News h₀ env.locals h nx → Q .next { s with heap := h, toks := tk }) :
    wpAny (model prog w) A (pyIter (.ref l)) (fun it s₂ => LoopAtV prog w A h₀ env x body Q E it s₂) E s := by
  subst hlo
  have gl := (N _ hm).1
  have hls : s.heap.IsList l vs.toArray := ⟨_, gl, rfl, k, rfl⟩
  have hlt : l < s.heap.objs.size := Heap.lt_size gl
  have hl₀ := (N _ hm).2.2
  have hne : l ≠ s.heap.objs.size := Nat.ne_of_lt hlt
  refine wpAny_pyIter_list hls ?_
  have W := Walks.list (prog := prog) (w := w) hh s.heap.objs.size l hne vs.toArray
  have hnew := next_is_new F
  have hsz : vs.toArray.size = vs.length := List.size_toArray
  rw [hsz] at W
  refine ⟨_, _, _, vs.length, _, _, m₀, news, fun i m nx => (l, listOf vs.toArray k) ∈ nx ∧ J i m nx, rfl, W, ?_, ?_, ?_, ⟨⟨_, Heap.get?_push_size _ rfl, rfl, rfl⟩, hls.at fun o e => Heap.get?_push_of_some _ e⟩, F.push _, (fun p hp => ⟨Heap.get?_push_of_some _ (N p hp).1, (N p hp).2⟩), ⟨hm, h0⟩, ?_, ?_⟩
  · intro hm'
    rcases List.mem_cons.mp hm' with e | hm'
    · exact absurd F.ns.lt (e ▸ Nat.lt_irrefl _)
    · exact (N _ hm).2.1 (List.mem_singleton.mp hm').symm
  · intro b hb
    rw [List.mem_singleton.mp hb]
    exact hnew
  · intro p hp hI
    exact absurd (Heap.lt_size (N p hp).1) ((List.mem_singleton.mp hI) ▸ Nat.lt_irrefl _)
  · rintro i v m₁ news₁ s₁ own ⟨hh', tk', rfl⟩ hin hP ⟨hml, hJ⟩ hoff hown hget hall hst F₁ N₁
    obtain ⟨oI, hst', _⟩ := hst.1
    have hmem := hall s.heap.objs.size (List.mem_cons_self ..) hnew _ hst'
    have hPv : vs[i]? = some v := by simpa using hP
    have N₂ : News h₀ env.locals hh' ((s.heap.objs.size, oI) :: news₁) := fun p hp => by
      rcases List.mem_cons.mp hp with rfl | hp
      · exact N₁ _ (List.mem_append_left _ hmem)
      · exact N₁ _ (List.mem_append_right _ hp)
    refine wpAny_mono (turn i v m₁ news₁ hh' tk' s.heap.objs.size oI hPv hJ hml (fun p hp e => hoff p hp (List.mem_singleton.mpr e)) F₁ N₂) (fun f s₂ p => ?_) fun _ _ e => e
    have fin : EndG h₀ env.locals (fun m nx => (l, listOf vs.toArray k) ∈ nx ∧ J (i + 1) m nx) s.heap.objs.size oI { s with heap := hh', toks := tk' } s₂ → LoopStepU h₀ env.locals [s.heap.objs.size] own (fun m nx => (l, listOf vs.toArray k) ∈ nx ∧ J (i + 1) m nx) { s with heap := hh', toks := tk' } .next s₂ := by
      rintro ⟨h', tk, m', nx, e, F', N', ho, hj⟩
      refine ⟨rfl, h', tk, m', nx, e, F', fun p hp => ?_, fun p hp hI => ho p hp (List.mem_singleton.mp hI), hj⟩
      rcases List.mem_append.mp hp with hp | hp
      · have h2 : hh'.get? p.1 = some p.2 := hget p hp
        rcases List.mem_cons.mp (hown p hp) with h1 | h1
        · have h3 : p = (s.heap.objs.size, oI) := by
            rw [h1, hst'] at h2
            exact Prod.ext h1 (Option.some.inj h2).symm
          rw [h3]; exact N' _ (List.mem_cons_self ..)
        · have h1' : p.1 = l := List.mem_singleton.mp h1
          have h3 : p = (l, listOf vs.toArray k) := by
            rw [h1', (N₂ _ (List.mem_cons_of_mem _ hml)).1] at h2
            exact Prod.ext h1' (Option.some.inj h2).symm
          rw [h3]; exact N' _ (List.mem_cons_of_mem _ hj.1)
      · exact N' _ (List.mem_cons_of_mem _ hp)
    cases f with
    | ret v => exact .ret p
    | brk => exact .brk p
    | next => exact .next (fin p)
    | cont => exact .cont (fin p)
  · rintro h' tk m' news' F' N' _ ⟨hml, hJ⟩
    exact done m' news' h' tk hJ hml F' N'
variable {target : Expr}
/-- the same, for any target -/
theorem listTurns {l : Addr} {lo : Obj} {vs : List Value} {k : Nat} {m₀ : Str → Option Value} {news : List (Addr × Obj)} (J : Nat → (Str → Option Value) → List (Addr × Obj) → Prop)
    (hh : A.handled = none) (ht : ∀ it v, letOwnedTupleGo target it v = pure ()) (hlo : lo = listOf vs.toArray k) (F : Fr h₀ env.locals s.heap m₀) (N : News h₀ env.locals s.heap news) (hm : (l, lo) ∈ news) (h0 : J 0 m₀ news)
    (turn : ∀ i v m₁ nx h tk I oI, vs[i]? = some v → J i m₁ nx → (l, lo) ∈ nx → (∀ p ∈ nx, p.1 ≠ I) → Fr h₀ env.locals h m₁ → News h₀ env.locals h ((I, oI) :: nx) →
      wpAny (model prog w) A (assign target env v) (fun _ s₂ => wpAny (model prog w) A (execs body env) (PostG h₀ env.locals (fun m nx => (l, lo) ∈ nx ∧ J (i + 1) m nx) I oI { s with heap := h, toks := tk } Q) E s₂) E { s with heap := h, toks := tk })
    (done : ∀ m₁ nx h tk, J vs.length m₁ nx → (l, lo) ∈ nx → Fr h₀ env.locals h m₁ → News h₀ env.locals h nx → Q .next { s with heap := h, toks := tk }) :
    wpAny (model prog w) A (pyIter (.ref l)) (fun it s₂ => TurnsAt prog w A h₀ env target body Q E it s₂) E s := by
  subst hlo
  have gl := (N _ hm).1
  have hls : s.heap.IsList l vs.toArray := ⟨_, gl, rfl, k, rfl⟩
  have hlt : l < s.heap.objs.size := Heap.lt_size gl
  have hl₀ := (N _ hm).2.2
  have hne : l ≠ s.heap.objs.size := Nat.ne_of_lt hlt
  refine wpAny_pyIter_list hls ?_
  have W := Walks.list (prog := prog) (w := w) hh s.heap.objs.size l hne vs.toArray
  have hnew := next_is_new F
  have hsz : vs.toArray.size = vs.length := List.size_toArray
  rw [hsz] at W
  refine ⟨_, _, _, vs.length, _, _, _, m₀, news, fun i m nx => (l, listOf vs.toArray k) ∈ nx ∧ J i m nx, rfl, KTurns.ofWalks W (fun _ v _ _ _ _ hq => wpAny_of_eq (ht _ v) hq), ?_, ?_, ?_, ⟨⟨_, Heap.get?_push_size _ rfl, rfl, rfl⟩, hls.at fun o e => Heap.get?_push_of_some _ e⟩, F.push _, (fun p hp => ⟨Heap.get?_push_of_some _ (N p hp).1, (N p hp).2⟩), ⟨hm, h0⟩, ?_, ?_⟩
  · intro hm'
    rcases List.mem_cons.mp hm' with e | hm'
    · exact absurd F.ns.lt (e ▸ Nat.lt_irrefl _)
    · exact (N _ hm).2.1 (List.mem_singleton.mp hm').symm
  · intro b hb
    rw [List.mem_singleton.mp hb]
    exact hnew
  · intro p hp hI
    exact absurd (Heap.lt_size (N p hp).1) ((List.mem_singleton.mp hI) ▸ Nat.lt_irrefl _)
  · rintro i v m₁ news₁ hh' tk' own hin hP ⟨hml, hJ⟩ hoff hown hget hall hst F₁ N₁
    obtain ⟨oI, hst', _⟩ := hst.1
    have hmem := hall s.heap.objs.size (List.mem_cons_self ..) hnew _ hst'
    have hPv : vs[i]? = some v := by simpa using hP
    have N₂ : News h₀ env.locals hh' ((s.heap.objs.size, oI) :: news₁) := fun p hp => by
      rcases List.mem_cons.mp hp with rfl | hp
      · exact N₁ _ (List.mem_append_left _ hmem)
      · exact N₁ _ (List.mem_append_right _ hp)
    refine wpAny_mono (turn i v m₁ news₁ hh' tk' s.heap.objs.size oI hPv hJ hml (fun p hp e => hoff p hp (List.mem_singleton.mpr e)) F₁ N₂) (fun _ s₂ hp => wpAny_mono hp (fun f s₂ p => ?_) fun _ _ e => e) fun _ _ e => e
    have fin : EndG h₀ env.locals (fun m nx => (l, listOf vs.toArray k) ∈ nx ∧ J (i + 1) m nx) s.heap.objs.size oI { s with heap := hh', toks := tk' } s₂ → LoopStepU h₀ env.locals [s.heap.objs.size] own (fun m nx => (l, listOf vs.toArray k) ∈ nx ∧ J (i + 1) m nx) { s with heap := hh', toks := tk' } .next s₂ := by
      rintro ⟨h', tk, m', nx, e, F', N', ho, hj⟩
      refine ⟨rfl, h', tk, m', nx, e, F', fun p hp => ?_, fun p hp hI => ho p hp (List.mem_singleton.mp hI), hj⟩
      rcases List.mem_append.mp hp with hp | hp
      · have h2 : hh'.get? p.1 = some p.2 := hget p hp
        rcases List.mem_cons.mp (hown p hp) with h1 | h1
        · have h3 : p = (s.heap.objs.size, oI) := by
            rw [h1, hst'] at h2
            exact Prod.ext h1 (Option.some.inj h2).symm
          rw [h3]; exact N' _ (List.mem_cons_self ..)
        · have h1' : p.1 = l := List.mem_singleton.mp h1
          have h3 : p = (l, listOf vs.toArray k) := by
            rw [h1', (N₂ _ (List.mem_cons_of_mem _ hml)).1] at h2
            exact Prod.ext h1' (Option.some.inj h2).symm
          rw [h3]; exact N' _ (List.mem_cons_of_mem _ hj.1)
      · exact N' _ (List.mem_cons_of_mem _ hp)
    cases f with
    | ret v => exact .ret p
    | brk => exact .brk p
    | next => exact .next (fin p)
    | cont => exact .cont (fin p)
  · rintro h' tk m' news' F' N' _ ⟨hml, hJ⟩
    exact done m' news' h' tk hJ hml F' N'
end
end
section
open PyProof.Rows.LCg
noncomputable def STup (ax : Addr) (its : Array Value) (news : List (Addr × Obj)) : Prop := ∃ o, (ax, o) ∈ news ∧ o.cls = .type "tuple" ∧ ∃ n, o.data = .seq its n
section
variable {prog : Program} {w : World} {A : Around} {E : Value → Shared → Prop} {s : Shared} {h₀ : Heap} {L : Addr} {m : Str → Option Value} {env : Env}
theorem STup.tup {ax : Addr} {its : Array Value} {news : List (Addr × Obj)} {h : Heap} (x : STup ax its news) (N : News h₀ L h news) : h.IsTuple ax its :=
  let ⟨o, hm, r⟩ := x; ⟨o, (N _ hm).1, r⟩
theorem stup_st {ax I : Addr} {its : Array Value} : ∀ i (h h' : Heap) (o : Obj) (nw : List (Addr × Obj)), (h.IsTupleIter I ax i ∧ h.IsTuple ax its) → h.get? I = some o → h'.get? I = some o → (∀ b o, h₀.get? b = some o → h'.get? b = some o) → News h₀ L h' nw → STup ax its nw → (h'.IsTupleIter I ax i ∧ h'.IsTuple ax its) :=
  fun i h h' o nw st e e' _ N S => ⟨by obtain ⟨o', q, r⟩ := st.1; rw [e] at q; cases q; exact ⟨o, e', r⟩, S.tup N⟩
/-- what a list comprehension over a tuple of the ledger must show -/
noncomputable def SrcT (prog : Program) (w : World) (A : Around) (h₀ : Heap) (L : Addr) (m : Str → Option Value) (env : Env) (elt : Expr) (x : Str) (scope : Scope) (cl : List (Str × Addr)) (Fin : Shared → List Value → List (Addr × Obj) → Prop) (xv : Value) (s₁ : Shared) : Prop :=
  ∃ ax its news, xv = .ref ax ∧ A.handled = none ∧ Fr h₀ L s₁.heap m ∧ News h₀ L s₁.heap news ∧ STup ax its news ∧ its.size ≤ sizeLine ∧
    ∀ s₂ : Shared, (∃ h, s₂ = { s₁ with heap := h }) → CompRest prog w A h₀ L m env elt x scope cl s₂ (STup ax its) (fun i v => its[i]? = some v) (Fin s₂) its.size 0 [] news
theorem Assign_T {elt iter : Expr} {x y : Str} {px py : Pos} {scope : Scope} {cl : List (Str × Addr)} {pos spos : Pos} {Q : Flow → Shared → Prop} (F₀ : Fr h₀ L s.heap m) (hLe : env.locals = L)
    (hsw : swapsWith (.ListComp elt [⟨.Name x px, iter, [], 0⟩] scope pos) (some (.Name y py)) spos.line env = pure true)
    (hclos : closureFor scope env = pure cl) (hcell : ∀ z ∈ scope.names, z.2 ≠ .cell) (hkind : scope.kind = .function)
    (hnames : ∀ z ∈ scope.names, z.2 = .local → scope.names.lookup z.1 = some .local) (hx : scope.names.lookup x = some .local)
    (hy : env.kindOf y = some .local) (hp : (env.scope.kind == .class || (env.scope.kind == .module && env.locals != env.globals)) = false)
    (h : wpAny (model prog w) A (eval iter env) (SrcT prog w A h₀ L m env elt x scope cl (fun s₂ => FinA h₀ L m s₂ y Q)) E s)
    (hs : ∀ x, foldedSetIterable iter env x = pure x := by intro _; rfl) :
    wpAny (model prog w) A (exec (.Assign [.Name y py] (.ListComp elt [⟨.Name x px, iter, [], 0⟩] scope pos) spos) env) Q E s := by
  have _ := F₀
  subst hLe
  rw [exec_Assign_Name_used _ _ _ _ hsw]
  refine wpAny_bind (wpAny_standAt (wpAny_bind ?_))
  show wpAny _ A (do let _ ← comprehension (.ListComp elt [⟨.Name x px, iter, [], 0⟩] scope pos) scope env _ (newList []) false (eval iter env) (some (assign (.Name y py) env))) _ _ s
  refine wpAny_bind (wpAny_mono (wpAny_comprehension_free (use := some (assign (.Name y py) env)) (Q := fun _ s' => Q .next s') rfl hs hclos hkind hnames
    (wpAny_mono h (fun xv s₁ h₁ => ?_) fun _ _ e => e)) (fun _ s' hq => wpAny_pure (wpAny_pure hq)) fun _ _ e => e)
  obtain ⟨ax, its, news, rfl, hh, F, N, S, hsz, R⟩ := h₁
  have ht := S.tup N
  have hlt : ax < s₁.heap.objs.size := by obtain ⟨_, e, _⟩ := ht; exact Heap.lt_size e
  refine wpAny_pyIter_tuple ht ?_
  have up : ∀ b o, s₁.heap.get? b = some o → (s₁.heap.push { cls := .type "tuple_iterator", data := .fields #[.ref ax, .int 0 0] }).get? b = some o := fun b o e => Heap.get?_push_of_some _ e
  refine block_U (Walks.tuple hh s₁.heap.objs.size ax (Nat.ne_of_lt hlt) its) hsz (fun i h st => by obtain ⟨o, e, _⟩ := st.1; exact ⟨o, e⟩) stup_st hcell hkind hx
    ⟨⟨_, Heap.get?_push_size _ rfl, rfl, rfl⟩, by obtain ⟨o, e, r⟩ := ht; exact ⟨o, up _ _ e, r⟩⟩ (fun b hb => ?_)
    (F.keeps up) (N.grown up) (Nat.ne_of_lt F.ns.lt) (next_is_new F) (fun p hp => Nat.ne_of_lt (Heap.lt_size (N p hp).1)) S (R _ ⟨_, rfl⟩) ?_
  · show b < (s₁.heap.push _).objs.size
    rw [Heap.size_push]
    rcases List.mem_cons.mp hb with rfl | hb
    · exact Nat.lt_succ_self _
    · rw [List.mem_singleton.mp hb]; exact Nat.lt_succ_of_lt hlt
  · intro D C h' tk m' ys news' F' N' o1 hn hC₀ hD₀ hCL hDL hCD offC fin
    show wpAny _ A (assign (.Name y py) env (.ref D)) _ _ _
    refine wpAny_assign_Name (wpAny_storeName_local hy F'.ns (fun h₂ hn₂ hs₂ => ?_) hp)
    have hL₀ : h₀.get? env.locals = none := Heap.get?_none_of_le F'.above
    have F₂ : Fr h₀ env.locals h₂ (fun z => if z = y then some (.ref D) else m z) := ⟨hn₂, fun b o e => hs₂.extBut b o (fun q => by rw [q, hL₀] at e; cases e) (F'.keep b o e), F'.above⟩
    refine ⟨m', hn.sameBut hs₂ hCL, fun h'' hs'' => fin D h'' _ (F₂.change hs'' hCL hC₀) (fun p hp => ?_) o1⟩
    have z : h₂.get? p.1 = some p.2 := hs₂.extBut _ _ (N' p hp).2.1 (N' p hp).1
    refine ⟨hs''.extBut _ _ ?_ z, (N' p hp).2⟩
    rcases List.mem_cons.mp hp with rfl | hp
    · exact Ne.symm hCD
    · exact offC p hp
theorem end_new {I C D S : Addr} {oI oC oD oS : Obj} {news : List (Addr × Obj)} {h h' : Heap} {tk : Nat} {s₁ : Shared} {Sp : List (Addr × Obj) → Prop} {rest : Value → List (Addr × Obj) → Prop} {y : Value}
    (N1 : News h₀ L h ((I, oI) :: (C, oC) :: (D, oD) :: news)) (off : Off3 I C D news) (hS : S = h.objs.size) (F : Fr h₀ L h' m) (N : News h₀ L h' ((S, oS) :: (I, oI) :: (C, oC) :: (D, oD) :: news))
    (hst : Sp ((S, oS) :: news)) (r : rest y ((S, oS) :: news)) : CompEnd h₀ L m s₁ I oI C oC D oD Sp rest y { s₁ with heap := h', toks := tk } := by
  subst hS
  refine CompEnd.intro F N ((h.objs.size, oS) :: news) (fun p hp => ?_) ⟨⟨?_, ?_, ?_⟩, off⟩ hst r
  · simp only [List.mem_cons] at hp ⊢
    rcases hp with q | q | q | q | q
    · exact .inr (.inl q)
    · exact .inr (.inr (.inl q))
    · exact .inr (.inr (.inr (.inl q)))
    · exact .inl q
    · exact .inr (.inr (.inr (.inr q)))
  · exact Ne.symm (N1.apart _ (.head _))
  · exact Ne.symm (N1.apart _ (.tail _ (.head _)))
  · exact Ne.symm (N1.apart _ (.tail _ (.tail _ (.head _))))
theorem end_same {I C D : Addr} {oI oC oD : Obj} {news : List (Addr × Obj)} {h' : Heap} {tk : Nat} {s₁ : Shared} {Sp : List (Addr × Obj) → Prop} {rest : Value → List (Addr × Obj) → Prop} {y : Value}
    (off : Off3 I C D news) (F : Fr h₀ L h' m) (N : News h₀ L h' ((I, oI) :: (C, oC) :: (D, oD) :: news))
    (hst : Sp news) (r : rest y news) : CompEnd h₀ L m s₁ I oI C oC D oD Sp rest y { s₁ with heap := h', toks := tk } :=
  CompEnd.intro F N news (fun _ hp => hp) off hst r
theorem end_off {I C D S : Addr} {oI oC oD oS : Obj} {news : List (Addr × Obj)} {h' : Heap} {tk : Nat} {s₁ : Shared} {Sp : List (Addr × Obj) → Prop} {rest : Value → List (Addr × Obj) → Prop} {y : Value}
    (F : Fr h₀ L h' m) (N : News h₀ L h' ((S, oS) :: (I, oI) :: (C, oC) :: (D, oD) :: news)) (off : Off3 I C D news) (o1 : Off1 S ((I, oI) :: (C, oC) :: (D, oD) :: news))
    (hst : Sp ((S, oS) :: news)) (r : rest y ((S, oS) :: news)) : CompEnd h₀ L m s₁ I oI C oC D oD Sp rest y { s₁ with heap := h', toks := tk } := by
  refine CompEnd.intro F N ((S, oS) :: news) (fun p hp => ?_) ⟨⟨Ne.symm o1.1, Ne.symm o1.2.1, Ne.symm o1.2.2.1⟩, off⟩ hst r
  simp only [List.mem_cons] at hp ⊢
  rcases hp with q | q | q | q | q
  · exact .inr (.inl q)
  · exact .inr (.inr (.inl q))
  · exact .inr (.inr (.inr (.inl q)))
  · exact .inl q
  · exact .inr (.inr (.inr (.inr q)))
end
end
section
open PyProof.Rows.LCg PyProof.Rows.LCt
section
variable {prog : Program} {w : World} {A : Around} {h₀ : Heap} {L : Addr} {m : Str → Option Value} {env : Env} {s : Shared}
theorem rest_inv {elt : Expr} {x : Str} {scope : Scope} {cl : List (Str × Addr)} {S : List (Addr × Obj) → Prop} {P : Nat → Value → Prop} {Fin : List Value → List (Addr × Obj) → Prop} {n : Nat} {news : List (Addr × Obj)}
    (J : Nat → List Value → List (Addr × Obj) → Prop) (h0 : J 0 [] news)
    (turn : ∀ i ys nw v I oI C oC D m₂ h tk (E' : Value → Shared → Prop), i < n → J i ys nw → P i v → NsObj oC m₂ → m₂ x = some v → Fr h₀ L h m → News h₀ L h ((I, oI) :: (C, oC) :: (D, lst ys) :: nw) → Off3 I C D nw → ((@Ne Nat I C) ∧ (@Ne Nat I D) ∧ (@Ne Nat C D)) →
      wpAny (model prog w) A (eval elt (compEnvC scope cl C env)) (CompEnd h₀ L m { s with heap := h, toks := tk } I oI C oC D (lst ys) S (fun y nw' => J (i + 1) (ys ++ [y]) nw')) E' { s with heap := h, toks := tk })
    (fin : ∀ ys nw, J n ys nw → Fin ys nw) : CompRest prog w A h₀ L m env elt x scope cl s S P Fin n 0 [] news := by
  have go : ∀ (k i : Nat) ys nw, k + i = n → J i ys nw → CompRest prog w A h₀ L m env elt x scope cl s S P Fin k i ys nw := by
    intro k
    induction k with
    | zero =>
      intro i ys nw hk hJ
      rw [Nat.zero_add] at hk
      subst hk
      exact CompRest.zero (fin ys nw hJ)
    | succ k ih =>
      intro i ys nw hk hJ
      refine CompRest.succ fun v I oI C oC D m₂ h tk E' hv hC hx F N off ne => ?_
      refine wpAny_mono (turn i ys nw v I oI C oC D m₂ h tk E' (by omega) hJ hv hC hx F N off ne) (fun y s' hy => ?_) fun _ _ e => e
      obtain ⟨h', tk', nw', rfl, F', N', off', hS, hJ'⟩ := hy
      exact ⟨h', tk', nw', rfl, F', N', off', hS, ih (i + 1) _ _ (by omega) hJ'⟩
  exact go n 0 [] news (Nat.add_zero n) h0
theorem restT_inv {ct elt : Expr} {x : Str} {scope : Scope} {cl : List (Str × Addr)} {S : List (Addr × Obj) → Prop} {P : Nat → Value → Prop} {Fin : List Value → List (Addr × Obj) → Prop} {n : Nat} {news : List (Addr × Obj)}
    (J : Nat → List Value → List (Addr × Obj) → Prop) (h0 : J 0 [] news)
    (turn : ∀ i ys nw v I oI C oC D m₂ h tk (E' : Value → Shared → Prop), i < n → J i ys nw → P i v → NsObj oC m₂ → m₂ x = some v → Fr h₀ L h m → News h₀ L h ((I, oI) :: (C, oC) :: (D, lst ys) :: nw) → Off3 I C D nw → ((@Ne Nat I C) ∧ (@Ne Nat I D) ∧ (@Ne Nat C D)) →
      wpAny (model prog w) A (isTrue ct (compEnvC scope cl C env) (eval ct (compEnvC scope cl C env))) (fun ok s' => if ok = true then
        wpAny (model prog w) A (eval elt (compEnvC scope cl C env)) (CompEnd h₀ L m { s with heap := h, toks := tk } I oI C oC D (lst ys) S (fun y nw' => J (i + 1) (ys ++ [y]) nw')) E' s'
        else CompEnd h₀ L m { s with heap := h, toks := tk } I oI C oC D (lst ys) S (fun _ nw' => J (i + 1) ys nw') Value.none s') E' { s with heap := h, toks := tk })
    (fin : ∀ ys nw, J n ys nw → Fin ys nw) : CompRestT prog w A h₀ L m env ct elt x scope cl s S P Fin n 0 [] news := by
  have go : ∀ (k i : Nat) ys nw, k + i = n → J i ys nw → CompRestT prog w A h₀ L m env ct elt x scope cl s S P Fin k i ys nw := by
    intro k
    induction k with
    | zero =>
      intro i ys nw hk hJ
      rw [Nat.zero_add] at hk
      subst hk
      exact CompRestT.zero (fin ys nw hJ)
    | succ k ih =>
      intro i ys nw hk hJ
      refine CompRestT.succ fun v I oI C oC D m₂ h tk E' hv hC hx F N off ne => ?_
      refine wpAny_mono (turn i ys nw v I oI C oC D m₂ h tk E' (by omega) hJ hv hC hx F N off ne) (fun ok s' hy => ?_) fun _ _ e => e
      by_cases hok : ok = true
      · rw [if_pos hok] at hy ⊢
        refine wpAny_mono hy (fun y s' hy => ?_) fun _ _ e => e
        obtain ⟨h', tk', nw', rfl, F', N', off', hS, hJ'⟩ := hy
        exact ⟨h', tk', nw', rfl, F', N', off', hS, ih (i + 1) _ _ (by omega) hJ'⟩
      · rw [if_neg hok] at hy ⊢
        obtain ⟨h', tk', nw', rfl, F', N', off', hS, hJ'⟩ := hy
        exact ⟨h', tk', nw', rfl, F', N', off', hS, ih (i + 1) _ _ (by omega) hJ'⟩
  exact go n 0 [] news (Nat.add_zero n) h0
end
end
section
set_option maxRecDepth 100000
open AutoSeq1 (wpAny_loadPart')
noncomputable def sLt (x y : Str) : Bool := decide (x.cps.toList < y.cps.toList)
noncomputable def sGt (x y : Str) : Bool := decide (y.cps.toList < x.cps.toList)
noncomputable def cmpS (f : Str → Str → Bool) (z : Bool) : List Str → List Str → Bool
  | x :: xs, y :: ys => if x = y then cmpS f z xs ys else f x y
  | _, _ => z
theorem cmpS_nil_left {f : Str → Str → Bool} {z : Bool} {l : List Str} : cmpS f z [] l = z := by cases l <;> rfl
theorem cmpS_nil_right {f : Str → Str → Bool} {z : Bool} {l : List Str} : cmpS f z l [] = z := by cases l <;> rfl
theorem lt_loop (a b : Addr) (la lb : List (Str × Tok)) (n n2 : Nat) (k : Nat) :
    ∀ i : Nat, la.length - i = k → Meets (Builtin.«list.__eq__.loop» ⟨[.ref a, .ref b, rawInt i, rawInt 0], []⟩)
      (fun A R s => s.heap.get? a = some (listOf (strValues la).toArray n) ∧ s.heap.get? b = some (listOf (strValues lb).toArray n2) ∧
        R (.ok (.ret (.bool (cmpS sLt (decide (la.length < lb.length)) ((la.drop i).map (·.1)) ((lb.drop i).map (·.1)))))) s) := by
  induction k with
  | zero =>
    intro i hk prog w A R s h
    obtain ⟨hp, g, d, tk, os⟩ := s; obtain ⟨hl, hb, h⟩ := h
    wp_walk using wpAny_loadPart' hl, wpAny_loadPart' hb
    have hi1 : (strValues la).toArray[((i : Nat) : Int).toNat]? = none := by simp [strValues]; omega
    have hd : la.drop i = [] := List.drop_eq_nil_of_le (by omega)
    rw [hd, List.map_nil, cmpS_nil_left] at h
    rw [hi1]
    wp_walk using wpAny_loadPart' hl, wpAny_loadPart' hb
    show R (.ok (.ret (.bool (decide ((strValues la).toArray.size < (strValues lb).toArray.size))))) _
    simpa [strValues] using h
  | succ k ih =>
    intro i hk prog w A R s h
    obtain ⟨hp, g, d, tk, os⟩ := s; obtain ⟨hl, hb, h⟩ := h
    wp_walk using wpAny_loadPart' hl, wpAny_loadPart' hb
    have hlt : i < la.length := by omega
    have hi1 : (strValues la).toArray[((i : Nat) : Int).toNat]? = some (.str la[i].1 la[i].2) := by simp [strValues, hlt]
    rw [hi1]
    rw [List.drop_eq_getElem_cons hlt, List.map_cons] at h
    by_cases hlt2 : i < lb.length
    · have hi2 : (strValues lb).toArray[((i : Nat) : Int).toNat]? = some (.str lb[i].1 lb[i].2) := by simp [strValues, hlt2]
      rw [hi2]
      rw [List.drop_eq_getElem_cons hlt2, List.map_cons] at h
      have hc : ((i : Int) + 1) = ((i + 1 : Nat) : Int) := by push_cast; rfl
      unfold cmpS at h
      refine wpAny_bind (wpAny_eqBool_str ?_)
      by_cases he : la[i].1 = lb[i].1
      · rw [decide_eq_true he]
        rw [if_pos he] at h
        wp_walk
        rw [hc]
        exact ⟨plainId_quiet PySem.MeetsSeq3.plain_eq_loop _, codeAny_builtin PySem.MeetsSeq3.entry_eq_loop (by
          rw [Around.under_plainId PySem.MeetsSeq3.plain_eq_loop _]
          exact ih (i + 1) (by omega) prog w A R _ ⟨hl, hb, h⟩)⟩
      · rw [decide_eq_false he]
        rw [if_neg he] at h
        wp_walk using wpAny_loadPart' hl, wpAny_loadPart' hb
        rw [hi1, hi2]
        refine wpAny_bind (show wpAny _ _ (compareOp .Lt (.str la[i].1 la[i].2) (.str lb[i].1 lb[i].2)) _ _ _ from lt_str ?_)
        exact wpAny_pure h
    · have hi2 : (strValues lb).toArray[((i : Nat) : Int).toNat]? = none := by simp [strValues]; omega
      rw [hi2]
      have hd : lb.drop i = [] := List.drop_eq_nil_of_le (by omega)
      rw [hd, List.map_nil, cmpS_nil_right] at h
      wp_walk using wpAny_loadPart' hl, wpAny_loadPart' hb
      show R (.ok (.ret (.bool (decide ((strValues la).toArray.size < (strValues lb).toArray.size))))) _
      simpa [strValues] using h
theorem gt_loop (a b : Addr) (la lb : List (Str × Tok)) (n n2 : Nat) (k : Nat) :
    ∀ i : Nat, la.length - i = k → Meets (Builtin.«list.__eq__.loop» ⟨[.ref a, .ref b, rawInt i, rawInt 4], []⟩)
      (fun A R s => s.heap.get? a = some (listOf (strValues la).toArray n) ∧ s.heap.get? b = some (listOf (strValues lb).toArray n2) ∧
        R (.ok (.ret (.bool (cmpS sGt (decide (lb.length < la.length)) ((la.drop i).map (·.1)) ((lb.drop i).map (·.1)))))) s) := by
  induction k with
  | zero =>
    intro i hk prog w A R s h
    obtain ⟨hp, g, d, tk, os⟩ := s; obtain ⟨hl, hb, h⟩ := h
    wp_walk using wpAny_loadPart' hl, wpAny_loadPart' hb
    have hi1 : (strValues la).toArray[((i : Nat) : Int).toNat]? = none := by simp [strValues]; omega
    have hd : la.drop i = [] := List.drop_eq_nil_of_le (by omega)
    rw [hd, List.map_nil, cmpS_nil_left] at h
    rw [hi1]
    wp_walk using wpAny_loadPart' hl, wpAny_loadPart' hb
    show R (.ok (.ret (.bool (decide ((strValues la).toArray.size > (strValues lb).toArray.size))))) _
    simpa [strValues] using h
  | succ k ih =>
    intro i hk prog w A R s h
    obtain ⟨hp, g, d, tk, os⟩ := s; obtain ⟨hl, hb, h⟩ := h
    wp_walk using wpAny_loadPart' hl, wpAny_loadPart' hb
    have hlt : i < la.length := by omega
    have hi1 : (strValues la).toArray[((i : Nat) : Int).toNat]? = some (.str la[i].1 la[i].2) := by simp [strValues, hlt]
    rw [hi1]
    rw [List.drop_eq_getElem_cons hlt, List.map_cons] at h
    by_cases hlt2 : i < lb.length
    · have hi2 : (strValues lb).toArray[((i : Nat) : Int).toNat]? = some (.str lb[i].1 lb[i].2) := by simp [strValues, hlt2]
      rw [hi2]
      rw [List.drop_eq_getElem_cons hlt2, List.map_cons] at h
      have hc : ((i : Int) + 1) = ((i + 1 : Nat) : Int) := by push_cast; rfl
      unfold cmpS at h
      refine wpAny_bind (wpAny_eqBool_str ?_)
      by_cases he : la[i].1 = lb[i].1
      · rw [decide_eq_true he]
        rw [if_pos he] at h
        wp_walk
        rw [hc]
        exact ⟨plainId_quiet PySem.MeetsSeq3.plain_eq_loop _, codeAny_builtin PySem.MeetsSeq3.entry_eq_loop (by
          rw [Around.under_plainId PySem.MeetsSeq3.plain_eq_loop _]
          exact ih (i + 1) (by omega) prog w A R _ ⟨hl, hb, h⟩)⟩
      · rw [decide_eq_false he]
        rw [if_neg he] at h
        wp_walk using wpAny_loadPart' hl, wpAny_loadPart' hb
        rw [hi1, hi2]
        refine wpAny_bind (show wpAny _ _ (compareOp .Gt (.str la[i].1 la[i].2) (.str lb[i].1 lb[i].2)) _ _ _ from P.gt_str ?_)
        exact wpAny_pure h
    · have hi2 : (strValues lb).toArray[((i : Nat) : Int).toNat]? = none := by simp [strValues]; omega
      rw [hi2]
      have hd : lb.drop i = [] := List.drop_eq_nil_of_le (by omega)
      rw [hd, List.map_nil, cmpS_nil_right] at h
      wp_walk using wpAny_loadPart' hl, wpAny_loadPart' hb
      show R (.ok (.ret (.bool (decide ((strValues la).toArray.size > (strValues lb).toArray.size))))) _
      simpa [strValues] using h

theorem lt_meets (a b : Addr) (la lb : List (Str × Tok)) (n n2 : Nat) :
    Meets (Builtin.«list.__lt__» ⟨[.ref a, .ref b], []⟩)
      (fun A R s => s.heap.get? a = some (listOf (strValues la).toArray n) ∧ s.heap.get? b = some (listOf (strValues lb).toArray n2) ∧
        R (.ok (.ret (.bool (cmpS sLt (decide (la.length < lb.length)) (la.map (·.1)) (lb.map (·.1)))))) s) := by
  intro prog w A R s h
  obtain ⟨hp, g, d, tk, os⟩ := s; obtain ⟨hl, hb, h⟩ := h
  have f3 := AutoSeq1.sub_list_list
  wp_walk using wpAny_loadPart' hl, wpAny_loadPart' hb
  exact ⟨plainId_quiet PySem.MeetsSeq3.plain_eq_loop _, codeAny_builtin PySem.MeetsSeq3.entry_eq_loop (by
    rw [Around.under_plainId PySem.MeetsSeq3.plain_eq_loop _]
    exact lt_loop a b la lb n n2 _ 0 rfl prog w A R _ ⟨hl, hb, h⟩)⟩

theorem gt_meets (a b : Addr) (la lb : List (Str × Tok)) (n n2 : Nat) :
    Meets (Builtin.«list.__gt__» ⟨[.ref a, .ref b], []⟩)
      (fun A R s => s.heap.get? a = some (listOf (strValues la).toArray n) ∧ s.heap.get? b = some (listOf (strValues lb).toArray n2) ∧
        R (.ok (.ret (.bool (cmpS sGt (decide (lb.length < la.length)) (la.map (·.1)) (lb.map (·.1)))))) s) := by
  intro prog w A R s h
  obtain ⟨hp, g, d, tk, os⟩ := s; obtain ⟨hl, hb, h⟩ := h
  have f3 := AutoSeq1.sub_list_list
  wp_walk using wpAny_loadPart' hl, wpAny_loadPart' hb
  exact ⟨plainId_quiet PySem.MeetsSeq3.plain_eq_loop _, codeAny_builtin PySem.MeetsSeq3.entry_eq_loop (by
    rw [Around.under_plainId PySem.MeetsSeq3.plain_eq_loop _]
    exact gt_loop a b la lb n n2 _ 0 rfl prog w A R _ ⟨hl, hb, h⟩)⟩

section
variable {prog : Program} {w : World} {A : Around} {E : Value → Shared → Prop} {s : Shared} {Q : Value → Shared → Prop} {a b : Addr} {la lb : List (Str × Tok)} {n n2 : Nat}
theorem lt_refs (hl : s.heap.get? a = some (listOf (strValues la).toArray n)) (hb : s.heap.get? b = some (listOf (strValues lb).toArray n2)) (hu : A.units < cLine)
    (h : Q (.bool (cmpS sLt (decide (la.length < lb.length)) (la.map (·.1)) (lb.map (·.1)))) s) : wpAny (model prog w) A (richCompare .Lt (.ref a) (.ref b)) Q E s :=
  richCompare_meets_room ⟨_, hl, rfl⟩ ⟨_, hb, rfl⟩ PySem.F.slot_list_lt PySem.F.entry_list_lt (PySem.F.args_list_lt_2 _ _) (lt_meets a b la lb n n2) ⟨hl, hb, (fun e => nomatch e), h⟩ hu
theorem gt_refs (hl : s.heap.get? a = some (listOf (strValues la).toArray n)) (hb : s.heap.get? b = some (listOf (strValues lb).toArray n2)) (hu : A.units < cLine)
    (h : Q (.bool (cmpS sGt (decide (lb.length < la.length)) (la.map (·.1)) (lb.map (·.1)))) s) : wpAny (model prog w) A (richCompare .Gt (.ref a) (.ref b)) Q E s :=
  richCompare_meets_room ⟨_, hl, rfl⟩ ⟨_, hb, rfl⟩ PySem.F.slot_list_gt PySem.F.entry_list_gt (PySem.F.args_list_gt_2 _ _) (gt_meets a b la lb n n2) ⟨hl, hb, (fun e => nomatch e), h⟩ hu
end
end
section
noncomputable def lcp : List Str → List Str → List Str
  | x :: xs, y :: ys => if x = y then x :: lcp xs ys else []
  | _, _ => []
theorem lcp_nil_left {l : List Str} : lcp [] l = [] := by cases l <;> rfl
theorem lcp_nil_right {l : List Str} : lcp l [] = [] := by cases l <;> rfl
theorem lcp_comm : ∀ (a b : List Str), lcp a b = lcp b a
  | [], b => by rw [lcp_nil_left, lcp_nil_right]
  | a, [] => by rw [lcp_nil_left, lcp_nil_right]
  | x :: xs, y :: ys => by
    unfold lcp
    by_cases h : x = y
    · subst h; rw [if_pos rfl, if_pos rfl, lcp_comm xs ys]
    · rw [if_neg h, if_neg (Ne.symm h)]
theorem lcp_self : ∀ a : List Str, lcp a a = a
  | [] => rfl
  | x :: xs => by unfold lcp; rw [if_pos rfl, lcp_self xs]
/-- the loop's finding: equal so far, and then a difference -/
theorem lcp_take : ∀ (a b : List Str) (i : Nat) (x y : Str), (∀ k, k < i → a[k]? = b[k]?) → a[i]? = some x → b[i]? = some y → x ≠ y → lcp a b = a.take i
  | [], _, i, x, y, _, h1, _, _ => by simp at h1
  | _ :: _, [], i, x, y, _, _, h2, _ => by simp at h2
  | a :: as, b :: bs, 0, x, y, _, h1, h2, hne => by
    simp only [List.getElem?_cons_zero, Option.some.injEq] at h1 h2
    subst h1 h2
    unfold lcp
    rw [if_neg hne]; rfl
  | a :: as, b :: bs, i + 1, x, y, h, h1, h2, hne => by
    have h0 := h 0 (Nat.succ_pos _)
    simp only [List.getElem?_cons_zero, Option.some.injEq] at h0
    subst h0
    unfold lcp
    rw [if_pos rfl, List.take_succ_cons]
    congr 1
    exact lcp_take as bs i x y (fun k hk => by have := h (k + 1) (Nat.succ_lt_succ hk); simpa using this) (by simpa using h1) (by simpa using h2) hne
theorem lcp_all : ∀ (a b : List Str), (∀ k, k < a.length → a[k]? = b[k]?) → lcp a b = a
  | [], b, _ => lcp_nil_left
  | a :: as, [], h => by have := h 0 (Nat.succ_pos _); simp at this
  | a :: as, b :: bs, h => by
    have h0 := h 0 (Nat.succ_pos _)
    simp only [List.getElem?_cons_zero, Option.some.injEq] at h0
    subst h0
    unfold lcp
    rw [if_pos rfl, lcp_all as bs fun k hk => by have := h (k + 1) (Nat.succ_lt_succ hk); simpa using this]
theorem seq_lt_tri (x y : Str) (h : x ≠ y) : sGt x y = !sLt x y := by
  have hne : x.cps.toList ≠ y.cps.toList := by
    intro e
    apply h
    cases x; cases y
    simp only [Str.mk.injEq]
    exact Array.ext' (by simpa using e)
  unfold sGt sLt
  by_cases h1 : x.cps.toList < y.cps.toList
  · rw [decide_eq_true h1]
    simp only [Bool.not_true, decide_eq_false_iff_not]
    exact fun h2 => List.lt_asymm h1 h2
  · rw [decide_eq_false h1]
    simp only [Bool.not_false, decide_eq_true_eq]
    have h2 : y.cps.toList ≤ x.cps.toList := List.not_lt.mp h1
    exact Decidable.byContradiction fun h3 => hne (List.le_antisymm (List.not_lt.mp h3) h2)
theorem cmp_gt : ∀ (a b : List Str) (z1 z2 : Bool), a ≠ b → (a.length ≠ b.length → z2 = !z1) → cmpS sGt z2 a b = !cmpS sLt z1 a b
  | [], [], _, _, h, _ => absurd rfl h
  | [], y :: ys, z1, z2, _, hz => hz (by simp)
  | x :: xs, [], z1, z2, _, hz => hz (by simp)
  | x :: xs, y :: ys, z1, z2, h, hz => by
    unfold cmpS
    by_cases he : x = y
    · rw [if_pos he, if_pos he]
      refine cmp_gt xs ys z1 z2 (fun q => h (by rw [he, q])) fun q => hz ?_
      simp only [List.length_cons]; omega
    · rw [if_neg he, if_neg he]; exact seq_lt_tri x y he
theorem cmp_self {f : Str → Str → Bool} {z : Bool} : ∀ a : List Str, cmpS f z a a = z
  | [] => rfl
  | x :: xs => by unfold cmpS; rw [if_pos rfl]; exact cmp_self xs
theorem less_ok : ∀ (b a : List Str) (d : Nat) (i : Nat), cmpS sLt (decide (b.length + d < a.length + d)) b a = true → (∀ k, k < i → b[k]? = a[k]?) → i < b.length → i < a.length
  | [], a, d, i, _, _, hi => by simp at hi
  | x :: xs, [], d, i, h, _, _ => by
    simp only [cmpS, decide_eq_true_eq, List.length_cons, List.length_nil] at h
    omega
  | x :: xs, y :: ys, d, 0, _, _, _ => Nat.succ_pos _
  | x :: xs, y :: ys, d, i + 1, h, hk, hi => by
    have h0 := hk 0 (Nat.succ_pos _)
    simp only [List.getElem?_cons_zero, Option.some.injEq] at h0
    unfold cmpS at h
    rw [if_pos h0] at h
    simp only [List.length_cons, Nat.add_right_comm _ 1 d] at h hi ⊢
    refine Nat.succ_lt_succ (less_ok xs ys (d + 1) i ?_ (fun k hk' => by have := hk (k + 1) (Nat.succ_lt_succ hk'); simpa using this) (by omega))
    exact h
theorem more_ok : ∀ (b a : List Str) (d : Nat) (i : Nat), cmpS sLt (decide (b.length + d < a.length + d)) b a = false → (∀ k, k < i → a[k]? = b[k]?) → i < a.length → i < b.length
  | b, [], d, i, _, _, hi => by simp at hi
  | [], y :: ys, d, i, h, _, _ => by
    simp only [cmpS, decide_eq_false_iff_not, List.length_cons, List.length_nil] at h
    omega
  | x :: xs, y :: ys, d, 0, _, _, _ => Nat.succ_pos _
  | x :: xs, y :: ys, d, i + 1, h, hk, hi => by
    have h0 := hk 0 (Nat.succ_pos _)
    simp only [List.getElem?_cons_zero, Option.some.injEq] at h0
    unfold cmpS at h
    rw [if_pos h0.symm] at h
    simp only [List.length_cons, Nat.add_right_comm _ 1 d] at h hi ⊢
    refine Nat.succ_lt_succ (more_ok xs ys (d + 1) i ?_ (fun k hk' => by have := hk (k + 1) (Nat.succ_lt_succ hk'); simpa using this) (by omega))
    exact h
theorem pick_facts {A B l1 l2 : List (Str × Tok)}
    (h1 : (if cmpS sLt (decide (B.length < A.length)) (B.map (·.1)) (A.map (·.1)) = true then B else A) = l1)
    (h2 : (if cmpS sGt (decide (A.length < B.length)) (B.map (·.1)) (A.map (·.1)) = true then B else A) = l2) :
    lcp (l1.map (·.1)) (l2.map (·.1)) = lcp (A.map (·.1)) (B.map (·.1)) ∧ ∀ i, i < l1.length → (∀ k, k < i → (l1.map (·.1))[k]? = (l2.map (·.1))[k]?) → i < l2.length := by
  by_cases he : A.map (·.1) = B.map (·.1)
  · have hl : A.length = B.length := by have := congrArg List.length he; simpa using this
    rw [he, cmp_self, hl, if_neg (by simp)] at h1
    rw [he, cmp_self, hl, if_neg (by simp)] at h2
    subst h1 h2
    refine ⟨?_, fun i hi _ => hi⟩
    rw [he]
  · have hg := cmp_gt (B.map (·.1)) (A.map (·.1)) (decide (B.length < A.length)) (decide (A.length < B.length)) (Ne.symm he) (fun hn => by
      simp only [List.length_map] at hn
      by_cases h : B.length < A.length
      · rw [decide_eq_true h, decide_eq_false (by omega)]; rfl
      · rw [decide_eq_false h, decide_eq_true (by omega)]; rfl)
    have hz : decide (B.length < A.length) = decide ((B.map (·.1)).length + 0 < (A.map (·.1)).length + 0) := by simp
    cases hc : cmpS sLt (decide (B.length < A.length)) (B.map (·.1)) (A.map (·.1)) with
    | true =>
      rw [hc, if_pos rfl] at h1
      rw [hg, hc, if_neg (by decide)] at h2
      subst h1 h2
      refine ⟨lcp_comm _ _, fun i hi hk => ?_⟩
      rw [hz] at hc
      have := less_ok _ _ 0 i hc hk (by simpa using hi)
      simpa using this
    | false =>
      rw [hc, if_neg (by decide)] at h1
      rw [hg, hc, if_pos (by decide)] at h2
      subst h1 h2
      refine ⟨rfl, fun i hi hk => ?_⟩
      rw [hz] at hc
      have := more_ok _ _ 0 i hc hk (by simpa using hi)
      simpa using this
end
section
theorem split_le (x : Str) : (Txt.split x (Str.ofString "/")).length ≤ x.length + 1 := by
  have := split_weight x (Str.ofString "/") (by decide)
  omega
theorem sv_fit {l : List (Str × Tok)} {x : Str} (e : l.map (·.1) = Txt.split x (Str.ofString "/")) (hx : x.length ≤ 200) : (strValues l).toArray.size ≤ sizeLine := by
  have h := split_le x
  rw [← e, List.length_map] at h
  rw [sizeLine_eq]
  simp only [strValues, List.size_toArray, List.length_map]
  omega
noncomputable def keepC (c : Str) : Bool := decide (c.length ≠ 0) && (c != Str.ofString ".")
noncomputable def compsOf (l : List (Str × Tok)) : List (Str × Tok) := l.filter fun p => keepC p.1
theorem sv_at {l : List (Str × Tok)} {i : Nat} {v : Value} (h : (strValues l).toArray[i]? = some v) : ∃ p, l[i]? = some p ∧ v = .str p.1 p.2 := by
  simp only [strValues, List.getElem?_toArray, List.getElem?_map, Option.map_eq_some_iff] at h
  obtain ⟨p, h1, h2⟩ := h
  exact ⟨p, h1, h2.symm⟩
theorem take_keep {l : List (Str × Tok)} {i : Nat} {p : Str × Tok} (h : l[i]? = some p) (hk : keepC p.1 = true) : strValues (compsOf (l.take i)) ++ [.str p.1 p.2] = strValues (compsOf (l.take (i + 1))) := by
  rw [List.take_add_one, h]
  simp [compsOf, strValues, List.filter_append, hk]
theorem take_skip {l : List (Str × Tok)} {i : Nat} {p : Str × Tok} (h : l[i]? = some p) (hk : keepC p.1 = false) : strValues (compsOf (l.take i)) = strValues (compsOf (l.take (i + 1))) := by
  rw [List.take_add_one, h]
  simp [compsOf, strValues, List.filter_append, hk]
theorem sv_len {l : List (Str × Tok)} : (strValues l).toArray.size = l.length := by simp [strValues]
theorem mem_sum {l : List Nat} {a : Nat} (h : a ∈ l) : a ≤ l.sum := by
  induction l with
  | nil => cases h
  | cons b r ih =>
    rw [List.sum_cons]
    rcases List.mem_cons.mp h with rfl | h
    · omega
    · have := ih h; omega
theorem part_le {l : List (Str × Tok)} {x : Str} {i : Nat} {c : Str} {tc : Tok} (e : l.map (·.1) = Txt.split x (Str.ofString "/")) (hx : x.length ≤ 200) (hp : l[i]? = some (c, tc)) : c.length ≤ 201 := by
  have h := split_weight x (Str.ofString "/") (by decide)
  rw [← e] at h
  have hm : c.length ∈ (l.map (·.1)).map (·.length) := by
    rw [List.map_map]
    exact List.mem_map.mpr ⟨(c, tc), List.mem_of_getElem? hp, rfl⟩
  have := mem_sum hm
  omega
theorem keep_yes {c : Str} (h : (c.length : Int) ≠ 0) (h2 : (c != Str.ofString ".") = true) : keepC c = true := by
  unfold keepC
  rw [h2, Bool.and_true, decide_eq_true_eq]
  omega
theorem keep_dot {c : Str} (h2 : (c != Str.ofString ".") = false) : keepC c = false := by unfold keepC; rw [h2, Bool.and_false]
theorem keep_nil {c : Str} (h : (c.length : Int) = 0) : keepC c = false := by
  unfold keepC
  rw [Bool.and_eq_false_iff, decide_eq_false_iff_not]
  exact .inl (by omega)
theorem take_all {l : List (Str × Tok)} : strValues (compsOf (l.take (strValues l).toArray.size)) = strValues (compsOf l) := by rw [sv_len, List.take_of_length_le (Nat.le_refl _)]
end
section
/-! enumerate over a tuple: the maker and the drawing -/
set_option maxRecDepth 100000 in
theorem meetsEnumT (l : Addr) (items : Array Value) (n : Nat) (dct : Option Addr) (sl : Array (Option Value)) :
    Meets (Builtin.«enumerate.__new__» ⟨[.type "enumerate", .ref l], []⟩) (fun _ R s => s.heap.get? l = some { cls := .type "tuple", dict := dct, data := .seq items n, slots := sl } ∧
      R (.ok (.ret (.ref (s.heap.push { cls := .type "tuple_iterator", data := .fields #[.ref l, .int 0 0] }).objs.size)))
        { s with heap := (s.heap.push { cls := .type "tuple_iterator", data := .fields #[.ref l, .int 0 0] }).push { cls := .type "enumerate", data := .fields #[.none, .bool false, .ref s.heap.objs.size, rawInt 0, .none, .none] } }) :=
  .of_wp fun prog w A R s h => by
    obtain ⟨hp, g, d, tk, os⟩ := s; obtain ⟨hl, h⟩ := h
    have hsub := sub_enumerate
    have hL : Heap.IsTuple (Shared.heap ⟨hp, g, d, tk, os⟩) l items := ⟨_, hl, rfl, n, rfl⟩
    wp_walk using AutoSeq1.wpAny_loadPart' hl
    refine wpAny_stack_any fun st => wpAny_pure ?_
    split
    · rename_i c _ _ _ _ _
      cases (c == Value.type "enumerate")
      · wp_walk using AutoSeq1.wpAny_loadPart' hl, wpAny_pyIter_tuple hL
        exact ⟨_, rfl, h⟩
      · wp_walk using AutoSeq1.wpAny_loadPart' hl, wpAny_pyIter_tuple hL
        exact ⟨_, rfl, h⟩
    · wp_walk using AutoSeq1.wpAny_loadPart' hl, wpAny_pyIter_tuple hL
      exact ⟨_, rfl, h⟩
section
variable {prog : Program} {w : World} {A : Around} {E : Value → Shared → Prop} {s : Shared}
theorem enumCallT {l : Addr} {items : Array Value} {Q : Value → Shared → Prop} (hL : s.heap.IsTuple l items)
    (h : ∀ h', IsEnum h' (s.heap.objs.size + 1) s.heap.objs.size 0 .none → h'.IsTupleIter s.heap.objs.size l 0 → h'.objs.size = s.heap.objs.size + 2 →
      (∀ b o, s.heap.get? b = some o → h'.get? b = some o) → Q (.ref (s.heap.objs.size + 1)) { s with heap := h' }) :
    wpAny (model prog w) A (call (.type "enumerate") [.ref l]) Q E s := by
  obtain ⟨⟨c, dct, dt, sl⟩, hl, hc, n, hd⟩ := hL
  replace hc : c = .type "tuple" := hc
  replace hd : dt = .seq items n := hd
  subst hc hd
  refine callType_new F.called_enumerate (by decide) (F.typeCall_enumerate_1 _) (F.newCall_enumerate_1 _) (fun obj => F.args_object_init_2 obj _) F.entry_enumerate_new
    (meetsEnumT l items n dct sl) ⟨hl, ?_⟩
  have hz : (s.heap.push { cls := .type "tuple_iterator", data := .fields #[.ref l, .int 0 0] }).objs.size = s.heap.objs.size + 1 := Heap.size_push ..
  show _ ∧ _
  rw [hz]
  have he : IsEnum ((s.heap.push { cls := .type "tuple_iterator", data := .fields #[.ref l, .int 0 0] }).push
      { cls := .type "enumerate", data := .fields #[.none, .bool false, .ref s.heap.objs.size, rawInt 0, .none, .none] }) (s.heap.objs.size + 1) s.heap.objs.size 0 .none := by
    have := Heap.get?_push_size (s.heap.push { cls := .type "tuple_iterator", data := .fields #[.ref l, .int 0 0] })
      (o := { cls := .type "enumerate", data := .fields #[.none, .bool false, .ref s.heap.objs.size, rawInt 0, .none, .none] }) rfl
    rw [hz] at this; exact this
  refine ⟨⟨_, he, rfl⟩, h _ he ⟨_, Heap.get?_push_of_some _ (Heap.get?_push_size _ rfl), rfl, rfl⟩ (by rw [Heap.size_push, hz]) fun b o x => Heap.get?_push_of_some _ (Heap.get?_push_of_some _ x)⟩
theorem nextTupItem {it t : Addr} {i : Nat} {items} {x : Value} {Q : Value → Shared → Prop} (hit : s.heap.IsTupleIter it t i)
    (ht : s.heap.IsTuple t items) (hx : items[i]? = some x)
    (hQ : ∀ h', h'.IsTupleIter it t (i + 1) → Heap.SameBut it s.heap h' → Q x { s with heap := h' }) :
    wpAny (model prog w) A (Builtin.SmallTypes.nextOf (.ref it)) Q E s := by
  obtain ⟨o, ho, hc, hd⟩ := id hit
  obtain ⟨ol, hol, _, nl, hdl⟩ := ht
  unfold Builtin.SmallTypes.nextOf
  refine wpAny_bind (wpAny_callSpecial?_slot (name := Str.ofString "__next__") hit.typeIs F.slot_tuple_iterator_next
    (wpAny_call_entry F.slot_tuple_iterator_next hit.typeIs F.entry_tuple_iterator_next ?_ (F.args_tuple_iterator_next_1 _)))
  show wpAny _ _ (field (.ref it) 0 >>= _) _ _ s
  refine wpAny_bind (wpAny_field ho hd (x := .ref t) rfl ?_)
  show wpAny _ _ (if (Value.ref t == Value.none) = true then _ else _) _ _ s
  rw [if_neg (show ¬ ((Value.ref t == Value.none) = true) from Bool.false_ne_true)]
  show wpAny _ _ (field (.ref it) 1 >>= _) _ _ s
  refine wpAny_bind (wpAny_field ho hd (x := .int i 0) rfl ?_)
  show wpAny _ _ (seqItems? (.ref t) >>= _) _ _ s
  refine wpAny_bind (wpAny_seqItems hol hdl ?_)
  simp only [Int.toNat_natCast, hx]
  refine wpAny_bind (wpAny_setField ho hd (by simp) (wpAny_pure ⟨x, rfl, wpAny_pure (hQ _ ?_ (Heap.SameBut.update ..))⟩))
  exact ⟨_, Heap.get?_update_self _ ho (Obj.isFreed_of_fields (Obj.data_mapFields hd _)), (Obj.cls_mapFields ..).trans hc, by
    rw [Obj.data_mapFields hd]; simp [rawInt]⟩
theorem nextTupEnd {it t : Addr} {i : Nat} {items} {Q : Value → Shared → Prop} (hh : A.handled = none)
    (hit : s.heap.IsTupleIter it t i) (ht : s.heap.IsTuple t items) (hx : items[i]? = none)
    (hE : ∀ h' e, Heap.ExtBut it s.heap h' → (∃ o, h'.get? e = some o ∧ o.cls = .type "StopIteration") → E (.ref e) { s with heap := h' }) :
    wpAny (model prog w) A (Builtin.SmallTypes.nextOf (.ref it)) Q E s := by
  obtain ⟨o, ho, hc, hd⟩ := id hit
  obtain ⟨ol, hol, _, nl, hdl⟩ := ht
  unfold Builtin.SmallTypes.nextOf
  refine wpAny_bind (wpAny_callSpecial?_slot (name := Str.ofString "__next__") hit.typeIs F.slot_tuple_iterator_next
    (wpAny_call_entry F.slot_tuple_iterator_next hit.typeIs F.entry_tuple_iterator_next ?_ (F.args_tuple_iterator_next_1 _)))
  show wpAny _ _ (field (.ref it) 0 >>= _) _ _ s
  refine wpAny_bind (wpAny_field ho hd (x := .ref t) rfl ?_)
  show wpAny _ _ (if (Value.ref t == Value.none) = true then _ else _) _ _ s
  rw [if_neg (show ¬ ((Value.ref t == Value.none) = true) from Bool.false_ne_true)]
  show wpAny _ _ (field (.ref it) 1 >>= _) _ _ s
  refine wpAny_bind (wpAny_field ho hd (x := .int i 0) rfl ?_)
  show wpAny _ _ (seqItems? (.ref t) >>= _) _ _ s
  refine wpAny_bind (wpAny_seqItems hol hdl ?_)
  simp only [Int.toNat_natCast, hx]
  refine wpAny_bind (wpAny_rule (wpAny_bind (wpAny_setField ho hd (by simp) ?_)))
  show wpAny _ _ (newExc (.type "StopIteration") [] >>= _) _ _ _
  refine wpAny_bind ?_
  simp only [newExc, newTuple]
  refine wpAny_bind (wpAny_newObj_type ?_ (by size_fits))
  refine wpAny_bind (m := firstArgMember _ _) (wpAny_of_eq (a := Value.none) (by first | rfl | (simp only [firstArgMember]; rfl)) ?_)
  refine wpAny_newObj_type ?_ (by size_fits)
  simp only [raiseNew]
  refine wpAny_bind (wpAny_handled ?_)
  first | rw [show A.in1.handled = none from hh] | rw [hh]
  refine wpAny_bind (wpAny_pure (wpAny_throw ?_))
  exact hE _ _ (((Heap.SameBut.update ..).extBut.push _).push _) ⟨_, Heap.get?_push_size _ rfl, rfl⟩
theorem drawsTup (hh : A.handled = none) (it l : Addr) (hne : l ≠ it) (items : Array Value) :
    Draws prog w A it [it, l] items.size (fun i v => items[i]? = some v) (fun i h => h.IsTupleIter it l i ∧ h.IsTuple l items) where
  live := fun _ _ st => let ⟨o, ho, _⟩ := st.1; ⟨o, ho⟩
  frame := fun _ _ _ st hk => ⟨st.1.at fun o e => hk it (by simp) o e, st.2.at fun o e => hk l (by simp) o e⟩
  item := fun i s Q E hi st hQ => by
    refine nextTupItem st.1 st.2 (x := items[i]) (by simp [hi]) fun h' hit' hs' => ?_
    exact hQ _ h' s.toks (by simp [hi]) ⟨hit', st.2.extBut hs'.extBut hne⟩ hs'
  done := fun s Q E st hE => nextTupEnd hh st.1 st.2 (by simp) hE
end
end
section
section
variable {prog : Program} {w : World} {A : Around} {E : Value → Shared → Prop} {s : Shared} {env : Env} {h₀ : Heap} {Q : Flow → Shared → Prop}
theorem goTup {elts : List Expr} {x1 : Nat} {pos : Pos} {I l T : Addr} {i : Nat} {E : Value → Shared → Prop} {Q : Unit → Shared → Prop} (hit : s.heap.IsTupleIter I l i) (hQ : Q () s) :
    wpAny (model prog w) A (letOwnedTupleGo (.Tuple elts x1 pos) (.ref I) (.ref T)) Q E s := by
  obtain ⟨o, ho, hc, hd⟩ := hit
  unfold letOwnedTupleGo
  refine wpAny_bind (wpAny_load ho ?_)
  rw [hc, hd]
  show wpAny _ _ (if _ then _ else _) _ _ _
  rw [if_neg (by simp)]
  exact wpAny_pure hQ
theorem for_pairs {xb xc : Str} {pb pc pt : Pos} {k : Nat} {body orelse : List Stmt} {β : Type} {items : List β} {ad : β → Addr} {v1 v2 : β → Value} {T : Addr} {m : Str → Option Value} {news : List (Addr × Obj)}
    (J : Nat → (Str → Option Value) → List (Addr × Obj) → Prop) (hh : A.handled = none) (hxb : env.kindOf xb = some .local) (hxc : env.kindOf xc = some .local)
    (hp : (env.scope.kind == .class || (env.scope.kind == .module && env.locals != env.globals)) = false)
    (hT : IsTup h₀ T (items.map fun b => Value.ref (ad b)).toArray) (hit : ∀ b ∈ items, IsTup h₀ (ad b) #[v1 b, v2 b])
    (F : Fr h₀ env.locals s.heap m) (N : News h₀ env.locals s.heap news) (h0 : J 0 m news)
    (turn : ∀ i b m₁ news₁ h tk own, items[i]? = some b → J i m₁ news₁ → news₁.map (·.1) = news.map (·.1) → OwnOff own (news.map (·.1)) →
      Fr h₀ env.locals h (fun y => if y = xc then some (v2 b) else if y = xb then some (v1 b) else m₁ y) → News h₀ env.locals h (news₁ ++ own) →
      wpAny (model prog w) A (execs body env) (InvPostN h₀ env.locals (J (i + 1)) own (news.map (·.1)) { s with heap := h, toks := tk } Q) E { s with heap := h, toks := tk })
    (fin : ∀ m₁ news₁ h tk, J items.length m₁ news₁ → news₁.map (·.1) = news.map (·.1) → Fr h₀ env.locals h m₁ → News h₀ env.locals h news₁ → wpAny (model prog w) A (execs orelse env) Q E { s with heap := h, toks := tk })
    (hE : PassesOwn (model prog w) A env E) :
    wpAny (model prog w) A (pyIter (.ref T)) (fun it s₂ => codeAny (model prog w) A (.forLoop (.Tuple [.Name xb pb, .Name xc pc] k pt) it body orelse env)
      (fun r s' => match r with | .ok f => Q f s' | .error e => cameBackBy (model prog w) A env E e s') s₂) E s := by
  have hTs : s.heap.IsTuple T (items.map fun b => Value.ref (ad b)).toArray := hT.keeps F.keep
  have hTlt : T < h₀.objs.size := hT.lt
  have hTne : T ≠ s.heap.objs.size := Nat.ne_of_lt (Nat.lt_trans (Nat.lt_of_lt_of_le hTlt F.above) F.ns.lt)
  have hLne : env.locals ≠ s.heap.objs.size := Nat.ne_of_lt F.ns.lt
  have hI0 : h₀.get? s.heap.objs.size = none := next_is_new F
  refine wpAny_pyIter_tuple hTs ?_
  refine codeAny_forLoop_any
    (fun k s' => ∃ h tk m' news' i, s' = { s with heap := h, toks := tk } ∧ h.IsTupleIter s.heap.objs.size T i ∧ Fr h₀ env.locals h m' ∧ News h₀ env.locals h news' ∧ news'.map (·.1) = news.map (·.1) ∧ J i m' news' ∧ i ≤ items.length ∧ k = items.length + 1 - i) ?_ (items.length + 1)
    ⟨_, s.toks, m, news, 0, rfl, ⟨_, Heap.get?_push_size _ rfl, rfl, rfl⟩, F.push _, (fun p hp => ⟨Heap.get?_push_of_some _ (N p hp).1, (N p hp).2⟩), rfl, h0, Nat.zero_le _, rfl⟩
  rintro k s' ⟨H, tk, m', news', i, rfl, hiter, F', N', ha', hJ, hi, rfl⟩
  have hoff : ∀ p ∈ news', p.1 ≠ s.heap.objs.size := fun p hp e => by
    have : p.1 ∈ news.map (·.1) := ha' ▸ List.mem_map.mpr ⟨p, hp, rfl⟩
    obtain ⟨q, hq, e'⟩ := List.mem_map.mp this
    exact absurd (Heap.lt_size (N q hq).1) (by rw [e', e]; exact Nat.lt_irrefl _)
  have hTH : H.IsTuple T (items.map fun b => Value.ref (ad b)).toArray := hT.keeps F'.keep
  by_cases hlt : i < items.length
  · have hx : (items.map fun b => Value.ref (ad b)).toArray[i]? = some (Value.ref (ad items[i])) := by simp [hlt]
    refine wpAny_pyNext_tuple_item hiter hTH hx fun h₁ hit₁ hs₁ => ?_
    have F₁ : Fr h₀ env.locals h₁ m' := F'.change hs₁ (Ne.symm hLne) hI0
    have N₁ : News h₀ env.locals h₁ news' := fun p hp => ⟨(hs₁.2 _ (hoff p hp)).trans (N' p hp).1, (N' p hp).2⟩
    refine goTup hit₁ ?_
    have hb : items[i] ∈ items := List.getElem_mem hlt
    refine wpAny_assign_Tuple hh ((hit _ hb).keeps F₁.keep) rfl rfl fun h₃ hx₃ => ?_
    replace hx₃ : Heap.ExtBut h₁.objs.size h₁ h₃ := hx₃
    have up₃ : ∀ b o, h₁.get? b = some o → h₃.get? b = some o := fun b o x => hx₃ b o (Nat.ne_of_lt (Heap.lt_size x)) x
    have F₃ := F₁.keeps up₃
    have N₃ := N₁.grown up₃
    show wpAny _ A (do holding [v2 items[i]] (assign (.Name xb pb) env (v1 items[i])); do holding [] (assign (.Name xc pc) env (v2 items[i])); pure ()) _ _ _
    refine wpAny_bind (wpAny_holding (wpAny_assign_Name (wpAny_storeName_local hxb F₃.ns (fun h₄ hn₄ hs₄ => ?_) hp)))
    replace hs₄ : Heap.SameBut env.locals h₃ h₄ := hs₄
    have F₄ := F₃.set hn₄ hs₄
    refine wpAny_bind (wpAny_holding (wpAny_assign_Name (wpAny_storeName_local hxc F₄.ns (fun h₅ hn₅ hs₅ => wpAny_pure ?_) hp)))
    replace hs₅ : Heap.SameBut env.locals h₄ h₅ := hs₅
    have F₅ := F₄.set hn₅ hs₅
    have N₅ : News h₀ env.locals h₅ news' := (N₃.set hs₄).set hs₅
    have hit₅ : h₅.IsTupleIter s.heap.objs.size T (i + 1) := hit₁.at fun o e => hs₅.extBut _ o (Ne.symm hLne) (hs₄.extBut _ o (Ne.symm hLne) (up₃ _ o e))
    obtain ⟨oI, hoI, hcI, hdI⟩ := id hit₅
    have NN : News h₀ env.locals h₅ (news' ++ [(s.heap.objs.size, oI)]) := fun p hp => by
      rcases List.mem_append.mp hp with hp | hp
      · exact N₅ p hp
      · rw [List.mem_singleton.mp hp]; exact ⟨hoI, Ne.symm hLne, hI0⟩
    have OO : OwnOff [(s.heap.objs.size, oI)] (news.map (·.1)) := fun p hp b hb e => by
      rw [List.mem_singleton.mp hp] at e
      obtain ⟨q, hq, e'⟩ := List.mem_map.mp hb
      exact absurd (Heap.lt_size (N q hq).1) (by rw [e', ← e]; exact Nat.lt_irrefl _)
    refine wpAny_mono (wpAny_passesOwn hE (turn i items[i] m' news' h₅ _ [(s.heap.objs.size, oI)] (by simp [hlt]) hJ ha' OO F₅ NN)) (fun f s₃ h₆ => ?_) fun _ _ e => e
    have go : InvEndN h₀ env.locals (J (i + 1)) [(s.heap.objs.size, oI)] (news.map (·.1)) { s with heap := h₅, toks := tk + 1 + 1 } s₃ → ∃ k', k' < items.length + 1 - i ∧ ∃ h tk m' news' i, s₃ = { s with heap := h, toks := tk } ∧ h.IsTupleIter s.heap.objs.size T i ∧ Fr h₀ env.locals h m' ∧ News h₀ env.locals h news' ∧ news'.map (·.1) = news.map (·.1) ∧ J i m' news' ∧ i ≤ items.length ∧ k' = items.length + 1 - i := by
      rintro ⟨h', tk', m2, news2, nx, rfl, F2, N2, hn2, ho2, ha2, hj2⟩
      refine ⟨items.length + 1 - (i + 1), by omega, h', tk', m2, nx, i + 1, rfl, ?_, F2, fun p hp => N2 p (hn2 p hp), ha2, hj2, hlt, rfl⟩
      exact ⟨oI, (N2 _ (ho2 _ (List.mem_singleton.mpr rfl))).1, hcI, hdI⟩
    cases f with
    | ret v => exact h₆
    | brk => exact h₆
    | next => exact go h₆
    | cont => exact go h₆
  · have hin : i = items.length := by omega
    subst hin
    refine wpAny_pyNext_tuple_end hh hiter hTH (by simp) fun h₁ hx₁ => ?_
    have F₁ : Fr h₀ env.locals h₁ m' := ⟨F'.ns.extBut hx₁ hLne, fun b o e => hx₁ b o (fun q => by rw [q, hI0] at e; cases e) (F'.keep b o e), F'.above⟩
    have N₁ : News h₀ env.locals h₁ news' := fun p hp => ⟨hx₁ _ _ (hoff p hp) (N' p hp).1, (N' p hp).2⟩
    exact wpAny_passesOwn hE (fin m' news' h₁ tk hJ ha' F₁ N₁)
theorem enumT_at {xi xc : Str} {body : List Stmt} {T : Addr} {vs : List Value} {m : Str → Option Value} {news : List (Addr × Obj)} (J : Nat → (Str → Option Value) → List (Addr × Obj) → Prop) (hh : A.handled = none)
    (hT : IsTup h₀ T vs.toArray) (F : Fr h₀ env.locals s.heap m) (N : News h₀ env.locals s.heap news) (h0 : J 0 m news)
    (turn : ∀ i v t m₁ news₁ h tk own, vs[i]? = some v → J i m₁ news₁ → news₁.map (·.1) = news.map (·.1) → OwnOff own (news.map (·.1)) → 
      Fr h₀ env.locals h (fun y => if y = xc then some v else if y = xi then some (.int (i : Int) t) else m₁ y) → News h₀ env.locals h (news₁ ++ own) →
      wpAny (model prog w) A (execs body env) (InvPostN h₀ env.locals (J (i + 1)) own (news.map (·.1)) { s with heap := h, toks := tk } Q) E { s with heap := h, toks := tk })
    (done : ∀ m₁ news₁ h tk, J vs.length m₁ news₁ → news₁.map (·.1) = news.map (·.1) → Fr h₀ env.locals h m₁ → News h₀ env.locals h news₁ → Q .next { s with heap := h, toks := tk }) :
    wpAny (model prog w) A (call (.type "enumerate") [.ref T]) (fun v s' => wpAny (model prog w) A (pyIter v) (fun it s₂ => PairAt3 prog w A h₀ env xi xc body Q E it s₂) E s') E s := by
  have hTs : s.heap.IsTuple T vs.toArray := hT.keeps F.keep
  have hTlt : T < s.heap.objs.size := (hT.keeps F.keep).lt
  have hLs : env.locals < s.heap.objs.size := F.ns.lt
  refine enumCallT hTs fun h' he hit hsz hk => ?_
  have F' : Fr h₀ env.locals h' m := F.keeps hk
  have N' : News h₀ env.locals h' news := N.grown hk
  refine wpAny_pyIter_enum he ?_
  have hfn : ∀ q ∈ news, q.1 < s.heap.objs.size := fun q hq => Heap.lt_size (N q hq).1
  have hLT : env.locals ≠ T := Nat.ne_of_gt (Nat.lt_of_lt_of_le hT.lt F.above)
  refine ⟨s.heap.objs.size + 1, _, _, vs.toArray.size, _, _, _, (fun i v0 v1 => ∃ t, v0 = .int i t ∧ vs[i]? = some v1), m, news, J, rfl,
    WalksT.enumerateD (drawsTup (A := A.in1) hh s.heap.objs.size T (Nat.ne_of_lt hTlt) vs.toArray) (s.heap.objs.size + 1) (Nat.succ_ne_self _) ?_ (by simp), ?_, ?_, ?_, ?_, ⟨⟨_, by simpa using he⟩, hit, hTs.at fun o e => hk T o e⟩, F', N', h0, ?_, ?_⟩
  · intro hm
    rcases List.mem_cons.mp hm with e | hm
    · exact Nat.succ_ne_self _ e
    · exact Nat.ne_of_gt (Nat.lt_succ_of_lt hTlt) (List.mem_singleton.mp hm)
  · rintro i vals ⟨t, x, hPx, rfl⟩
    exact ⟨_, _, rfl, t, rfl, by simpa using hPx⟩
  · intro hm
    rcases List.mem_cons.mp hm with e | hm
    · exact Nat.ne_of_lt (Nat.lt_succ_of_lt hLs) e
    · rcases List.mem_cons.mp hm with e | hm
      · exact Nat.ne_of_lt hLs e
      · exact hLT (List.mem_singleton.mp hm)
  · intro b hb
    rcases List.mem_cons.mp hb with rfl | hb
    · exact Heap.get?_none_of_le (Nat.le_trans F.above (Nat.le_of_lt (Nat.lt_succ_of_lt hLs)))
    · rw [List.mem_singleton.mp hb]; exact next_is_new F
  · intro p hp hb
    rcases List.mem_cons.mp hb with e1 | hb
    · exact Nat.ne_of_lt (Nat.lt_succ_of_lt (hfn p hp)) e1
    · exact Nat.ne_of_lt (hfn p hp) (List.mem_singleton.mp hb)
  · rintro i v0 v1 m₁ news₁ s₁ own ⟨hh', tk', rfl⟩ _ ⟨t, rfl, hv⟩ hJ ha hsub F₁ N₁
    have N₂ : News h₀ env.locals hh' (news₁ ++ own) := fun p hp => N₁ p ((List.mem_append.mp hp).elim (fun h => List.mem_append.mpr (.inr h)) fun h => List.mem_append.mpr (.inl h))
    have hsep : OwnOff own (news.map (·.1)) := by
      intro p hp b hb e
      obtain ⟨q, hq, rfl⟩ := List.mem_map.mp hb
      rcases List.mem_cons.mp (hsub p hp) with h1 | h1
      · exact Nat.ne_of_lt (Nat.lt_succ_of_lt (hfn q hq)) (e.symm.trans h1)
      · rcases List.mem_cons.mp h1 with h1 | h1
        · exact Nat.ne_of_lt (hfn q hq) (e.symm.trans h1)
        · have h2 : q.1 = T := e.symm.trans (List.mem_singleton.mp h1)
          obtain ⟨oT, hoT, _⟩ := hT
          have h3 := (N q hq).2.2
          rw [h2, hoT] at h3
          cases h3
    refine wpAny_mono (turn i v1 t m₁ news₁ hh' tk' own hv hJ ha hsep F₁ N₂) (fun f s₂ p => ?_) fun _ _ e => e
    have go : InvEndN h₀ env.locals (J (i + 1)) own (news.map (·.1)) { s with heap := hh', toks := tk' } s₂ → LoopStep2 h₀ env.locals own news₁ (J (i + 1)) { s with heap := hh', toks := tk' } .next s₂ := by
      rintro ⟨h2, tk2, m2, news2, nx, rfl, F2, N2, hn2, ho2, ha2, hj2⟩
      exact ⟨rfl, h2, tk2, m2, nx, rfl, F2, fun p hp => N2 p ((List.mem_append.mp hp).elim (ho2 p) (hn2 p)), ha2.trans ha.symm, hj2⟩
    cases f with
    | ret v => exact p
    | brk => exact p
    | next => exact go p
    | cont => exact go p
  · intro h2 tk m' news' F2 N2 ha hJ
    exact done m' news' h2 tk (by simpa using hJ) ha F2 N2
theorem enumL_at {xi xc : Str} {body : List Stmt} {T : Addr} {vs : List Value} {m : Str → Option Value} {news : List (Addr × Obj)} (J : Nat → (Str → Option Value) → List (Addr × Obj) → Prop) (hh : A.handled = none)
    (hT : ∃ n, (T, listOf vs.toArray n) ∈ news) (F : Fr h₀ env.locals s.heap m) (N : News h₀ env.locals s.heap news) (h0 : J 0 m news)
    (turn : ∀ i v t m₁ news₁ h tk own, vs[i]? = some v → J i m₁ news₁ → news₁.map (·.1) = news.map (·.1) → 
      Fr h₀ env.locals h (fun y => if y = xc then some v else if y = xi then some (.int (i : Int) t) else m₁ y) → News h₀ env.locals h (news₁ ++ own) →
      wpAny (model prog w) A (execs body env) (InvPostN h₀ env.locals (J (i + 1)) own (news.map (·.1)) { s with heap := h, toks := tk } Q) E { s with heap := h, toks := tk })
    (done : ∀ m₁ news₁ h tk, J vs.length m₁ news₁ → news₁.map (·.1) = news.map (·.1) → Fr h₀ env.locals h m₁ → News h₀ env.locals h news₁ → Q .next { s with heap := h, toks := tk }) :
    wpAny (model prog w) A (call (.type "enumerate") [.ref T]) (fun v s' => wpAny (model prog w) A (pyIter v) (fun it s₂ => PairAt3 prog w A h₀ env xi xc body Q E it s₂) E s') E s := by
  obtain ⟨nT, hTm⟩ := hT
  have hTs : s.heap.IsList T vs.toArray := ⟨_, (N _ hTm).1, rfl, nT, rfl⟩
  have hTlt : T < s.heap.objs.size := Heap.lt_size (N _ hTm).1
  have hLs : env.locals < s.heap.objs.size := F.ns.lt
  refine call_enumerate_list hTs fun h' he hit hsz hk => ?_
  have F' : Fr h₀ env.locals h' m := F.keeps hk
  have N' : News h₀ env.locals h' news := N.grown hk
  refine wpAny_pyIter_enum he ?_
  have hfn : ∀ q ∈ news, q.1 < s.heap.objs.size := fun q hq => Heap.lt_size (N q hq).1
  have hLT : env.locals ≠ T := Ne.symm (N _ hTm).2.1
  refine ⟨s.heap.objs.size + 1, _, _, vs.toArray.size, _, _, _, (fun i v0 v1 => ∃ t, v0 = .int i t ∧ vs[i]? = some v1), m, news, J, rfl,
    WalksT.enumerateD (Draws.list (A := A.in1) hh s.heap.objs.size T (Nat.ne_of_lt hTlt) vs.toArray) (s.heap.objs.size + 1) (Nat.succ_ne_self _) ?_ (by simp), ?_, ?_, ?_, ?_, ⟨⟨_, by simpa using he⟩, hit, hTs.at fun o e => hk T o e⟩, F', N', h0, ?_, ?_⟩
  · intro hm
    rcases List.mem_cons.mp hm with e | hm
    · exact Nat.succ_ne_self _ e
    · exact Nat.ne_of_gt (Nat.lt_succ_of_lt hTlt) (List.mem_singleton.mp hm)
  · rintro i vals ⟨t, x, hPx, rfl⟩
    exact ⟨_, _, rfl, t, rfl, by simpa using hPx⟩
  · intro hm
    rcases List.mem_cons.mp hm with e | hm
    · exact Nat.ne_of_lt (Nat.lt_succ_of_lt hLs) e
    · rcases List.mem_cons.mp hm with e | hm
      · exact Nat.ne_of_lt hLs e
      · exact hLT (List.mem_singleton.mp hm)
  · intro b hb
    rcases List.mem_cons.mp hb with rfl | hb
    · exact Heap.get?_none_of_le (Nat.le_trans F.above (Nat.le_of_lt (Nat.lt_succ_of_lt hLs)))
    · rw [List.mem_singleton.mp hb]; exact next_is_new F
  · intro p hp hb
    rcases List.mem_cons.mp hb with e1 | hb
    · exact Nat.ne_of_lt (Nat.lt_succ_of_lt (hfn p hp)) e1
    · exact Nat.ne_of_lt (hfn p hp) (List.mem_singleton.mp hb)
  · rintro i v0 v1 m₁ news₁ s₁ own ⟨hh', tk', rfl⟩ _ ⟨t, rfl, hv⟩ hJ ha hsub F₁ N₁
    have N₂ : News h₀ env.locals hh' (news₁ ++ own) := fun p hp => N₁ p ((List.mem_append.mp hp).elim (fun h => List.mem_append.mpr (.inr h)) fun h => List.mem_append.mpr (.inl h))
    refine wpAny_mono (turn i v1 t m₁ news₁ hh' tk' own hv hJ ha F₁ N₂) (fun f s₂ p => ?_) fun _ _ e => e
    have go : InvEndN h₀ env.locals (J (i + 1)) own (news.map (·.1)) { s with heap := hh', toks := tk' } s₂ → LoopStep2 h₀ env.locals own news₁ (J (i + 1)) { s with heap := hh', toks := tk' } .next s₂ := by
      rintro ⟨h2, tk2, m2, news2, nx, rfl, F2, N2, hn2, ho2, ha2, hj2⟩
      exact ⟨rfl, h2, tk2, m2, nx, rfl, F2, fun p hp => N2 p ((List.mem_append.mp hp).elim (ho2 p) (hn2 p)), ha2.trans ha.symm, hj2⟩
    cases f with
    | ret v => exact p
    | brk => exact p
    | next => exact go p
    | cont => exact go p
  · intro h2 tk m' news' F2 N2 ha hJ
    exact done m' news' h2 tk (by simpa using hJ) ha F2 N2
end
end
section
theorem svl_at {l : List (Str × Tok)} {i : Nat} {v : Value} (h : (strValues l)[i]? = some v) : ∃ p, l[i]? = some p ∧ v = .str p.1 p.2 := by
  simp only [strValues, List.getElem?_map, Option.map_eq_some_iff] at h
  obtain ⟨p, h1, h2⟩ := h
  exact ⟨p, h1, h2.symm⟩
noncomputable def CmJ (V1 V2 : Addr) (l1 l2 : List (Str × Tok)) (all : List (Addr × Obj)) (i : Nat) (m : Str → Option Value) (nx : List (Addr × Obj)) : Prop :=
  nx = all ∧ m (Str.ofString "common") = some (.ref V1) ∧ m (Str.ofString "s1") = some (.ref V1) ∧ m (Str.ofString "s2") = some (.ref V2) ∧ m (Str.ofString "isabs") = some (.bool true) ∧ ∀ k, k < i → (l1.map (·.1))[k]? = (l2.map (·.1))[k]?
theorem cm_more {l1 l2 : List (Str × Tok)} {i : Nat} {c d : Str} {tc td : Tok} (h : ∀ k, k < i → (l1.map (·.1))[k]? = (l2.map (·.1))[k]?) (h1 : l1[i]? = some (c, tc)) (h2 : l2[i]? = some (d, td)) (he : (c != d) = false) :
    ∀ k, k < i + 1 → (l1.map (·.1))[k]? = (l2.map (·.1))[k]? := by
  intro k hk
  by_cases hki : k < i
  · exact h k hki
  · obtain rfl : k = i := by omega
    have e : c = d := by simpa using he
    simp only [List.getElem?_map, h1, h2, Option.map_some, e]
section
variable {h₀ : Heap} {L : Addr}
theorem cm_end {V1 V2 : Addr} {l1 l2 : List (Str × Tok)} {i : Nat} {all own rest : List (Addr × Obj)} {s₁ : Shared} {h' : Heap} {tk : Nat} {m' : Str → Option Value}
    (F : Fr h₀ L h' m') (N : News h₀ L h' rest) (he : rest = all ++ own) (e0 : m' (Str.ofString "common") = some (.ref V1)) (e1 : m' (Str.ofString "s1") = some (.ref V1)) (e2 : m' (Str.ofString "s2") = some (.ref V2)) (e3 : m' (Str.ofString "isabs") = some (.bool true))
    (e4 : ∀ k, k < i + 1 → (l1.map (·.1))[k]? = (l2.map (·.1))[k]?) :
    InvEndN h₀ L (CmJ V1 V2 l1 l2 all (i + 1)) own (all.map (·.1)) s₁ { s₁ with heap := h', toks := tk } := by
  subst he
  exact InvEndN.intro F N ⟨rfl, e0, e1, e2, e3, e4⟩ rfl (fun p hp => List.mem_append_left _ hp) (fun p hp => List.mem_append_right _ hp)
end
theorem sv_are : ∀ l : List (Str × Tok), StrsAre (strValues l) (l.map (·.1))
  | [] => .nil
  | (c, t) :: r => .cons c t (sv_are r)
theorem filter_sum (p : Str × Tok → Bool) : ∀ l : List (Str × Tok), (((l.filter p).map (·.1)).map (·.length)).sum + (l.filter p).length ≤ ((l.map (·.1)).map (·.length)).sum + l.length
  | [] => Nat.le_refl _
  | a :: r => by
    have ih := filter_sum p r
    rw [List.filter_cons]
    split <;> simp only [List.map_cons, List.sum_cons, List.length_cons] <;> omega
theorem take_sum : ∀ (l : List (Str × Tok)) (i : Nat), (((l.take i).map (·.1)).map (·.length)).sum + (l.take i).length ≤ ((l.map (·.1)).map (·.length)).sum + l.length
  | [], i => by simp
  | a :: r, 0 => by simp
  | a :: r, i + 1 => by
    have ih := take_sum r i
    simp only [List.take_succ_cons, List.map_cons, List.sum_cons, List.length_cons]; omega
noncomputable def wt (l : List (Str × Tok)) : Nat := ((l.map (·.1)).map (·.length)).sum + l.length
theorem wt_comps {l : List (Str × Tok)} {x : Str} (e : l.map (·.1) = Txt.split x (Str.ofString "/")) (hx : x.length ≤ 200) : wt (compsOf l) ≤ 201 := by
  have h := split_weight x (Str.ofString "/") (by decide)
  have h2 := filter_sum (fun p => keepC p.1) l
  rw [← e] at h
  have e2 : (l.map (·.1)).length = l.length := by simp
  unfold wt compsOf
  omega
theorem wt_pick {A B l1 : List (Str × Tok)} {c : Prop} [Decidable c] (h1 : (if c then B else A) = l1) (hA : wt A ≤ 201) (hB : wt B ≤ 201) : wt l1 ≤ 201 := by
  subst h1; split <;> assumption
theorem wt_sum {l : List (Str × Tok)} (h : wt l ≤ 201) : ((l.map (·.1)).map (·.length)).sum + (l.map (·.1)).length * (Str.ofString "/").length ≤ 16777216 := by
  unfold wt at h
  have e : (Str.ofString "/").length = 1 := by decide
  rw [e, List.length_map]; omega
theorem wt_take {l : List (Str × Tok)} (i : Nat) (h : wt l ≤ 201) : wt (l.take i) ≤ 201 := Nat.le_trans (take_sum l i) h
theorem wt_join {l : List (Str × Tok)} (h : wt l ≤ 201) : (Txt.join (Str.ofString "/") (l.map (·.1))).length ≤ 1000 := by
  have hw : Weighs (l.map (·.1)) 201 := by
    show ((l.map (·.1)).map (·.length)).sum + (l.map (·.1)).length ≤ 201 + 1
    unfold wt at h
    rw [List.length_map]; omega
  have := len_join_le hw (show (Str.ofString "/").length ≤ 4 by decide)
  omega
theorem w_fit {l : List (Str × Tok)} (h : wt l ≤ 201) : (strValues l).toArray.size ≤ sizeLine := by
  rw [sv_len, sizeLine_eq]; unfold wt at h; omega
theorem wt_len {l : List (Str × Tok)} (h : wt l ≤ 201) : l.length ≤ 201 := by unfold wt at h; omega
theorem slice_up {l : List (Str × Tok)} {i : Nat} (hi : i < l.length) : slicePick (strValues l).toArray none (some (i : Int)) none = (strValues (l.take i)).toArray := by
  rw [slicePick_upto _ _ (by rw [sv_len]; omega)]
  simp [strValues, List.map_take]
theorem news_sub {h₀ h : Heap} {L : Addr} {a b : List (Addr × Obj)} (N : News h₀ L h b) (hs : ∀ p ∈ a, p ∈ b) : News h₀ L h a := fun p hp => N p (hs p hp)
noncomputable def compsS (x : Str) : List Str := (Txt.split x (Str.ofString "/")).filter keepC
noncomputable def commonS (x y : Str) : Str := Str.ofString "/" ++ Txt.join (Str.ofString "/") (lcp (compsS x) (compsS y))
theorem comps_fst {l : List (Str × Tok)} {x : Str} (e : l.map (·.1) = Txt.split x (Str.ofString "/")) : (compsOf l).map (·.1) = compsS x := by
  unfold compsS compsOf
  rw [← e, List.filter_map]
  rfl
theorem common_all {l1 l2 lx ly : List (Str × Tok)} {x y : Str} (hlx : lx.map (·.1) = Txt.split x (Str.ofString "/")) (hly : ly.map (·.1) = Txt.split y (Str.ofString "/"))
    (h : lcp (l1.map (·.1)) (l2.map (·.1)) = lcp ((compsOf lx).map (·.1)) ((compsOf ly).map (·.1))) (e : ∀ k, k < (strValues l1).length → (l1.map (·.1))[k]? = (l2.map (·.1))[k]?) :
    Str.ofString "/" ++ Txt.join (Str.ofString "/") (l1.map (·.1)) = commonS x y := by
  unfold commonS
  rw [← comps_fst hlx, ← comps_fst hly, ← h, lcp_all]
  intro k hk
  exact e k (by simpa [strValues] using hk)
theorem common_cut {l1 l2 lx ly : List (Str × Tok)} {x y c d : Str} {tc td : Tok} {i : Nat} (hlx : lx.map (·.1) = Txt.split x (Str.ofString "/")) (hly : ly.map (·.1) = Txt.split y (Str.ofString "/"))
    (h : lcp (l1.map (·.1)) (l2.map (·.1)) = lcp ((compsOf lx).map (·.1)) ((compsOf ly).map (·.1))) (e : ∀ k, k < i → (l1.map (·.1))[k]? = (l2.map (·.1))[k]?)
    (h1 : l1[i]? = some (c, tc)) (h2 : l2[i]? = some (d, td)) (hne : (c != d) = true) :
    Str.ofString "/" ++ Txt.join (Str.ofString "/") ((l1.take i).map (·.1)) = commonS x y := by
  unfold commonS
  rw [← comps_fst hlx, ← comps_fst hly, ← h, lcp_take _ _ i c d e (by simp [h1]) (by simp [h2]) (by simpa using hne), List.map_take]
end
section
theorem iss_args (a b c : Value) : argsOk "issubclass.nested" ⟨[a, b, c], []⟩ := by unfold argsOk; kernel_rfl
theorem iss_kind : builtinKind "issubclass.nested" = none := by decide +kernel
theorem iss_plain : plainId "issubclass.nested" = true := by decide +kernel
theorem iss_sub : isSubtype (.type "str") (.type "str") = pure true := by rw [isSubtype_type]; kernel_rfl
section
variable {prog : Program} {w : World} {A : Around} {E : Value → Shared → Prop}
theorem iss_self {k : Value} {dep : Int} {tk : Tok} {s : Shared} {Q : Fin → Shared → Prop} (hk : k = .int dep tk) (hq : Q (.done (.ret (.bool true))) s) :
    wpAny (model prog w) A (Builtin.«issubclass.nested» ⟨[.type "str", .type "str", k], []⟩) Q E s := by
  subst hk
  have hm : (Value.type "type" == Value.type "type") = true := rfl
  have hself := iss_sub
  repeat (any_goals (first | assumption | (rw [if_pos hm]) | (rw [hself]) | wp_step))
theorem iss_selfM {dep : Int} {tk : Tok} : Meets (Builtin.«issubclass.nested» ⟨[.type "str", .type "str", .int dep tk], []⟩) (fun _ R s => ∀ tk', R (.ok (.ret (.bool true))) { s with toks := tk' }) :=
  fun _ _ _ _ s hs => iss_self rfl (hs s.toks)
theorem iss_tuple {tp : Addr} {c : Value} {tk : Tok} {s : Shared} {Q : Fin → Shared → Prop}
    (htp : s.heap.get? tp = some { cls := .type "tuple", data := .seq [.type "str", c].toArray })
    (hq : ∀ tk', Q (.done (.ret (.bool true))) { s with toks := tk' }) : wpAny (model prog w) A (Builtin.«issubclass.nested» ⟨[.type "str", .ref tp, .int 0 tk], []⟩) Q E s := by
  obtain ⟨h, g, d, t, os⟩ := s
  have hT2 : (⟨h, g, d, t, os⟩ : Shared).TypeIs (.ref tp) "tuple" := ⟨_, htp, rfl⟩
  have f1 := PySem.F.isi_sub_tuple
  repeat (any_goals (first | assumption | (refine wpAny_arrayLoop ?_; simp only [Option.getD_some, List.toList_toArray]; rw [List.forIn_cons]; refine wpAny_bind (wpAny_bind (call_function_meets iss_kind iss_plain PySem.F.entry_issubclass_nested (iss_args _ _ _) iss_selfM fun tk' => ?_)); refine wpAny_bind (m := truthy (.bool true)) (wpAny_pure ?_); refine wpAny_bind (wpAny_pure (wpAny_pure (wpAny_pure ?_)))) | exact hq _ | wp_step))
theorem call_iss {tp : Addr} {c : Value} {s : Shared} {Q : Value → Shared → Prop}
    (htp : s.heap.get? tp = some { cls := .type "tuple", data := .seq [.type "str", c].toArray })
    (hq : ∀ tk', Q (.bool true) { s with toks := tk' }) : wpAny (model prog w) A (call (.builtin "issubclass") [.type "str", .ref tp]) Q E s :=
  call_issubclass (S := fun _ R s => s.heap.get? tp = some { cls := .type "tuple", data := .seq [.type "str", c].toArray } ∧ ∀ tk', R (.ok (.ret (.bool true))) { s with toks := tk' })
    (fun _ _ _ _ _ hs => issubclass_outer (iss_tuple hs.1 hs.2)) ⟨htp, hq⟩
end
end
section
local macro_rules | `(tactic| walk_at "no key 0") => `(tactic| fail)
local macro_rules | `(tactic| walk_at "call builtin:issubclass") => `(tactic| k_extra "m3")
set_option maxRecDepth 100000 in
set_option maxHeartbeats 8000000 in
theorem fspath_spec (w : World) (mean : ExcName → Option Value) (mg mb : Str → Option Value) (x : Str) (t : Tok) :
    Claim w mean mg mb 122 1 8 0 [] [.str x t] (fun v => v = .str x t) := by
  unfold Claim
  intro dp un gd cn cs a ccd cl outer A₀ base h₀ L m news s Q E B F X N T hk hn hdp hun htk hret
  w_top off
  k_with_none
  k_with "m1" => ((k_here; refine execs_cons_t (by first | exact Nat.succ_pos _ | assumption | (dsimp only; omega)) ?_))
  k_with "m2" => (first | (refine tnext_next ?_; intro tk9 htk9) | refine tnext_ret ?_ | refine tnext_brk ?_ | refine tnext_cont ?_)
  k_with "m3" => ((k_here; refine call_iss (by rename News _ _ _ _ => N9; exact (N9 _ (.head _)).1) ?_; intro _))
  have kf : PySem.Challenge.rw_il0079_01 = PySem.Challenge.rw_il0079_01 ∧ hd.heap_1 w.params = hd.heap_1 w.params := by (k_fill; exact ⟨rfl, rfl⟩)
  clear kf
  refine wpAny_call ?_
  k_dflt cell_enter
  k_steps
  exact hret _ _ _ rfl (by k_asm) (News.tail' (by assumption))
end
section
set_option maxRecDepth 100000 in
set_option maxHeartbeats 8000000 in
theorem sep_spec (w : World) (mean : ExcName → Option Value) (mg mb : Str → Option Value) (x : Str) (t : Tok) :
    Claim w mean mg mb 136 1 8 0 [] [.str x t] (fun v => ∃ t', v = .str (Str.ofString "/") t') := by
  unfold Claim
  intro dp un gd cn cs a ccd cl outer A₀ base h₀ L m news s Q E B F X N T hk hn hdp hun htk hret
  w_top off
  k_with_none
  k_with "m1" => ((k_here; refine execs_cons_t (by first | exact Nat.succ_pos _ | assumption | (dsimp only; omega)) ?_))
  k_with "m2" => (first | (refine tnext_next ?_; intro tk9 htk9) | refine tnext_ret ?_ | refine tnext_brk ?_ | refine tnext_cont ?_)
  have kf : PySem.Challenge.rw_il0079_01 = PySem.Challenge.rw_il0079_01 ∧ hd.heap_1 w.params = hd.heap_1 w.params := by (k_fill; exact ⟨rfl, rfl⟩)
  clear kf
  refine wpAny_call ?_
  k_dflt cell_enter
  k_steps
  all_goals exact hret _ _ _ ⟨_, rfl⟩ (by k_asm) (by k_asm)
end
section
local macro_rules
  | `(tactic| walk_at "call ref") => `(tactic| k_extra "m4")
  | `(tactic| walk_at "pyIter ref") => `(tactic| k_extra "my pyIter")
  | `(tactic| walk_at "exec For Name Name cons nil") => `(tactic| (refine wpAny_For ?_ (fun _ => rfl)))
noncomputable def joined (x y : Str) : Str := if Txt.endswith x (Str.ofString "/") = true then x ++ y else x ++ (Str.ofString "/" ++ y)
noncomputable def JnJ (x y : Str) (t : Tok) (all : List (Addr × Obj)) (i : Nat) (m : Str → Option Value) (nx : List (Addr × Obj)) : Prop :=
  nx = all ∧ m (Str.ofString "a") = some (.str x t) ∧ (∃ u, m (Str.ofString "sep") = some (.str (Str.ofString "/") u)) ∧ ∃ u, m (Str.ofString "path") = some (.str (if i = 0 then x else joined x y) u)
section
variable {h₀ : Heap} {L : Addr}
theorem jn_end {x y z : Str} {t u u0 : Tok} {q : Addr × Obj} {all own rest : List (Addr × Obj)} {s₁ : Shared} {h' : Heap} {tk : Nat} {m' : Str → Option Value}
    (F : Fr h₀ L h' m') (N : News h₀ L h' rest) (he : rest = all ++ own) (hq : q ∈ all) (h1 : m' (Str.ofString "a") = some (.str x t)) (h0 : m' (Str.ofString "sep") = some (.str (Str.ofString "/") u0)) (h2 : m' (Str.ofString "path") = some (.str z u))
    (hx : z = joined x y) :
    InvEndN h₀ L (fun m' nx' => q ∈ nx' ∧ JnJ x y t all (0 + 1) m' nx') own (all.map (·.1)) s₁ { s₁ with heap := h', toks := tk } := by
  subst he hx
  exact InvEndN.intro F N ⟨hq, rfl, h1, ⟨_, h0⟩, _, h2⟩ rfl (fun p hp => List.mem_append_left _ hp) (fun p hp => List.mem_append_right _ hp)
end
set_option maxRecDepth 100000 in
set_option maxHeartbeats 8000000 in
theorem join_spec (w : World) (mean : ExcName → Option Value) (mg mb : Str → Option Value) (x y : Str) (t u : Tok) (hx : x.length ≤ 20) (hx0 : (x.length : Int) ≠ 0) (hy : y.length ≤ 4) (hs : Txt.startswith y (Str.ofString "/") = false) :
    Claim w mean mg mb 143 2 16 0 [] [.str x t, .str y u] (fun v => ∃ t', v = .str (joined x y) t') := by
  unfold Claim
  intro dp un gd cn cs a ccd cl outer A₀ base h₀ L m news s Q E B F X N T hk hn hdp hun htk hret
  w_top off
  k_with_none
  k_with "m1" => ((k_here; refine execs_cons_t (by first | exact Nat.succ_pos _ | assumption | (dsimp only; omega)) ?_; (try k_fold)))
  k_with "m2" => (first | (refine tnext_next ?_; intro tk9 htk9) | refine tnext_ret ?_ | refine tnext_brk ?_ | refine tnext_cont ?_)
  k_with "m4" => ((k_here; k_dflt (first | refine' claim_use (fspath_spec _ _ _ _ _ _) ?k1 ?k2 ?k3 ?k4 ?k5 ?kK ?kn ?kd ?ku ?kt ?_ | refine' claim_use (sep_spec _ _ _ _ _ _) ?k1 ?k2 ?k3 ?k4 ?k5 ?kK ?kn ?kd ?ku ?kt ?_); (case k1 => k_asm); (case k2 => k_asm); (case k3 => k_asm); (case k4 => k_asm); (case k5 => k_asm); (case kK => first | exact rfl | assumption); (case kn => first | exact fun _ h9 => nomatch h9 | assumption); (case kd => ktr_room); (case ku => ktr_units); (case kt => first | exact Nat.zero_le _ | (dsimp only; omega)); intro r9 h9 tk9 R9 F9 N9; (first | (obtain ⟨t9, e9⟩ := R9; subst e9) | subst R9 | skip); (try dsimp only); (try k_fold)))
  have kf : PySem.Challenge.rw_il0079_01 = PySem.Challenge.rw_il0079_01 ∧ hd.heap_1 w.params = hd.heap_1 w.params := by (k_fill; exact ⟨rfl, rfl⟩)
  clear kf
  refine wpAny_call ?_
  k_dflt (refine' kp_rest ?k1 ?k2 ?k3 ?k4 ?k5 ?kA ?kF ?kK ?k6 ?k7 ?k8 ?kV ?kP ?kG ?kB ?_ ?c2 ?c3 ?c4 ?c5; (case kA => exact rfl); (case kF => exact rfl); (case kK => assumption); (case k1 => k_asm); (case k2 => k_asm); (case k3 => k_asm); (case k4 => k_asm); (case k5 => k_asm); (case k6 => k_is); (case k7 => k_is); (case k8 => ktr_room); (case kV => kl_lit); (case kP => exact rfl); (case kG => exact fun _ => rfl); (case kB => exact fun _ => locs rfl); (case c5 => decide); (case c2 => exact rfl); (case c3 => exact rfl); (case c4 => exact rfl); k_whole; intro D' g' L' h' l1 FG' F' N' B' X' T'; (try k_lt l1); (try dsimp only); (try k_lift B'); (try k_fold))
  k_steps
  rename Fr _ _ _ _ => F1
  rename News _ _ _ _ => N1
  refine wpAny_mono (tupTurns_inv (JnJ x y t _) rfl F1 N1 (.head _) rfl rfl ⟨rfl, rfl, ⟨_, rfl⟩, _, rfl⟩ ?_ ?_) (fun it s₂ h => turns_for (by passes_own) h) (fun _ _ e => e)
  · intro i v m₁ nx h tk its hv hJ ha hmem hoff F2 N2
    obtain ⟨rfl, e1, ⟨u0, e0⟩, u, e2⟩ := hJ
    match i, hv with
    | 0, hv =>
      cases hv
      have e2' : m₁ (Str.ofString "path") = some (.str x u) := e2
      have F3 := fr_know (x := Str.ofString "a") F2 e1
      have F4 := fr_know (x := Str.ofString "sep") F3 (by rw [if_neg (by decide)]; exact e0)
      have F5 := fr_know (x := Str.ofString "path") F4 (by rw [if_neg (by decide), if_neg (by decide)]; exact e2')
      clear F2 F3 F4
      k_steps
      · exact jn_end (by assumption) (by assumption) rfl (.head _) rfl rfl rfl (if_pos (by assumption)).symm
      · refine jn_end (by assumption) (by assumption) rfl (.head _) rfl rfl rfl (if_neg ?_).symm
        rename Txt.endswith x _ = false => q9
        rw [q9]; decide
    | i + 1, hv => simp at hv
  · intro m₁ nx h tk hJ ha hmem F2 N2
    obtain ⟨rfl, e1, ⟨u0, e0⟩, u, e2⟩ := hJ
    have F3 := fr_know (x := Str.ofString "path") F2 e2
    clear F2
    k_steps
    exact hret _ _ _ ⟨_, rfl⟩ (by k_asm) (News.tail' (by assumption))
end
section
theorem cd1 (x : Nat) : x ≠ x + 1 := Nat.ne_of_lt (Nat.lt_succ_self x)
theorem cd2 (x : Nat) : x ≠ x + 1 + 1 := Nat.ne_of_lt (Nat.lt_succ_of_lt (Nat.lt_succ_self x))
theorem cd3 (x : Nat) : x ≠ x + 1 + 1 + 1 := Nat.ne_of_lt (Nat.lt_succ_of_lt (Nat.lt_succ_of_lt (Nat.lt_succ_self x)))
theorem cd4 (x : Nat) : x ≠ x + 1 + 1 + 1 + 1 := Nat.ne_of_lt (Nat.lt_succ_of_lt (Nat.lt_succ_of_lt (Nat.lt_succ_of_lt (Nat.lt_succ_self x))))
theorem cd5 (x : Nat) : x ≠ x + 1 + 1 + 1 + 1 + 1 := Nat.ne_of_lt (Nat.lt_succ_of_lt (Nat.lt_succ_of_lt (Nat.lt_succ_of_lt (Nat.lt_succ_of_lt (Nat.lt_succ_self x)))))
theorem cd6 (x : Nat) : x ≠ x + 1 + 1 + 1 + 1 + 1 + 1 := Nat.ne_of_lt (Nat.lt_succ_of_lt (Nat.lt_succ_of_lt (Nat.lt_succ_of_lt (Nat.lt_succ_of_lt (Nat.lt_succ_of_lt (Nat.lt_succ_self x))))))
theorem mod3 (x : Int) : x.fmod 3 = 0 ∨ x.fmod 3 = 1 ∨ x.fmod 3 = 2 := by
  have h0 : 0 ≤ x.fmod 3 := Int.fmod_nonneg_of_pos x (by decide)
  have h1 : x.fmod 3 < 3 := Int.fmod_lt_of_pos x (by decide)
  obtain ⟨k, hk⟩ := Int.eq_ofNat_of_zero_le h0
  rw [hk] at h1 ⊢
  have h2 : k < 3 := Int.ofNat_lt.mp h1
  match k, h2 with
  | 0, _ => exact .inl rfl
  | 1, _ => exact .inr (.inl rfl)
  | 2, _ => exact .inr (.inr rfl)
theorem a_abv {i n : Nat} {x : Int} (h : 0 ≤ x ∧ x ≤ i) (hi : i < n) : x.toNat < n + 1 := by omega
theorem a_q {i q n : Nat} (h : q < n - (i + 1)) : i + 1 + q < n := by omega
theorem a_one (i : Nat) : (0 : Int) + (i : Int) * 1 = (i : Int) := by omega
theorem a_0i (i : Nat) : ((0 : Int) + (i : Int)).toNat = i := by omega
theorem a_0i1 (i : Nat) : ((0 : Int) + (i : Int) + 1).toNat = i + 1 := by omega
theorem a_41 (i : Nat) : (4 * ((0 : Int) + (i : Int)) + 1).toNat = 4 * i + 1 := by omega
theorem a_43 (i : Nat) : (4 * ((0 : Int) + (i : Int)) + 3).toNat = 4 * i + 3 := by omega
theorem a_iq (i q : Nat) : ((i : Int) + 1 + (q : Int) * 1) = ((i + 1 + q : Nat) : Int) := by omega
theorem a_tn {k : Int} (h : 0 ≤ k) : ((k.toNat : Nat) : Int) = k := by omega
theorem a_tlt {k : Int} {n : Nat} (h0 : 0 ≤ k) (h1 : k < n) : k.toNat < n := by omega
theorem a_nn (i : Nat) : (0 : Int) ≤ (i : Int) := Int.natCast_nonneg i
theorem a_nn0 (i : Nat) : (0 : Int) ≤ 0 + (i : Int) := by omega
theorem a_nn1 (i : Nat) : (0 : Int) ≤ 0 + (i : Int) + 1 := by omega
theorem a_nn41 (i : Nat) : (0 : Int) ≤ 4 * (0 + (i : Int)) + 1 := by omega
theorem a_nn43 (i : Nat) : (0 : Int) ≤ 4 * (0 + (i : Int)) + 3 := by omega
theorem a_lt {i n : Nat} (h : i < n) (h6 : n ≤ 6) : (i : Int) < 1000 := by omega
theorem a_lt0 {i n : Nat} (h : i < n) (h6 : n ≤ 6) : (0 : Int) + (i : Int) < 1000 := by omega
theorem a_lt1 {i n : Nat} (h : i < n) (h6 : n ≤ 6) : (0 : Int) + (i : Int) + 1 < 1000 := by omega
theorem a_lt41 {i n : Nat} (h : i < n) (h6 : n ≤ 6) : 4 * ((0 : Int) + (i : Int)) + 1 < 1000 := by omega
theorem a_lt43 {i n : Nat} (h : i < n) (h6 : n ≤ 6) : 4 * ((0 : Int) + (i : Int)) + 3 < 1000 := by omega
theorem sz_le3 {a : Array Value} {i n : Nat} (h : a.size = i + 1) (hi : i < n) (h6 : n ≤ 6) : a.size ≤ 16777216 := by omega
theorem sz_le4 {a : Array Value} {i q n l : Nat} (h : a.size = l) (hl : l ≤ q + 1) (hq : q < n - (i + 1)) (h6 : n ≤ 6) : a.size ≤ 16777216 := by omega
noncomputable def Sz (a : Array Value) (n : Nat) : Prop := a.size = n
theorem sz_le2 {a : Array Value} {i : Nat} (h : Sz a (i + 1)) (hi : i < 6) : a.size ≤ 16777216 := by unfold Sz at h; omega
theorem sz_le {a : Array Value} {i : Nat} (h : Sz a i) (hi : i < 6) : a.size ≤ 16777216 := by unfold Sz at h; omega
noncomputable def Lts (a : Nat) : List Nat → Prop
  | [] => True
  | b :: r => a < b ∧ Lts a r
noncomputable def Chn : List Nat → Prop
  | [] => True
  | a :: r => Lts a r ∧ Chn r
theorem chn_of {c d a w n y p : Nat} (h1 : c < d) (h2 : d < a) (h3 : a < w) (h4 : w < n) (h5 : n < y) (h6 : y < p) : Chn [d, a, w, n, y, p] :=
  have h23 := Nat.lt_trans h2 h3; have h34 := Nat.lt_trans h3 h4; have h45 := Nat.lt_trans h4 h5; have h56 := Nat.lt_trans h5 h6
  have h24 := Nat.lt_trans h23 h4; have h35 := Nat.lt_trans h34 h5; have h46 := Nat.lt_trans h45 h6
  have h25 := Nat.lt_trans h24 h5; have h36 := Nat.lt_trans h35 h6
  have h26 := Nat.lt_trans h25 h6
  ⟨⟨h2, h23, h24, h25, h26, trivial⟩, ⟨h3, h34, h35, h36, trivial⟩, ⟨h4, h45, h46, trivial⟩, ⟨h5, h56, trivial⟩, ⟨h6, trivial⟩, trivial, trivial⟩
theorem cne1 {b l : Nat} (h : b + 1 + 1 + 1 + 1 + 1 + 1 + 1 < l) : b + 1 ≠ l := by omega
theorem cne2 {b l : Nat} (h : b + 1 + 1 + 1 + 1 + 1 + 1 + 1 < l) : b + 1 + 1 ≠ l := by omega
theorem cne3 {b l : Nat} (h : b + 1 + 1 + 1 + 1 + 1 + 1 + 1 < l) : b + 1 + 1 + 1 ≠ l := by omega
theorem cne4 {b l : Nat} (h : b + 1 + 1 + 1 + 1 + 1 + 1 + 1 < l) : b + 1 + 1 + 1 + 1 ≠ l := by omega
theorem cne5 {b l : Nat} (h : b + 1 + 1 + 1 + 1 + 1 + 1 + 1 < l) : b + 1 + 1 + 1 + 1 + 1 ≠ l := by omega
theorem cne6 {b l : Nat} (h : b + 1 + 1 + 1 + 1 + 1 + 1 + 1 < l) : b + 1 + 1 + 1 + 1 + 1 + 1 ≠ l := by omega
theorem cne7 {b l : Nat} (h : b + 1 + 1 + 1 + 1 + 1 + 1 + 1 < l) : b + 1 + 1 + 1 + 1 + 1 + 1 + 1 ≠ l := by omega
/-- the state behind a statement: the frame's map and the ledger, as P tells them -/
noncomputable def At (h₀ : Heap) (L : Addr) (s : Shared) (P : (Str → Option Value) → List (Addr × Obj) → Prop) (s' : Shared) : Prop :=
  ∃ h' tk' m' nx, s' = { s with heap := h', toks := tk' } ∧ Fr h₀ L h' m' ∧ News h₀ L h' nx ∧ P m' nx
noncomputable def StS (S : Shared → Prop) (Q : Flow → Shared → Prop) (f : Flow) (s' : Shared) : Prop :=
  match f with | .next => S s' | f => Q f s'
theorem sts_next {S : Shared → Prop} {Q : Flow → Shared → Prop} {s' : Shared} (h : S s') : StS S Q .next s' := h
theorem sts_ret {S : Shared → Prop} {Q : Flow → Shared → Prop} {v : Value} {s' : Shared} (h : Q (.ret v) s') : StS S Q (.ret v) s' := h
theorem sts_brk {S : Shared → Prop} {Q : Flow → Shared → Prop} {s' : Shared} (h : Q .brk s') : StS S Q .brk s' := h
theorem sts_cont {S : Shared → Prop} {Q : Flow → Shared → Prop} {s' : Shared} (h : Q .cont s') : StS S Q .cont s' := h
theorem stage {M : Model} {A : Around} {E : Value → Shared → Prop} {s : Shared} {env : Env} {st : Stmt} {rest : List Stmt} {Q : Flow → Shared → Prop} {h₀ : Heap} {L : Addr} {m : Str → Option Value} (P : (Str → Option Value) → List (Addr × Obj) → Prop) (_F : Fr h₀ L s.heap m) (ht : 0 < s.toks)
    (h : wpAny M A (exec st env) (StS (At h₀ L s P) Q) E s)
    (k : ∀ h' tk' m' nx, 0 < tk' → Fr h₀ L h' m' → News h₀ L h' nx → P m' nx → wpAny M A (execs rest env) Q E { s with heap := h', toks := tk' }) :
    wpAny M A (execs (st :: rest) env) Q E s := by
  refine execs_cons_t ht (wpAny_mono h (fun f s' p => ?_) fun _ _ e => e)
  cases f with
  | next => obtain ⟨h', tk', m', nx, rfl, F, N, hP⟩ := p; exact fun htk => k h' tk' m' nx htk F N hP
  | brk => exact fun _ => p
  | cont => exact fun _ => p
  | ret v => exact fun _ => p
/-! the law's numbers and texts, as its script tells them -/
noncomputable def abvS (ds : List Int) (k : Nat) : Int := Int.fmod (ds.getD k 0) ((k : Int) + 1)
noncomputable def whsS (ds : List Int) (k : Nat) : Int := Int.fmod (Int.fdiv (ds.getD k 0) ((k : Int) + 1)) 3
noncomputable def numS (ds : List Int) (k : Nat) : Int :=
  16384 + (ds.getD k 0 * 43 - Int.fmod (Int.fdiv (ds.getD k 0 * 43) 128) 2 * 128 - Int.fmod (Int.fdiv (ds.getD k 0 * 43) 16) 2 * 16) + ([128, 16, 0] : List Int).getD (whsS ds k).toNat 0
noncomputable def sgnS (ds : List Int) (k : Nat) : Int := Int.fmod (Int.fdiv (ds.getD k 0) (3 * (k : Int) + 3)) 4
noncomputable def namS (ds : List Int) (k : Nat) : Str := ⟨#[([38, 60, 62, 34] : List Nat).getD (sgnS ds k).toNat 38, 48 + k]⟩
noncomputable def abL (ds : List Int) (i : Nat) : List Int := (List.range i).map (abvS ds)
noncomputable def whL (ds : List Int) (i : Nat) : List Int := (List.range i).map (whsS ds)
noncomputable def nuL (ds : List Int) (i : Nat) : List Int := (List.range i).map (numS ds)
noncomputable def wyL (ds : List Int) : Nat → List Str
  | 0 => [Str.ofString "/"]
  | i + 1 => wyL ds i ++ [joined ((wyL ds i).getD (abvS ds i).toNat (Str.ofString "/")) (namS ds i)]
noncomputable def plL (ds : List Int) : Nat → List Str
  | 0 => [Str.ofString ""]
  | i + 1 => plL ds i ++ [(plL ds i).getD (abvS ds i).toNat (Str.ofString "") ++ Str.ofString "/" ++ namS ds i]
theorem range_up : ∀ n : Nat, n ≤ 6 → Builtin.Range.small 0 (n : Int) 1 = true ∧ Builtin.Range.rangeSize 0 (n : Int) 1 = (n : Int) := by decide
theorem wy_len (ds : List Int) : ∀ i, (wyL ds i).length = i + 1
  | 0 => rfl
  | i + 1 => by rw [wyL, List.length_append, wy_len ds i]; rfl
theorem pl_len (ds : List Int) : ∀ i, (plL ds i).length = i + 1
  | 0 => rfl
  | i + 1 => by rw [plL, List.length_append, pl_len ds i]; rfl
theorem nam_len (ds : List Int) (k : Nat) : (namS ds k).length = 2 := rfl
theorem joined_len (x y : Str) : (joined x y).length ≤ x.length + 1 + y.length ∧ x.length ≤ (joined x y).length := by
  unfold joined
  split
  · rw [Str.length_append]; omega
  · rw [Str.length_append, Str.length_append, show (Str.ofString "/").length = 1 from by decide]; omega
theorem getD_mem_or {α : Type} (l : List α) (i : Nat) (d : α) : l.getD i d ∈ l ∨ l.getD i d = d := by
  rw [List.getD_eq_getElem?_getD]
  cases h : l[i]? with
  | none => exact .inr rfl
  | some v => exact .inl (List.mem_of_getElem? h)
theorem wy_bd (ds : List Int) : ∀ i, ∀ x ∈ wyL ds i, 1 ≤ x.length ∧ x.length ≤ 1 + 3 * i
  | 0, x, hx => by
    rw [List.mem_singleton.mp hx, show (Str.ofString "/").length = 1 from by decide]; omega
  | i + 1, x, hx => by
    have ih := wy_bd ds i
    rcases List.mem_append.mp hx with hx | hx
    · have := ih x hx; omega
    · rw [List.mem_singleton.mp hx]
      have h1 := joined_len ((wyL ds i).getD (abvS ds i).toNat (Str.ofString "/")) (namS ds i)
      rw [nam_len] at h1
      have h2 : 1 ≤ ((wyL ds i).getD (abvS ds i).toNat (Str.ofString "/")).length ∧ ((wyL ds i).getD (abvS ds i).toNat (Str.ofString "/")).length ≤ 1 + 3 * i := by
        rcases getD_mem_or (wyL ds i) (abvS ds i).toNat (Str.ofString "/") with h | h
        · exact ih _ h
        · rw [h, show (Str.ofString "/").length = 1 from by decide]; omega
      omega
theorem pl_bd (ds : List Int) : ∀ i, ∀ x ∈ plL ds i, x.length ≤ 3 * i
  | 0, x, hx => by
    rw [List.mem_singleton.mp hx]; decide
  | i + 1, x, hx => by
    have ih := pl_bd ds i
    rcases List.mem_append.mp hx with hx | hx
    · have := ih x hx; omega
    · rw [List.mem_singleton.mp hx, Str.length_append, Str.length_append, nam_len, show (Str.ofString "/").length = 1 from by decide]
      rcases getD_mem_or (plL ds i) (abvS ds i).toNat (Str.ofString "") with h | h
      · have := ih _ h; omega
      · rw [h, show (Str.ofString "").length = 0 from by decide]; omega
theorem strs_at {vs : List Value} {ss : List Str} (h : StrsAre vs ss) : ∀ {k : Nat} (d : Str), k < ss.length → ∃ t, vs[k]? = some (.str (ss.getD k d) t) := by
  induction h with
  | nil => intro k d hk; simp at hk
  | cons y t _ ih =>
    intro k d hk
    cases k with
    | zero => exact ⟨t, rfl⟩
    | succ k => exact ih d (by simpa using hk)
theorem strs_snoc {vs : List Value} {ns : List Str} (h : StrsAre vs ns) (k : Str) (t : Tok) : StrsAre (vs ++ [.str k t]) (ns ++ [k]) := by
  induction h with
  | nil => exact .cons _ _ .nil
  | cons n u _ ih => exact .cons n u ih
theorem strs_len {vs : List Value} {ns : List Str} (h : StrsAre vs ns) : vs.length = ns.length := by
  induction h with
  | nil => rfl
  | cons n u _ ih => simp [ih]
theorem abL_more (ds : List Int) (i : Nat) : abL ds (i + 1) = abL ds i ++ [abvS ds i] := by simp [abL, List.range_succ]
theorem whL_more (ds : List Int) (i : Nat) : whL ds (i + 1) = whL ds i ++ [whsS ds i] := by simp [whL, List.range_succ]
theorem nuL_more (ds : List Int) (i : Nat) : nuL ds (i + 1) = nuL ds i ++ [numS ds i] := by simp [nuL, List.range_succ]
theorem abv_bd (ds : List Int) (k : Nat) : 0 ≤ abvS ds k ∧ abvS ds k ≤ k := by
  unfold abvS
  have := fdiv_fmod_facts (ds.getD k 0) ((k : Int) + 1)
  omega
theorem whs_bd (ds : List Int) (k : Nat) : 0 ≤ whsS ds k ∧ whsS ds k < 3 := by
  unfold whsS
  have := fdiv_fmod_facts (Int.fdiv (ds.getD k 0) ((k : Int) + 1)) 3
  omega
theorem sgn_bd (ds : List Int) (k : Nat) : 0 ≤ sgnS ds k ∧ sgnS ds k < 4 := by
  unfold sgnS
  have := fdiv_fmod_facts (Int.fdiv (ds.getD k 0) (3 * (k : Int) + 3)) 4
  omega
noncomputable def LJ (ds : List Int) (lD lA lW lN lY lP : Addr) (oD : Obj) (cells : List (Addr × Obj)) (i : Nat) (m : Str → Option Value) (nx : List (Addr × Obj)) : Prop :=
  ∃ as ws ns ys ps ka kw kn ky kp, nx = (lP, listOf ps kp) :: (lY, listOf ys ky) :: (lN, listOf ns kn) :: (lW, listOf ws kw) :: (lA, listOf as ka) :: (lD, oD) :: cells ∧
    IntsAre as.toList (abL ds i) ∧ IntsAre ws.toList (whL ds i) ∧ IntsAre ns.toList (nuL ds i) ∧ StrsAre ys.toList (wyL ds i) ∧ StrsAre ps.toList (plL ds i) ∧
    m (Str.ofString "draws") = some (.ref lD) ∧ m (Str.ofString "aboves") = some (.ref lA) ∧ m (Str.ofString "whose") = some (.ref lW) ∧ m (Str.ofString "plain") = some (.ref lP)
abbrev cells7 (L : Addr) (o7 o6 o5 oY oN oC oW : Obj) : List (Addr × Obj) :=
  [(L + 1 + 1 + 1 + 1 + 1 + 1 + 1, o7), (L + 1 + 1 + 1 + 1 + 1 + 1, o6), (L + 1 + 1 + 1 + 1 + 1, o5), (L + 1 + 1 + 1 + 1, oY), (L + 1 + 1 + 1, oN), (L + 1 + 1, oC), (L + 1, oW)]
/-- the state ahead of the building loop -/
noncomputable def Start (h₀ : Heap) (L : Nat) (hp : Heap) (ds : List Int) (wh : Int) (n : Nat) : Prop :=
  ∃ (m : Str → Option Value) (nx : List (Addr × Obj)) (lD lA lW lN lY lP : Nat) (dv : Array Value) (kd : Nat), ∃ o7 o6 o5 oY oN oC oW tc tw v7 v6 v5, Fr h₀ L hp m ∧ News h₀ L hp nx ∧ LJ ds lD lA lW lN lY lP (listOf dv kd) (cells7 L o7 o6 o5 oY oN oC oW) 0 m nx ∧
    oY.data = .cell (some (.ref lY)) ∧ oN.data = .cell (some (.ref lN)) ∧ oC.data = .cell (some (.int n tc)) ∧ oW.data = .cell (some (.int wh tw)) ∧ o7.data = .cell v7 ∧ o6.data = .cell v6 ∧ o5.data = .cell v5 ∧ IntsAre dv.toList ds ∧
    L + 1 + 1 + 1 + 1 + 1 + 1 + 1 < lD ∧ lD < lA ∧ lA < lW ∧ lW < lN ∧ lN < lY ∧ lY < lP
theorem start_of {h₀ : Heap} {L : Nat} {hp : Heap} {ds : List Int} {wh c : Int} {n : Nat} {m : Str → Option Value} {lD lA lW lN lY lP a1 a2 a3 : Nat} {dv : List Value} {kd : Nat} {b1 b2 b3 o7 o6 o5 oY oN oC oW : Obj} {tc tw t1 t2 : Tok} {v7 v6 v5 : Option Value}
    (F : Fr h₀ L hp m) (N : News h₀ L hp ((lP, listOf #[Value.str (Str.ofString "") t1] 0) :: (lY, listOf #[Value.str (Str.ofString "/") t2] 0) :: (lN, listOf #[] 0) :: (lW, listOf #[] 0) :: (lA, listOf #[] 0) :: (lD, listOf dv.toArray kd) :: (a1, b1) :: (a2, b2) :: (a3, b3) :: cells7 L o7 o6 o5 oY oN oC oW))
    (e1 : oY.data = .cell (some (.ref lY))) (e2 : oN.data = .cell (some (.ref lN))) (e3 : oC.data = .cell (some (.int c tc))) (e4 : oW.data = .cell (some (.int wh tw))) (e7 : o7.data = .cell v7) (e6 : o6.data = .cell v6) (e5 : o5.data = .cell v5) (hc : c = (n : Int)) (hds : IntsAre dv ds)
    (m1 : m (Str.ofString "draws") = some (.ref lD)) (m2 : m (Str.ofString "aboves") = some (.ref lA)) (m3 : m (Str.ofString "whose") = some (.ref lW)) (m4 : m (Str.ofString "plain") = some (.ref lP))
    (hlt : L + 1 + 1 + 1 + 1 + 1 + 1 + 1 < lD ∧ lD < lA ∧ lA < lW ∧ lW < lN ∧ lN < lY ∧ lY < lP) : Start h₀ L hp ds wh n := by
  subst hc
  refine ⟨m, (lP, listOf #[Value.str (Str.ofString "") t1] 0) :: (lY, listOf #[Value.str (Str.ofString "/") t2] 0) :: (lN, listOf #[] 0) :: (lW, listOf #[] 0) :: (lA, listOf #[] 0) :: (lD, listOf dv.toArray kd) :: cells7 L o7 o6 o5 oY oN oC oW, lD, lA, lW, lN, lY, lP, dv.toArray, kd, o7, o6, o5, oY, oN, oC, oW, tc, tw, v7, v6, v5, F, fun p hp => N p ?_, ⟨_, _, _, _, _, _, _, _, _, _, rfl, .nil, .nil, .nil, .cons _ _ .nil, .cons _ _ .nil, m1, m2, m3, m4⟩, e1, e2, e3, e4, e7, e6, e5, by simpa using hds, hlt⟩
  simp only [List.mem_cons] at hp ⊢
  rcases hp with h | h | h | h | h | h | h
  · exact .inl h
  · exact .inr (.inl h)
  · exact .inr (.inr (.inl h))
  · exact .inr (.inr (.inr (.inl h)))
  · exact .inr (.inr (.inr (.inr (.inl h))))
  · exact .inr (.inr (.inr (.inr (.inr (.inl h)))))
  · exact .inr (.inr (.inr (.inr (.inr (.inr (.inr (.inr (.inr h))))))))
theorem ds_facts {script ds : List Int} (h : List.map (fun k' : Int => k'.fmod 96) (List.take 4 script) ++ [3, 3] = ds) : (2 ≤ ds.length ∧ ds.length ≤ 6) ∧ ∀ k, 0 ≤ ds.getD k 0 ∧ ds.getD k 0 < 96 := by
  subst h
  refine ⟨by simp; omega, fun k => ?_⟩
  rcases getD_mem_or (List.map (fun k' : Int => k'.fmod 96) (List.take 4 script) ++ [3, 3]) k 0 with h | h
  · rcases List.mem_append.mp h with h | h
    · obtain ⟨x, _, e⟩ := List.mem_map.mp h
      rw [← e]
      have := fdiv_fmod_facts x 96
      omega
    · simp only [List.mem_cons, List.not_mem_nil, or_false] at h
      omega
  · rw [h]; omega
noncomputable def OffN (I : Nat) : List (Addr × Obj) → Prop
  | [] => True
  | p :: r => @Ne Nat p.1 I ∧ OffN I r
theorem offN_of {I : Addr} : ∀ {l : List (Addr × Obj)}, (∀ p ∈ l, p.1 ≠ I) → OffN I l
  | [], _ => trivial
  | p :: _, h => ⟨h p (.head _), offN_of fun q hq => h q (.tail _ hq)⟩
theorem offN_to {I : Addr} : ∀ {l : List (Addr × Obj)}, OffN I l → ∀ p ∈ l, p.1 ≠ I
  | [], _ => fun _ h => absurd h List.not_mem_nil
  | _ :: _, h => List.forall_mem_cons.mpr ⟨h.1, offN_to h.2⟩
theorem offN_tail {I : Addr} {x : Addr × Obj} {l : List (Addr × Obj)} (h : OffN I (x :: l)) : OffN I l := h.2
theorem nam_eqN : ∀ z : Nat, z < 4 → ∀ i : Nat, i < 6 → Txt.item (Str.ofString "&<>\"") (z : Int) ++ Str.ofString (toString (i : Int)) = (⟨#[([38, 60, 62, 34] : List Nat).getD z 38, 48 + i]⟩ : Str) := by decide +kernel
theorem nam_eq {ds : List Int} {i : Nat} (hi : i < 6) : Txt.item (Str.ofString "&<>\"") (sgnS ds i) ++ Str.ofString (toString (i : Int)) = namS ds i := by
  have hs := sgn_bd ds i
  unfold namS
  generalize sgnS ds i = z at hs
  obtain ⟨z, rfl⟩ := Int.eq_ofNat_of_zero_le hs.1
  exact nam_eqN z (by omega) i hi
theorem nam_startsN : ∀ z : Nat, z < 4 → ∀ i : Nat, i < 6 → Txt.startswith (⟨#[([38, 60, 62, 34] : List Nat).getD z 38, 48 + i]⟩ : Str) (Str.ofString "/") = false := by decide +kernel
theorem nam_starts (ds : List Int) (i : Nat) (hi : i < 6) : Txt.startswith (namS ds i) (Str.ofString "/") = false := by
  have hs := sgn_bd ds i
  unfold namS
  generalize sgnS ds i = z at hs
  obtain ⟨z, rfl⟩ := Int.eq_ofNat_of_zero_le hs.1
  exact nam_startsN z (by omega) i hi
theorem ints_size {a : Array Value} {l : List Int} (h : IntsAre a.toList l) : a.size = l.length := by rw [← Array.length_toList]; exact h.length
theorem strs_size {a : Array Value} {l : List Str} (h : StrsAre a.toList l) : a.size = l.length := by rw [← Array.length_toList]; exact strs_len h
theorem abL_len (ds : List Int) (i : Nat) : (abL ds i).length = i := by simp [abL]
theorem whL_len (ds : List Int) (i : Nat) : (whL ds i).length = i := by simp [whL]
theorem nuL_len (ds : List Int) (i : Nat) : (nuL ds i).length = i := by simp [nuL]
theorem ints_at {vs : List Value} {ss : List Int} (h : IntsAre vs ss) : ∀ {k : Nat} (d : Int), k < ss.length → ∃ t, vs[k]? = some (.int (ss.getD k d) t) := by
  induction h with
  | nil => intro k d hk; simp at hk
  | cons y t _ ih =>
    intro k d hk
    cases k with
    | zero => exact ⟨t, rfl⟩
    | succ k => exact ih d (by simpa using hk)
theorem ints_push {a : Array Value} {l l' : List Int} {k : Int} {t : Tok} (h : IntsAre a.toList l) (e : l' = l ++ [k]) : IntsAre (a.push (.int k t)).toList l' := by
  subst e; rw [Array.toList_push]
  have snoc : ∀ {vs : List Value} {ns : List Int}, IntsAre vs ns → IntsAre (vs ++ [.int k t]) (ns ++ [k]) := by
    intro vs ns h
    induction h with
    | nil => exact .cons _ _ .nil
    | cons n u _ ih => exact .cons n u ih
  exact snoc h
theorem strs_push {a : Array Value} {l l' : List Str} {k : Str} {t : Tok} (h : StrsAre a.toList l) (e : l' = l ++ [k]) : StrsAre (a.push (.str k t)).toList l' := by
  subst e; rw [Array.toList_push]; exact strs_snoc h k t
theorem push_at {a : Array Value} {i : Nat} {v : Value} (h : a.size = i) : (a.push v).toList[i]? = some v := by
  subst h; simp
section
variable {prog : Program} {w : World} {A : Around} {E : Value → Shared → Prop} {s : Shared} {h₀ : Heap} {L : Addr} {news : List (Addr × Obj)} {value slice : Expr}
theorem item_news {l : Addr} {a : Array Value} {n : Nat} {k : Int} {u : Tok} {v : Value} {Q : Value → Shared → Prop} (N : News h₀ L s.heap news) (hm : (l, listOf a n) ∈ news)
    (h0 : 0 ≤ k) (h1 : k < 1000) (hx : a.toList[k.toNat]? = some v) (h : Q v s)
    (hs : subscripted slice false (.ref l) (.int k u) = operate [.ref l, .int k u] (getItem (.ref l) (.int k u)) := by with_unfolding_all rfl) (hg : ∀ r, letTemporaryGo value (.ref l) r = pure () := by intro _; with_unfolding_all rfl) :
    wpAny (model prog w) A (subscriptTail value slice (.ref l) (.int k u)) Q E s :=
  item_listL (l := a.toList) ⟨_, (N _ hm).1, rfl, _, rfl⟩ h0 (by omega) hx h hs hg
end
section
variable {prog : Program} {w : World} {A : Around} {E : Value → Shared → Prop} {s : Shared} {h₀ : Heap} {L : Addr} {news : List (Addr × Obj)} {value slice : Expr}
theorem item_menu {l : Addr} {a b c : Int} {ta tb tc : Tok} {n : Nat} {k : Int} {u : Tok} {Q : Value → Shared → Prop} (N : News h₀ L s.heap ((l, listOf #[.int a ta, .int b tb, .int c tc] n) :: news))
    (h0 : 0 ≤ k) (h1 : k < 3) (h : ∀ t, Q (.int ([a, b, c].getD k.toNat 0) t) s)
    (hs : subscripted slice false (.ref l) (.int k u) = operate [.ref l, .int k u] (getItem (.ref l) (.int k u)) := by with_unfolding_all rfl) :
    wpAny (model prog w) A (subscriptTail value slice (.ref l) (.int k u)) Q E s := by
  obtain ⟨t, ht⟩ := ints_at (vs := [.int a ta, .int b tb, .int c tc]) (ss := [a, b, c]) (.cons _ _ (.cons _ _ (.cons _ _ .nil))) (k := k.toNat) 0 (by show _ < 3; omega)
  have hl : s.heap.IsList l #[.int a ta, .int b tb, .int c tc] := ⟨_, (N _ (.head _)).1, rfl, _, rfl⟩
  exact tail_any hl.typeIs slot_list_getitem.lookup (wpAny_getItem_list hl h0 (by omega) (by simpa using ht) (h t)) hs
end
theorem nam_raw {ds : List Int} {i : Nat} (hi : i < 6) : Txt.item (Str.ofString "&<>\"") (Int.fmod (Int.fdiv (ds.getD i 0) (3 * (i : Int) + 3)) 4) ++ Str.ofString (toString (i : Int)) = namS ds i := nam_eq hi
theorem push_atI {a : Array Value} {i : Nat} {v : Value} (h : a.size = i) : (a.push v).toList[((i : Nat) : Int).toNat]? = some v := push_at h
end
section
local macro_rules | `(tactic| walk_at "no key 0") => `(tactic| fail)
local macro_rules | `(tactic| walk_at "no key 1") => `(tactic| fail)
/-! filemode -/
structure FB where
  a : Addr
  bit : Int
  tb : Tok
  ch : Str
  tc : Tok
noncomputable def fb (a : Addr) (bit : Int) (tb : Tok) (ch : String) (tc : Tok) : FB := ⟨a, bit, tb, Str.ofString ch, tc⟩
noncomputable def FT : List (Addr × List FB) := [
  (170, [fb 163 40960 391 "l" 419, fb 164 49152 393 "s" 420, fb 165 32768 387 "-" 421, fb 166 24576 385 "b" 422, fb 167 16384 381 "d" 423, fb 168 8192 383 "c" 424, fb 169 4096 389 "p" 425]),
  (172, [fb 171 256 401 "r" 426]), (174, [fb 173 128 403 "w" 427]), (178, [fb 175 2112 428 "s" 429, fb 176 2048 395 "S" 430, fb 177 64 405 "x" 431]),
  (180, [fb 179 32 407 "r" 432]), (182, [fb 181 16 409 "w" 433]), (186, [fb 183 1032 434 "s" 435, fb 184 1024 397 "S" 436, fb 185 8 411 "x" 437]),
  (188, [fb 187 4 413 "r" 438]), (190, [fb 189 2 415 "w" 439]), (194, [fb 191 513 440 "t" 441, fb 192 512 399 "T" 442, fb 193 1 417 "x" 443])]
noncomputable def FtIn (h : Heap) (T : Addr) (bs : List FB) : Prop := IsTup h T (bs.map fun b => Value.ref b.a).toArray ∧ ∀ b ∈ bs, IsTup h b.a #[.int b.bit b.tb, .str b.ch b.tc]
theorem FtIn.keeps {h h' : Heap} {T : Addr} {bs : List FB} (x : FtIn h T bs) (hk : ∀ b o, h.get? b = some o → h'.get? b = some o) : FtIn h' T bs := ⟨x.1.keeps hk, fun b hb => (x.2 b hb).keeps hk⟩
theorem tupAt {P : Params} {h : Heap} {a : Addr} {l : List Value} (X : (hd.heap_1 P).In h) (e : (hd.heap_1 P).lookup a = some ⟨.type "tuple", none, .seq l.toArray 0, #[]⟩) : IsTup h a l.toArray := tupK X e
theorem ft_in {w : World} {h : Heap} (X : (hd.heap_1 w.params).In h) : IsTup h 195 (FT.map fun t => Value.ref t.1).toArray ∧ ∀ t ∈ FT, FtIn h t.1 t.2 := by
  refine ⟨tupAt X rfl, ?_⟩
  unfold FT
  simp only [List.forall_mem_cons, List.not_mem_nil, false_implies, implies_true, and_true]
  refine ⟨?_, ?_, ?_, ?_, ?_, ?_, ?_, ?_, ?_, ?_⟩
  all_goals refine ⟨tupAt X rfl, ?_⟩
  all_goals simp only [List.forall_mem_cons, List.not_mem_nil, false_implies, implies_true, and_true]
  all_goals repeat' (first | exact tupAt (l := [_, _]) X rfl | refine ⟨tupAt (l := [_, _]) X rfl, ?_⟩)
section
variable {prog : Program} {w : World} {A : Around} {E : Value → Shared → Prop} {s : Shared} {h₀ : Heap} {L : Addr} {m : Str → Option Value}
theorem append_head {p : Addr} {us : List Value} {c : Nat} {v : Value} {rest : List (Addr × Obj)} {Q : Value → Shared → Prop} (F : Fr h₀ L s.heap m) (N : News h₀ L s.heap ((p, listOf us.toArray c) :: rest)) (hne : ∀ q ∈ rest, q.1 ≠ p) (hsz : us.length ≤ sizeLine)
    (h : ∀ h', Fr h₀ L h' m → News h₀ L h' ((p, listOf (us ++ [v]).toArray (c + 1)) :: rest) → Q .none { s with heap := h' }) : wpAny (model prog w) A (call (.builtin "list.append") [.ref p, v]) Q E s :=
  append_K (its := us.toArray) (n := c) F N (Upd.head hne) (fun h' F' N' => h h' F' (by simpa using N')) (by simpa using hsz)
end
noncomputable def pick (p : Int → Bool) (d : Str) : List FB → Str
  | [] => d
  | b :: r => if p b.bit then b.ch else pick p d r
theorem pick_none {p : Int → Bool} {d : Str} : ∀ {l : List FB}, (∀ b ∈ l, p b.bit = false) → pick p d l = d
  | [], _ => rfl
  | b :: r, h => by
    rw [pick, h b (.head _)]
    exact pick_none fun q hq => h q (.tail _ hq)
theorem pick_at {p : Int → Bool} {d : Str} {b : FB} : ∀ {l : List FB} {i : Nat}, l[i]? = some b → (∀ q ∈ l.take i, p q.bit = false) → p b.bit = true → pick p d l = b.ch
  | [], _, h, _, _ => by cases h
  | a :: r, 0, h, _, hb => by
    cases h
    exact if_pos hb
  | a :: r, i + 1, h, ht, hb => by
    have h1 : p a.bit = false := ht a (by simp)
    refine (if_neg (by rw [h1]; exact Bool.false_ne_true)).trans ?_
    exact pick_at (l := r) (i := i) (by simpa using h) (fun q hq => ht q (by simp [hq])) hb
theorem take_more {α : Type} {l : List α} {i : Nat} {b : α} {P : α → Prop} (h : l[i]? = some b) (ht : ∀ q ∈ l.take i, P q) (hb : P b) : ∀ q ∈ l.take (i + 1), P q := by
  rw [List.take_add_one, h]
  intro q hq
  rcases List.mem_append.mp hq with hq | hq
  · exact ht q hq
  · have e : q = b := by simpa using hq
    rw [e]; exact hb
theorem and_two {n : Nat} (i : Nat) : n &&& 2 ^ i = (n.testBit i).toNat * 2 ^ i := by
  apply Nat.eq_of_testBit_eq
  intro j
  rw [Nat.testBit_and, Nat.testBit_two_pow]
  cases h : n.testBit i with
  | false =>
    by_cases hj : i = j
    · subst hj; simp [h]
    · simp [hj]
  | true =>
    rw [Bool.toNat_true, Nat.one_mul, Nat.testBit_two_pow]
    by_cases hj : i = j
    · subst hj; simp [h]
    · simp [hj]
theorem nat_ifmt (n : Nat) (h1 : 16384 ≤ n) (h2 : n < 20480) : n &&& 61440 = 16384 := by
  have e : (61440 : Nat) = 2 ^ 15 ||| (2 ^ 14 ||| (2 ^ 13 ||| 2 ^ 12)) := by decide
  rw [e, Nat.and_or_distrib_left, Nat.and_or_distrib_left, Nat.and_or_distrib_left, and_two, and_two, and_two, and_two]
  simp only [Nat.testBit_eq_decide_div_mod_eq]
  have a1 : n / 2 ^ 15 % 2 = 0 := by omega
  have a2 : n / 2 ^ 14 % 2 = 1 := by omega
  have a3 : n / 2 ^ 13 % 2 = 0 := by omega
  have a4 : n / 2 ^ 12 % 2 = 0 := by omega
  rw [a1, a2, a3, a4]
  decide
theorem ifmt_val {n : Int} (h1 : 16384 ≤ n) (h2 : n < 20480) : Builtin.bitAnd n 61440 = 16384 := by
  rw [bitAnd_pp (by omega) (by decide)]
  exact congrArg (fun x : Nat => (x : Int)) (nat_ifmt n.toNat (by omega) (by omega))
set_option maxRecDepth 100000 in
set_option maxHeartbeats 8000000 in
theorem ifmt_spec (w : World) (mean : ExcName → Option Value) (mg mb : Str → Option Value) (n : Int) (t : Tok) (hn1 : 16384 ≤ n) (hn2 : n < 20480) :
    Claim w mean mg mb 162 1 8 0 [] [.int n t] (fun v => ∃ t', v = .int 16384 t') := by
  unfold Claim
  intro dp un gd cn cs a ccd cl outer A₀ base h₀ L m news s Q E B F X N T hk hn hdp hun htk hret
  w_top off
  k_with_none
  k_with "m1" => ((k_here; refine execs_cons_t (by first | exact Nat.succ_pos _ | assumption | (dsimp only; omega)) ?_))
  k_with "m2" => (first | (refine tnext_next ?_; intro tk9 htk9) | refine tnext_ret ?_ | refine tnext_brk ?_ | refine tnext_cont ?_)
  have kf : PySem.Challenge.rw_il0079_01 = PySem.Challenge.rw_il0079_01 ∧ hd.heap_1 w.params = hd.heap_1 w.params := by (k_fill; exact ⟨rfl, rfl⟩)
  clear kf
  refine wpAny_call ?_
  k_dflt cell_enter
  k_steps
  all_goals exact hret _ _ _ ⟨_, congrArg (fun j => Value.int j _) (ifmt_val hn1 hn2)⟩ (by k_asm) (by k_asm)
noncomputable def pickAt (n : Int) (k : Nat) (bs : List FB) : Str := if k = 0 then pick (fun b => decide (16384 = b)) (Str.ofString "?") bs else pick (fun b => decide (Builtin.bitAnd n b = b)) (Str.ofString "-") bs
noncomputable def picksTo (n : Int) (i : Nat) : List Str := (FT.zipIdx.take i).map fun tk => pickAt n tk.2 tk.1.2
noncomputable def OutJ (n : Int) (t : Tok) (p : Addr) (news : List (Addr × Obj)) (i : Nat) (m : Str → Option Value) (nx : List (Addr × Obj)) : Prop :=
  ∃ us c, nx = (p, listOf us.toArray c) :: news ∧ StrsAre us (picksTo n i) ∧ m (Str.ofString "mode") = some (.int n t) ∧ m (Str.ofString "perm") = some (.ref p)
noncomputable def InJ (P : Int → Bool) (n : Int) (t : Tok) (i : Int) (ti : Tok) (p : Addr) (bs : List FB) (all : List (Addr × Obj)) (j : Nat) (m : Str → Option Value) (nx : List (Addr × Obj)) : Prop :=
  nx = all ∧ m (Str.ofString "mode") = some (.int n t) ∧ m (Str.ofString "perm") = some (.ref p) ∧ m (Str.ofString "index") = some (.int i ti) ∧ ∀ q ∈ bs.take j, P q.bit = false
theorem picks_len (n : Int) (i : Nat) : (picksTo n i).length ≤ 10 := by
  unfold picksTo
  rw [List.length_map, List.length_take, List.length_zipIdx]
  exact Nat.le_trans (Nat.min_le_right _ _) (by decide)
theorem pick_len {p : Int → Bool} {d : Str} (hd : d.length = 1) : ∀ l : List FB, (∀ b ∈ l, b.ch.length = 1) → (pick p d l).length = 1
  | [], _ => hd
  | b :: r, h => by
    unfold pick
    split
    · exact h b (.head _)
    · exact pick_len hd r fun q hq => h q (.tail _ hq)
theorem ft_len : ∀ t ∈ FT, ∀ b ∈ t.2, b.ch.length = 1 := by decide
theorem sum_one {l : List Str} (h : ∀ x ∈ l, x.length = 1) : (l.map (·.length)).sum = l.length := by
  induction l with
  | nil => rfl
  | cons a r ih => rw [List.map_cons, List.sum_cons, h a (.head _), ih fun x hx => h x (.tail _ hx), List.length_cons]; omega
theorem picks_sum (n : Int) (i : Nat) : ((picksTo n i).map (·.length)).sum + (picksTo n i).length * (Str.ofString "").length ≤ 16777216 := by
  have h : ∀ x ∈ picksTo n i, x.length = 1 := by
    intro x hx
    obtain ⟨⟨⟨T, bs⟩, k⟩, hq, rfl⟩ := List.mem_map.mp hx
    have hq' := List.mem_of_mem_take hq
    have hm : (T, bs) ∈ FT := by
      have := List.mem_zipIdx hq'
      rw [this.2.2]; exact List.getElem_mem _
    have hb := ft_len _ hm
    unfold pickAt
    split
    · exact pick_len (by decide) _ hb
    · exact pick_len (by decide) _ hb
  have hle := picks_len n i
  rw [sum_one h, show (Str.ofString "").length = 0 from by decide]
  omega
theorem picks_more {n : Int} {i : Nat} {T : Addr} {bs : List FB} (h : FT[i]? = some (T, bs)) : picksTo n (i + 1) = picksTo n i ++ [pickAt n i bs] := by
  unfold picksTo
  rw [List.take_add_one, List.getElem?_zipIdx, h]
  simp
section
variable {h₀ : Heap} {L : Addr}
theorem out_end {n : Int} {t : Tok} {i : Nat} {l0 T : Addr} {bs : List FB} {us : List Value} {c : Nat} {x : Str} {u : Tok} {news own more : List (Addr × Obj)} {o0 : Obj} {s₁ : Shared} {h' : Heap} {tk : Nat} {m' : Str → Option Value}
    (F : Fr h₀ L h' m') (N : News h₀ L h' ((l0, listOf (us ++ [Value.str x u]).toArray (c + 1)) :: (news ++ own ++ more))) (h1 : m' (Str.ofString "mode") = some (.int n t)) (h2 : m' (Str.ofString "perm") = some (.ref l0))
    (hus : StrsAre us (picksTo n i)) (hft : FT[i]? = some (T, bs)) (hx : x = pickAt n i bs) :
    InvEndN h₀ L (OutJ n t l0 news (i + 1)) own (((l0, o0) :: news).map (·.1)) s₁ { s₁ with heap := h', toks := tk } := by
  subst hx
  refine InvEndN.intro (nx := (l0, listOf (us ++ [Value.str (pickAt n i bs) u]).toArray (c + 1)) :: news) F N ⟨_, _, rfl, ?_, h1, h2⟩ rfl (fun p hp => ?_) (fun p hp => ?_)
  · rw [picks_more hft]
    exact hus.append' (.cons _ _ .nil)
  · rcases List.mem_cons.mp hp with rfl | hp
    · exact .head _
    · exact .tail _ (List.mem_append_left _ (List.mem_append_left _ hp))
  · exact .tail _ (List.mem_append_left _ (List.mem_append_right _ hp))
theorem in_end {P : Int → Bool} {n i : Int} {t ti : Tok} {l0 : Addr} {bs : List FB} {b : FB} {j : Nat} {all own2 rest : List (Addr × Obj)} {s₁ : Shared} {h' : Heap} {tk : Nat} {m' : Str → Option Value}
    (F : Fr h₀ L h' m') (N : News h₀ L h' rest) (he : rest = all ++ own2) (h1 : m' (Str.ofString "mode") = some (.int n t)) (h2 : m' (Str.ofString "perm") = some (.ref l0)) (h3 : m' (Str.ofString "index") = some (.int i ti))
    (hb : bs[j]? = some b) (h4 : ∀ q ∈ bs.take j, P q.bit = false) (h5 : P b.bit = false) :
    InvEndN h₀ L (InJ P n t i ti l0 bs all (j + 1)) own2 (all.map (·.1)) s₁ { s₁ with heap := h', toks := tk } := by
  subst he
  refine InvEndN.intro F N ⟨rfl, h1, h2, h3, take_more (P := fun q => P q.bit = false) hb h4 h5⟩ rfl (fun p hp => List.mem_append_left _ hp) (fun p hp => List.mem_append_right _ hp)
end
local macro_rules
  | `(tactic| walk_at "call ref") => `(tactic| k_extra "m5")
  | `(tactic| walk_at "call builtin:list.append") => `(tactic| k_extra "m6")
set_option maxRecDepth 100000 in
set_option maxHeartbeats 8000000 in
theorem filemode_spec (w : World) (mean : ExcName → Option Value) (mg mb : Str → Option Value) (n : Int) (t : Tok) (hn1 : 16384 ≤ n) (hn2 : n < 20480) :
    Claim w mean mg mb 202 3 24 0 [] [.int n t] (fun v => ∃ t', v = .str (Txt.join (Str.ofString "") (picksTo n 10)) t') := by
  unfold Claim
  intro dp un gd cn cs a ccd cl outer A₀ base h₀ L m news s Q E B F X N T hk hn hdp hun htk hret
  w_top off
  k_with_none
  k_with "m1" => ((k_here; refine execs_cons_t (by first | exact Nat.succ_pos _ | assumption | (dsimp only; omega)) ?_))
  k_with "m2" => (first | (refine tnext_next ?_; intro tk9 htk9) | refine tnext_ret ?_ | refine tnext_brk ?_ | refine tnext_cont ?_)
  k_with "m5" => ((k_here; k_dflt (first | refine' claim_use (ifmt_spec _ _ _ _ _ _ (by assumption) (by assumption)) ?k1 ?k2 ?k3 ?k4 ?k5 ?kK ?kn ?kd ?ku ?kt ?_); (case k1 => k_asm); (case k2 => k_asm); (case k3 => k_asm); (case k4 => k_asm); (case k5 => k_asm); (case kK => first | exact rfl | assumption); (case kn => first | exact fun _ h9 => nomatch h9 | assumption); (case kd => ktr_room); (case ku => ktr_units); (case kt => first | exact Nat.zero_le _ | (dsimp only; omega)); intro r9 h9 tk9 R9 F9 N9; (first | (obtain ⟨t9, e9⟩ := R9; subst e9) | subst R9 | skip); (try dsimp only); (try k_fold)))
  k_with "m6" => ((refine append_head (by assumption) (by assumption) (by assumption) (by rw [sizeLine_eq]; omega) ?_; intro h' F' N'))
  have kf : PySem.Challenge.rw_il0079_01 = PySem.Challenge.rw_il0079_01 ∧ hd.heap_1 w.params = hd.heap_1 w.params := by (k_fill; exact ⟨rfl, rfl⟩)
  clear kf
  refine wpAny_call ?_
  k_dflt cell_enter
  iterate 15 walk1
  · rename (∀ _ ∈ news, _ < _) => hlt0
    rename Fr _ _ _ _ => F1
    rename News _ _ _ _ => N1
    rename ((hd.heap_1 w.params).In _) => X1
    rename Addr => l0
    obtain ⟨hT0, hTs⟩ := ft_in X1
    refine enumT_at (OutJ n t _ news) rfl hT0 F1 N1 ⟨[], 0, rfl, .nil, rfl, rfl⟩ ?_ ?_
    · intro i v ti m₁ news₁ h tk own hv hJ hadr hoff F2 N2
      obtain ⟨us, c, rfl, hus, hm1, hm2⟩ := hJ
      obtain ⟨⟨Tt, bs⟩, hft, rfl⟩ : ∃ q, FT[i]? = some q ∧ Value.ref q.1 = v := by simpa using hv
      have hin := hTs _ (List.mem_of_getElem? hft)
      have hlen := hus.length
      have hle := picks_len n i
      have F3 := fr_know (x := Str.ofString "mode") F2 (by rw [if_neg (by decide), if_neg (by decide)]; exact hm1)
      have F4 := fr_know (x := Str.ofString "perm") F3 (by rw [if_neg (by decide), if_neg (by decide), if_neg (by decide)]; exact hm2)
      clear F2 F3
      have hne : ∀ q ∈ news ++ own, q.1 ≠ l0 := by
        intro q hq
        rcases List.mem_append.mp hq with hq | hq
        · exact Nat.ne_of_lt (hlt0 q hq)
        · exact hoff q hq _ (by simp)
      refine wpAny_execs_cons ?_
      refine wpAny_For ?_
      refine ld F4 rfl ?_
      by_cases hi : i = 0
      · subst hi
        refine for_pairs (InJ (fun b => decide (16384 = b)) n t _ ti l0 bs _) (v1 := fun b : FB => Value.int b.bit b.tb) (v2 := fun b : FB => Value.str b.ch b.tc) rfl rfl rfl rfl hin.1 hin.2 F4 N2 ⟨rfl, rfl, rfl, rfl, fun q hq => by simp at hq⟩ ?_ ?_ (by passes_own)
        · intro j b m2 news2 h2 tk2 own2 hb hJ2 hadr2 hoff2 G2 M2
          obtain ⟨rfl, e1, e2, e3, e4⟩ := hJ2
          have G3 := fr_know (x := Str.ofString "mode") G2 (by rw [if_neg (by decide), if_neg (by decide)]; exact e1)
          have G4 := fr_know (x := Str.ofString "perm") G3 (by rw [if_neg (by decide), if_neg (by decide), if_neg (by decide)]; exact e2)
          have G5 := fr_know (x := Str.ofString "index") G4 (by rw [if_neg (by decide), if_neg (by decide), if_neg (by decide), if_neg (by decide)]; exact e3)
          clear G2 G3 G4
          have M3 := news_flat2 M2
          clear M2
          have hne2 : ∀ q ∈ news ++ own ++ own2, q.1 ≠ l0 := by
            intro q hq
            rcases List.mem_append.mp hq with hq | hq
            · exact hne q hq
            · exact hoff2 q hq _ (by simp)
          k_steps
          · refine out_end (by assumption) (by assumption) rfl rfl hus hft ?_
            exact ((if_pos rfl).trans (pick_at hb e4 (decide_eq_true (by assumption)))).symm
          · refine in_end (by assumption) (by assumption) rfl rfl rfl rfl hb e4 ?_
            exact decide_eq_false (by assumption)
        · intro m2 news2 h2 tk2 hJ2 hadr2 G2 M2
          obtain ⟨rfl, e1, e2, e3, e4⟩ := hJ2
          rw [List.take_length] at e4
          have G3 := fr_know (x := Str.ofString "mode") G2 e1
          have G4 := fr_know (x := Str.ofString "perm") G3 (by rw [if_neg (by decide)]; exact e2)
          have G5 := fr_know (x := Str.ofString "index") G4 (by rw [if_neg (by decide), if_neg (by decide)]; exact e3)
          clear G2 G3 G4
          have M3 := news_flat M2
          clear M2
          k_steps
          refine out_end (more := []) (by assumption) (by rw [List.append_nil]; assumption) rfl rfl hus hft ?_
          exact ((if_pos rfl).trans (pick_none e4)).symm
      · have hi' : ¬ (i : Int) = 0 := by omega
        refine for_pairs (InJ (fun b => decide (Builtin.bitAnd n b = b)) n t _ ti l0 bs _) (v1 := fun b : FB => Value.int b.bit b.tb) (v2 := fun b : FB => Value.str b.ch b.tc) rfl rfl rfl rfl hin.1 hin.2 F4 N2 ⟨rfl, rfl, rfl, rfl, fun q hq => by simp at hq⟩ ?_ ?_ (by passes_own)
        · intro j b m2 news2 h2 tk2 own2 hb hJ2 hadr2 hoff2 G2 M2
          obtain ⟨rfl, e1, e2, e3, e4⟩ := hJ2
          have G3 := fr_know (x := Str.ofString "mode") G2 (by rw [if_neg (by decide), if_neg (by decide)]; exact e1)
          have G4 := fr_know (x := Str.ofString "perm") G3 (by rw [if_neg (by decide), if_neg (by decide), if_neg (by decide)]; exact e2)
          have G5 := fr_know (x := Str.ofString "index") G4 (by rw [if_neg (by decide), if_neg (by decide), if_neg (by decide), if_neg (by decide)]; exact e3)
          clear G2 G3 G4
          have M3 := news_flat2 M2
          clear M2
          have hne2 : ∀ q ∈ news ++ own ++ own2, q.1 ≠ l0 := by
            intro q hq
            rcases List.mem_append.mp hq with hq | hq
            · exact hne q hq
            · exact hoff2 q hq _ (by simp)
          k_steps
          · refine out_end (by assumption) (by assumption) rfl rfl hus hft ?_
            exact ((if_neg hi).trans (pick_at hb e4 (decide_eq_true (by assumption)))).symm
          · refine in_end (by assumption) (by assumption) rfl rfl rfl rfl hb e4 ?_
            exact decide_eq_false (by assumption)
        · intro m2 news2 h2 tk2 hJ2 hadr2 G2 M2
          obtain ⟨rfl, e1, e2, e3, e4⟩ := hJ2
          rw [List.take_length] at e4
          have G3 := fr_know (x := Str.ofString "mode") G2 e1
          have G4 := fr_know (x := Str.ofString "perm") G3 (by rw [if_neg (by decide)]; exact e2)
          have G5 := fr_know (x := Str.ofString "index") G4 (by rw [if_neg (by decide), if_neg (by decide)]; exact e3)
          clear G2 G3 G4
          have M3 := news_flat M2
          clear M2
          k_steps
          refine out_end (more := []) (by assumption) (by rw [List.append_nil]; assumption) rfl rfl hus hft ?_
          exact ((if_neg hi).trans (pick_none e4)).symm
    · intro m₁ news₁ h tk hJ hadr F2 N2
      obtain ⟨us, c, rfl, hus, hm1, hm2⟩ := hJ
      have F3 := fr_know (x := Str.ofString "perm") F2 hm2
      clear F2
      k_steps
      refine join_list ⟨_, (N2 _ (.head _)).1, rfl, _, rfl⟩ (by simpa using hus) (picks_sum n _) ?_
      intro t' k
      k_steps
      exact hret _ _ _ ⟨_, rfl⟩ (by k_asm) (News.tail' (by assumption))
  · passes_own
end
section
noncomputable def fmS (n : Int) : Str := Txt.join (Str.ofString "") (picksTo n 10)
noncomputable def itemS (ds : List Int) (wh : Int) (n k : Nat) : Str := Str.ofString "<d m=\"" ++ fmS (numS ds k) ++ Str.ofString "\" p=\"" ++ spellS wh ((wyL ds n).getD (k + 1) (Str.ofString "/")) ++ Str.ofString "\"/>"
noncomputable def pageL (ds : List Int) (wh : Int) (n i : Nat) : List Str := (List.range i).map (itemS ds wh n)
noncomputable def pageS (ds : List Int) (wh : Int) : Str := Txt.join (Str.ofString "") (pageL ds wh ds.length ds.length)
theorem pageL_more (ds : List Int) (wh : Int) (n i : Nat) : pageL ds wh n (i + 1) = pageL ds wh n i ++ [itemS ds wh n i] := by simp [pageL, List.range_succ]
noncomputable def numV (d z : Int) : Int := 16384 + (d * 43 - Int.fmod (Int.fdiv (d * 43) 128) 2 * 128 - Int.fmod (Int.fdiv (d * 43) 16) 2 * 16) + ([128, 16, 0] : List Int).getD z.toNat 0
theorem num_ok {ds : List Int} (h : ∀ k, 0 ≤ ds.getD k 0 ∧ ds.getD k 0 < 96) (k : Nat) : ∃ d z : Nat, d < 96 ∧ z < 3 ∧ whsS ds k = (z : Int) ∧ numS ds k = numV d z := by
  obtain ⟨h0, h1⟩ := h k
  obtain ⟨w0, w1⟩ := whs_bd ds k
  obtain ⟨d, hd⟩ := Int.eq_ofNat_of_zero_le h0
  obtain ⟨z, hz⟩ := Int.eq_ofNat_of_zero_le w0
  refine ⟨d, z, by omega, by omega, hz, ?_⟩
  unfold numS numV
  rw [hd, hz]
theorem numV_all : ∀ d : Nat, d < 96 → ∀ z : Nat, z < 3 → (decide (16384 ≤ numV d z) && decide (numV d z < 20480)) = true := by decide +kernel
theorem num_bd {ds : List Int} (h : ∀ k, 0 ≤ ds.getD k 0 ∧ ds.getD k 0 < 96) (k : Nat) : 16384 ≤ numS ds k ∧ numS ds k < 20480 := by
  obtain ⟨d, z, hd, hz, _, hn⟩ := num_ok h k
  have ho := Bool.and_eq_true_iff.mp (numV_all d hd z hz)
  rw [hn]
  exact ⟨of_decide_eq_true ho.1, of_decide_eq_true ho.2⟩
noncomputable def Plain (x : Str) : Prop := ∀ a ∈ x.cps.toList, 34 ≤ a ∧ a ≤ 62
theorem plain_app {x y : Str} (hx : Plain x) (hy : Plain y) : Plain (x ++ y) := by
  intro a ha
  rw [Str.cps_append, Array.toList_append] at ha
  rcases List.mem_append.mp ha with h | h
  · exact hx a h
  · exact hy a h
theorem plain_slash : Plain (Str.ofString "/") := by
  intro a ha
  have : a ∈ [47] := ha
  simp only [List.mem_cons, List.not_mem_nil, or_false] at this
  omega
theorem plain_nam (ds : List Int) (k : Nat) (hk : k < 6) : Plain (namS ds k) := by
  intro a ha
  have : a ∈ [([38, 60, 62, 34] : List Nat).getD (sgnS ds k).toNat 38, 48 + k] := ha
  simp only [List.mem_cons, List.not_mem_nil, or_false] at this
  rcases this with rfl | rfl
  · rcases getD_mem_or ([38, 60, 62, 34] : List Nat) (sgnS ds k).toNat 38 with h | h
    · simp only [List.mem_cons, List.not_mem_nil, or_false] at h
      omega
    · omega
  · omega
theorem plain_wy (ds : List Int) : ∀ i, i ≤ 6 → ∀ x ∈ wyL ds i, Plain x
  | 0, _, x, hx => by rw [List.mem_singleton.mp hx]; exact plain_slash
  | i + 1, hi, x, hx => by
    have ih := plain_wy ds i (by omega)
    rcases List.mem_append.mp hx with hx | hx
    · exact ih x hx
    · rw [List.mem_singleton.mp hx]
      have h2 : Plain ((wyL ds i).getD (abvS ds i).toNat (Str.ofString "/")) := by
        rcases getD_mem_or (wyL ds i) (abvS ds i).toNat (Str.ofString "/") with h | h
        · exact ih _ h
        · rw [h]; exact plain_slash
      unfold joined
      split
      · exact plain_app h2 (plain_nam ds i (by omega))
      · exact plain_app h2 (plain_app plain_slash (plain_nam ds i (by omega)))
theorem plain_tame {x : Str} (h : Plain x) : Tame x := fun a ha => by have := h a ha; omega
theorem spell_len {w : Int} {x : Str} : (spellS w x).length ≤ 6 * x.length := by
  show (spellL w x.cps.toList).toArray.size ≤ 6 * x.cps.size
  rw [List.size_toArray, ← Array.length_toList]
  generalize x.cps.toList = l
  unfold spellL
  induction l with
  | nil => exact Nat.le_refl _
  | cons a r ih =>
    rw [List.flatMap_cons, List.length_append, List.length_cons]
    have : (sgn w a).length ≤ 6 := by
      unfold sgn
      split
      · decide
      · split
        · decide
        · split
          · decide
          · split
            · decide
            · exact Nat.le_of_ble_eq_true rfl
    omega
theorem fm_len (n : Int) : (fmS n).length ≤ 10 := by
  have h1 : (fmS n).length = (picksTo n 10).length := by
    unfold fmS
    have h : ∀ x ∈ picksTo n 10, x.length = 1 := by
      intro x hx
      obtain ⟨⟨⟨T, bs⟩, k⟩, hq, rfl⟩ := List.mem_map.mp hx
      have hq' := List.mem_of_mem_take hq
      have hm : (T, bs) ∈ FT := by
        have := List.mem_zipIdx hq'
        rw [this.2.2]; exact List.getElem_mem _
      have hb := ft_len _ hm
      unfold pickAt
      split
      · exact pick_len (by decide) _ hb
      · exact pick_len (by decide) _ hb
    exact KT.join_ones _ h
  rw [h1]
  exact picks_len n 10
theorem item_len (ds : List Int) (wh : Int) (n k : Nat) (hn : n ≤ 6) : (itemS ds wh n k).length ≤ 200 := by
  unfold itemS
  simp only [Str.length_append]
  have h1 := fm_len (numS ds k)
  have h2 : ((wyL ds n).getD (k + 1) (Str.ofString "/")).length ≤ 19 := by
    rcases getD_mem_or (wyL ds n) (k + 1) (Str.ofString "/") with h | h
    · have := wy_bd ds n _ h; omega
    · rw [h]; decide
  have h3 := @spell_len wh ((wyL ds n).getD (k + 1) (Str.ofString "/"))
  have e1 : (Str.ofString "<d m=\"").length = 6 := by decide
  have e2 : (Str.ofString "\" p=\"").length = 5 := by decide
  have e3 : (Str.ofString "\"/>").length = 3 := by decide
  omega
theorem sum_le {l : List Str} {b : Nat} (h : ∀ x ∈ l, x.length ≤ b) : (l.map (·.length)).sum ≤ b * l.length := by
  induction l with
  | nil => exact Nat.zero_le _
  | cons a r ih =>
    rw [List.map_cons, List.sum_cons, List.length_cons, Nat.mul_add, Nat.mul_one]
    have := h a (.head _)
    have := ih fun x hx => h x (.tail _ hx)
    omega
theorem page_sum (ds : List Int) (wh : Int) (n : Nat) (hn : n ≤ 6) : ((pageL ds wh n n).map (·.length)).sum + (pageL ds wh n n).length * (Str.ofString "").length ≤ 16777216 := by
  have h1 := sum_le (l := pageL ds wh n n) (b := 200) (fun x hx => by
    obtain ⟨k, _, rfl⟩ := List.mem_map.mp hx
    exact item_len ds wh n k hn)
  have h2 : (pageL ds wh n n).length = n := by simp [pageL]
  have e0 : (Str.ofString "").length = 0 := by decide
  rw [e0]
  rw [h2] at h1 ⊢
  omega
theorem strs_more {vs : List Value} {l l' : List Str} {k : Str} {t : Tok} (h : StrsAre vs l) (e : l' = l ++ [k]) : StrsAre (vs ++ [.str k t]) l' := by subst e; exact strs_snoc h k t
theorem ints_more {vs : List Value} {l l' : List Int} {k : Int} {t : Tok} (h : IntsAre vs l) (e : l' = l ++ [k]) : IntsAre (vs ++ [.int k t]) l' := by
  subst e
  induction h with
  | nil => exact .cons _ _ .nil
  | cons n u _ ih => exact .cons n u ih
end
section
open PySem.SeqAt
section
theorem readsAll_of_strs {h : Heap} : ∀ {vs : List Value} {ns : List Str}, StrsAre vs ns → ReadsAll h vs (ns.map PyData.str) []
  | _, _, .nil => .nil
  | _, _, .cons k t r => by
    have := ReadsAll.cons (Reads.str (h := h) k t) (readsAll_of_strs (h := h) r)
    simpa using this
theorem reads_of_strs {h : Heap} {a : Addr} {vs : List Value} {ns : List Str} (hl : h.IsList a vs.toArray) (hi : StrsAre vs ns) : Reads h (.ref a) (.list (ns.map PyData.str)) [a] := by
  obtain ⟨o, ho, hc, n, hd⟩ := hl
  exact Reads.list ho hc hd (by simpa using readsAll_of_strs hi)
theorem canLayAll0_strs : ∀ ns : List Str, (∀ x ∈ ns, PyData.strOk x = true) → PyData.canLayAll0 (ns.map PyData.str) = true
  | [], _ => by simp [PyData.canLayAll0]
  | n :: r, h => by simp [PyData.canLayAll0, PyData.canLay0, canLayAll0_strs r (fun x hx => h x (.tail _ hx)), h n (.head _)]
theorem depthAll_strs : ∀ ns : List Str, PyData.depthAll (ns.map PyData.str) ≤ 1
  | [] => by simp [PyData.depthAll]
  | n :: r => by
    have := depthAll_strs r
    simp only [List.map_cons, PyData.depthAll, PyData.depth]
    omega
theorem shaped_strs (ns : List Str) (h : ∀ x ∈ ns, PyData.strOk x = true) : shaped (.list (ns.map PyData.str)) = true := by
  have h1 := depthAll_strs ns
  have h2 : PyData.depth (.list (ns.map PyData.str)) ≤ 64 := by simp only [PyData.depth]; omega
  show (PyData.canLay0 (.list (ns.map PyData.str)) && decide (PyData.depth (.list (ns.map PyData.str)) ≤ 64)) = true
  rw [Bool.and_eq_true]
  exact ⟨by simp only [PyData.canLay0]; exact canLayAll0_strs ns h, decide_eq_true h2⟩
theorem noMix_strs : ∀ ns ms : List Str, noMixAll (ns.map PyData.str) (ms.map PyData.str) = true
  | [], [] => by simp [noMixAll]
  | [], _ :: _ => by simp [noMixAll]
  | _ :: _, [] => by simp [noMixAll]
  | _ :: r, _ :: q => by simp [noMixAll, noMix, noMix_strs r q]
theorem same_strs : ∀ ns ms : List Str, ns = ms → PySem.Spec.sameAll (ns.map PyData.str) (ms.map PyData.str) = true
  | [], _, rfl => by simp [PySem.Spec.sameAll]
  | n :: r, _, rfl => by
    simp only [List.map_cons, PySem.Spec.sameAll, PySem.Spec.same, same_strs r r rfl]
    simp
end
section
variable {prog : Program} {w : World} {A : Around} {E : Value → Shared → Prop} {s : Shared}
theorem ne_strsK {a b : Addr} {vs us : List Value} {ns ms : List Str} {Q : Value → Shared → Prop} (hl : s.heap.IsList a vs.toArray) (hi : StrsAre vs ns) (hl' : s.heap.IsList b us.toArray) (hi' : StrsAre us ms) (hu : A.units + 64 < cLine) (he : ns = ms) (hok : ∀ x ∈ ns, PyData.strOk x = true)
    (h : Q (.bool false) s) : wpAny (model prog w) A (compareOp .NotEq (.ref a) (.ref b)) Q E s :=
  ne_dataH_same (reads_of_strs hl hi) (reads_of_strs hl' hi') (shaped_strs ns hok) (shaped_strs ms (he ▸ hok)) hu (by simp only [noMix]; exact noMix_strs ns ms) (by simp only [PySem.Spec.same]; rw [same_strs _ _ he]; exact h)
end
noncomputable def Asc (x : Str) : Prop := ∀ a ∈ x.cps.toList, a < 128
theorem asc_ok {x : Str} (h : Asc x) : PyData.strOk x = true := by
  unfold PyData.strOk
  rw [Array.all_eq_true_iff_forall_mem]
  intro a ha
  have := h a (by simpa using ha)
  exact decide_eq_true (by omega)
theorem slice_1 {a : Array Value} : slicePick a (some 1) none none = (a.toList.drop 1).toArray := by
  have := slicePick_from' a 1
  simpa using this
theorem strs_drop {vs : List Value} {ss : List Str} (h : StrsAre vs ss) : StrsAre (vs.drop 1) (ss.drop 1) := by
  cases h with
  | nil => exact .nil
  | cons _ _ h => exact h
theorem closure_two {scope : Scope} {env : Env} {n0 n1 n2 x y : Str} {a b : Addr} (hn : scope.names = [(n0, .local), (n1, .local), (n2, .globalImplicit), (x, .free), (y, .free)]) (hx : env.cells.lookup x = some a) (hy : env.cells.lookup y = some b) :
    closureFor scope env = pure [(y, b), (x, a)] := by
  unfold closureFor
  rw [hn]
  simp only [List.forIn_cons, List.forIn_nil]
  unfold cellOf
  rw [hx, hy]
  rfl
end
section
theorem ifexp_strs {M : Model} {A : Around} {E : Value → Shared → Prop} {s : Shared} {env : Env} {test : Expr} {x y : Str} {k1 k2 : Nat} {p1 p2 pos : Pos} {Q : Value → Shared → Prop}
    (h : wpAny M A (isTrue test env (eval test env)) (fun c s₂ => Q (.str (if c = true then x else y) s₂.toks) { s₂ with toks := s₂.toks + 1 }) E s) :
    wpAny M A (eval (.IfExp test (.Constant (.str x) k1 p1) (.Constant (.str y) k2 p2) pos) env) Q E s := by
  show wpAny M A (do if ← isTrue test env (eval test env) then eval (.Constant (.str x) k1 p1) env else eval (.Constant (.str y) k2 p2) env) Q E s
  refine wpAny_bind (wpAny_mono h (fun c s₂ h₂ => ?_) fun _ _ e => e)
  cases c with
  | true => exact Calls.Constant_str (k := k1) (pos := p1) h₂
  | false => exact Calls.Constant_str (k := k2) (pos := p2) h₂
abbrev rowObj (r : Int × Int × Str × Str) (t1 t2 t3 t4 : Tok) : Obj := { cls := .type "tuple", data := .seq #[.int r.1 t1, .int r.2.1 t2, .str r.2.2.1 t3, .str r.2.2.2 t4] }
theorem tuple4 {M : Model} {A : Around} {E : Value → Shared → Prop} {s : Shared} {env : Env} {h₀ : Heap} {L : Addr} {m : Str → Option Value} {news : List (Addr × Obj)} {i j : Int} {x y : Str} {k k1 k2 k3 k4 : Nat} {p1 p2 p3 p4 pos : Pos} {Q : Value → Shared → Prop}
    (F : Fr h₀ L s.heap m) (N : News h₀ L s.heap news)
    (h : ∀ D h' tk t1 t2 t3 t4, Fr h₀ L h' m → News h₀ L h' ((D, rowObj (i, j, x, y) t1 t2 t3 t4) :: news) → (∀ p ∈ news, p.1 < D) → Q (.ref D) { s with heap := h', toks := tk }) :
    wpAny M A (eval (.Tuple [.Constant (.int i) k1 p1, .Constant (.int j) k2 p2, .Constant (.str x) k3 p3, .Constant (.str y) k4 p4] k pos) env) Q E s := by
  refine Tuple_ ?_
  refine args_cons (wpAny_Constant_int ?_)
  refine args_cons (wpAny_Constant_int ?_)
  refine args_cons (Calls.Constant_str ?_)
  refine args_cons (Calls.Constant_str ?_)
  refine args_nil ?_
  refine newTuple_N F N (fun h' F' N' => ?_) (by rw [sizeLine_eq]; simp)
  exact h _ h' _ _ _ _ _ F' N' fun p hp => Heap.lt_size (N p hp).1
local macro_rules
  | `(tactic| walk_at "pyIter ref") => `(tactic| k_extra "my pyIter")
  | `(tactic| walk_at "exec For Tuple Tuple cons nil") => `(tactic| (refine wpAny_For ?_ (fun _ => rfl)))
  | `(tactic| walk_at "eval Tuple") => `(tactic| k_extra "m7")
  | `(tactic| walk_at "eval IfExp") => `(tactic| (refine ifexp_strs ?_))
/-- a figure's three signs -/
noncomputable def trip (n : Int) (r : Int × Int × Str × Str) : List Str :=
  [if (Int.fdiv (Int.fmod (Int.fdiv n r.1) 8) 4 == 1) = true then Str.ofString "r" else Str.ofString "-",
   if (Int.fmod (Int.fdiv (Int.fmod (Int.fdiv n r.1) 8) 2) 2 == 1) = true then Str.ofString "w" else Str.ofString "-",
   if (Int.fmod (Int.fdiv n r.2.1) 2 == 1) = true then (if (Int.fmod (Int.fmod (Int.fdiv n r.1) 8) 2 == 1) = true then r.2.2.1 else r.2.2.2)
   else (if (Int.fmod (Int.fmod (Int.fdiv n r.1) 8) 2 == 1) = true then Str.ofString "x" else Str.ofString "-")]
noncomputable def rows3 : List (Int × Int × Str × Str) := [(64, 2048, Str.ofString "s", Str.ofString "S"), (8, 1024, Str.ofString "s", Str.ofString "S"), (1, 512, Str.ofString "t", Str.ofString "T")]
noncomputable def signsTo (n : Int) (i : Nat) : Str := (rows3.take i).foldl (fun acc r => (trip n r).foldl (· ++ ·) acc) (Str.ofString "d")
noncomputable def SgJ (n : Int) (t : Tok) (all : List (Addr × Obj)) (i : Nat) (m : Str → Option Value) (nx : List (Addr × Obj)) : Prop :=
  nx = all ∧ m (Str.ofString "number") = some (.int n t) ∧ ∃ u, m (Str.ofString "told") = some (.str (signsTo n i) u)
theorem signs_more {n : Int} {i : Nat} {r : Int × Int × Str × Str} (h : rows3[i]? = some r) : signsTo n (i + 1) = (trip n r).foldl (· ++ ·) (signsTo n i) := by
  unfold signsTo
  rw [List.take_add_one, h]
  simp
theorem trip_len (n : Int) {r : Int × Int × Str × Str} (h : r ∈ rows3) : ∀ x ∈ trip n r, x.length = 1 := by
  have h1 : r.2.2.1.length = 1 ∧ r.2.2.2.length = 1 := by
    revert r
    decide
  intro x hx
  simp only [trip, List.mem_cons, List.not_mem_nil, or_false] at hx
  rcases hx with rfl | rfl | rfl
  · split <;> decide
  · split <;> decide
  · split <;> split <;> first | exact h1.1 | exact h1.2 | decide
theorem foldl_len : ∀ (l : List Str) (a : Str), (∀ x ∈ l, x.length = 1) → (l.foldl (· ++ ·) a).length = a.length + l.length
  | [], _, _ => rfl
  | x :: r, a, h => by
    rw [List.foldl_cons, foldl_len r _ fun y hy => h y (.tail _ hy), Str.length_append, h x (.head _), List.length_cons]; omega
theorem signs_len (n : Int) : ∀ i, (signsTo n i).length ≤ 1 + 3 * i
  | 0 => (by decide : (Str.ofString "d").length ≤ 1)
  | i + 1 => by
    have ih := signs_len n i
    cases h : rows3[i]? with
    | none =>
      have e : rows3.take (i + 1) = rows3.take i := by rw [List.take_add_one, h]; simp
      have : signsTo n (i + 1) = signsTo n i := by unfold signsTo; rw [e]
      rw [this]; omega
    | some r =>
      rw [signs_more h, foldl_len _ _ (trip_len n (List.mem_of_getElem? h))]
      have : (trip n r).length = 3 := rfl
      omega
section
variable {h₀ : Heap} {L : Addr}
theorem sg_end {n : Int} {t u : Tok} {r : Int × Int × Str × Str} {i : Nat} {x : Str} {q : Addr × Obj} {all own rest : List (Addr × Obj)} {s₁ : Shared} {h' : Heap} {tk : Nat} {m' : Str → Option Value}
    (F : Fr h₀ L h' m') (N : News h₀ L h' rest) (he : rest = all ++ own) (hq : q ∈ all) (hr : rows3[i]? = some r) (h1 : m' (Str.ofString "number") = some (.int n t)) (h2 : m' (Str.ofString "told") = some (.str x u))
    (hx : x = (trip n r).foldl (· ++ ·) (signsTo n i)) :
    InvEndN h₀ L (fun m' nx' => q ∈ nx' ∧ SgJ n t all (i + 1) m' nx') own (all.map (·.1)) s₁ { s₁ with heap := h', toks := tk } := by
  subst he hx
  exact InvEndN.intro F N ⟨hq, rfl, h1, u, by rw [signs_more hr]; exact h2⟩ rfl (fun p hp => List.mem_append_left _ hp) (fun p hp => List.mem_append_right _ hp)
end
theorem len1 {a x y : Str} {c : Prop} [Decidable c] {n : Nat} (ha : a.length ≤ n) (hx : x.length = 1) (hy : y.length = 1) : (a ++ if c then x else y).length ≤ n + 1 := by
  rw [Str.length_append]; split <;> omega
theorem len1' {a x : Str} {n : Nat} (ha : a.length ≤ n) (hx : x.length = 1) : (a ++ x).length ≤ n + 1 := by
  rw [Str.length_append]; omega
theorem fit1 {a b : Str} {n m : Nat} (h : (a ++ b).length ≤ n) (hn : n ≤ 100) : a.length + b.length ≤ sizeLine := by
  rw [sizeLine_eq]; rw [Str.length_append] at h; omega
theorem rows3_pl : ∀ r ∈ rows3, r.1 = 64 ∨ r.1 = 8 ∨ r.1 = 1 := by decide
theorem rows3_ab : ∀ r ∈ rows3, r.2.1 = 2048 ∨ r.2.1 = 1024 ∨ r.2.1 = 512 := by decide
theorem rows3_sg : ∀ r ∈ rows3, r.2.2.1.length = 1 ∧ r.2.2.2.length = 1 := by decide
local macro_rules
  | `(tactic| walk_at "inplaceOp Add str str") => `(tactic| (refine iadd_str (hsz := ?hsz) ?_; (case hsz => k_extra "fit"); intro _ _))
  | `(tactic| walk_at "InvEndN") => `(tactic| k_dflt (k_extra "my end"))
set_option maxRecDepth 100000 in
set_option maxHeartbeats 8000000 in
theorem signs_spec (w : World) (mean : ExcName → Option Value) (mg mb : Str → Option Value) (n : Int) (t : Tok) (hn1 : 16384 ≤ n) (hn2 : n < 20480) :
    Claim w mean mg mb 223 1 8 0 [] [.int n t] (fun v => ∃ t', v = .str (signsTo n 3) t') := by
  unfold Claim
  intro dp un gd cn cs a ccd cl outer A₀ base h₀ L m news s Q E B F X N T hk hn hdp hun htk hret
  w_top off
  k_with_none
  k_with "m1" => ((k_here; refine execs_cons_t (by first | exact Nat.succ_pos _ | assumption | (dsimp only; omega)) ?_; (try k_fold)))
  k_with "m2" => (first | (refine tnext_next ?_; intro tk9 htk9) | refine tnext_ret ?_ | refine tnext_brk ?_ | refine tnext_cont ?_)
  k_with "m7" => ((refine tuple4 (by assumption) (by assumption) ?_; intro D' h' tk' t1' t2' t3' t4' F' N' l1'))
  have kf : PySem.Challenge.rw_il0079_01 = PySem.Challenge.rw_il0079_01 ∧ hd.heap_1 w.params = hd.heap_1 w.params := by (k_fill; exact ⟨rfl, rfl⟩)
  clear kf
  refine wpAny_call ?_
  k_dflt cell_enter
  iterate 16 ((try (k_unfold; (try dsimp only))); walk1)
  rename Fr _ _ _ _ => F1
  rename News _ _ _ _ => N1
  refine wpAny_mono (tupTurns_inv (SgJ n t _) rfl F1 N1 (.head _) rfl rfl ⟨rfl, rfl, _, rfl⟩ ?_ ?_) (fun it s₂ h => turns_for (by passes_own) h) (fun _ _ e => e)
  · intro i v m₁ nx h tk its hv hJ ha hmem hoff F2 N2
    obtain ⟨rfl, e1, u, e2⟩ := hJ
    have hrow : ∃ D r t1 t2 t3 t4, v = .ref D ∧ rows3[i]? = some r ∧ IsTup h D #[.int r.1 t1, .int r.2.1 t2, .str r.2.2.1 t3, .str r.2.2.2 t4] := by
      match i, hv with
      | 0, hv => cases hv; exact ⟨_, _, _, _, _, _, rfl, rfl, ⟨_, (N2 _ (List.mem_append_left _ (.tail _ (.tail _ (.tail _ (.head _)))))).1, rfl, 0, rfl⟩⟩
      | 1, hv => cases hv; exact ⟨_, _, _, _, _, _, rfl, rfl, ⟨_, (N2 _ (List.mem_append_left _ (.tail _ (.tail _ (.head _))))).1, rfl, 0, rfl⟩⟩
      | 2, hv => cases hv; exact ⟨_, _, _, _, _, _, rfl, rfl, ⟨_, (N2 _ (List.mem_append_left _ (.tail _ (.head _)))).1, rfl, 0, rfl⟩⟩
      | i + 3, hv => simp at hv
    obtain ⟨D, r, t1, t2, t3, t4, rfl, hr, hT⟩ := hrow
    have hrm := List.mem_of_getElem? hr
    have hpl := rows3_pl r hrm
    have hab := rows3_ab r hrm
    have hsg1 := (rows3_sg r hrm).1
    have hsg2 := (rows3_sg r hrm).2
    have hl := signs_len n i
    have hi3 : i < 3 := (List.getElem?_eq_some_iff.mp hr).1
    have F3 := fr_know (x := Str.ofString "number") F2 e1
    have F4 := fr_know (x := Str.ofString "told") F3 (by rw [if_neg (by decide)]; exact e2)
    clear F2 F3
    refine unpackN_ F4 N2 hT rfl rfl rfl ?_
    intro h' F' N'
    k_with "fit" => (refine fit1 (n := 1 + 3 * i + 1 + 1 + 1) (m := 0) ?_ (by omega); (repeat' (first | with_reducible refine len1 ?_ ?_ ?_ | with_reducible refine len1' ?_ ?_)); all_goals first | exact Nat.le_trans hl (by omega) | assumption | decide)
    k_with "my end" => (refine sg_end (by assumption) (by assumption) rfl hmem hr rfl rfl ?_; simp only [trip, List.foldl_cons, List.foldl_nil]; first | rw [if_pos (c := (Int.fmod (Int.fdiv n r.2.1) 2 == 1) = true) (beq_iff_eq.mpr (by assumption)), if_pos (c := (Int.fmod (Int.fmod (Int.fdiv n r.1) 8) 2 == 1) = true) (beq_iff_eq.mpr (by assumption))] | rw [if_pos (c := (Int.fmod (Int.fdiv n r.2.1) 2 == 1) = true) (beq_iff_eq.mpr (by assumption)), if_neg (c := (Int.fmod (Int.fmod (Int.fdiv n r.1) 8) 2 == 1) = true) (fun q => by have := beq_iff_eq.mp q; contradiction)] | rw [if_neg (c := (Int.fmod (Int.fdiv n r.2.1) 2 == 1) = true) (fun q => by have := beq_iff_eq.mp q; contradiction)])
    k_steps
  · intro m₁ nx h tk hJ ha hmem F2 N2
    obtain ⟨rfl, e1, u, e2⟩ := hJ
    have F3 := fr_know (x := Str.ofString "told") F2 e2
    clear F2
    k_steps
    exact hret _ _ _ ⟨_, rfl⟩ (by k_asm) (News.tail' (News.tail' (News.tail' (News.tail' (by assumption)))))
end
section
local macro_rules | `(tactic| walk_at "call ref") => `(tactic| k_extra "m8")
noncomputable def headS (x : Str) : Str := Txt.slice x none (some (Txt.rfind x (Str.ofString "/") + 1))
noncomputable def dirS (x : Str) : Str := if ((headS x).length : Int) ≠ 0 ∧ (headS x != Txt.mul (Str.ofString "/") (headS x).length) = true then Txt.rstripChars (headS x) (Str.ofString "/") else headS x
set_option maxRecDepth 100000 in
set_option maxHeartbeats 8000000 in
theorem dirname_spec (w : World) (mean : ExcName → Option Value) (mg mb : Str → Option Value) (x : Str) (t : Tok) (hx : x.length ≤ 200) :
    Claim w mean mg mb 150 2 16 0 [] [.str x t] (fun v => ∃ t', v = .str (dirS x) t') := by
  unfold Claim
  intro dp un gd cn cs a ccd cl outer A₀ base h₀ L m news s Q E B F X N T hk hn hdp hun htk hret
  w_top off
  k_with_none
  k_with "m1" => ((k_here; refine execs_cons_t (by first | exact Nat.succ_pos _ | assumption | (dsimp only; omega)) ?_))
  k_with "m2" => (first | (refine tnext_next ?_; intro tk9 htk9) | refine tnext_ret ?_ | refine tnext_brk ?_ | refine tnext_cont ?_)
  k_with "m8" => ((k_here; k_dflt (first | refine' claim_use (fspath_spec _ _ _ _ _ _) ?k1 ?k2 ?k3 ?k4 ?k5 ?kK ?kn ?kd ?ku ?kt ?_ | refine' claim_use (sep_spec _ _ _ _ _ _) ?k1 ?k2 ?k3 ?k4 ?k5 ?kK ?kn ?kd ?ku ?kt ?_); (case k1 => k_asm); (case k2 => k_asm); (case k3 => k_asm); (case k4 => k_asm); (case k5 => k_asm); (case kK => first | exact rfl | assumption); (case kn => first | exact fun _ h9 => nomatch h9 | assumption); (case kd => ktr_room); (case ku => ktr_units); (case kt => first | exact Nat.zero_le _ | (dsimp only; omega)); intro r9 h9 tk9 R9 F9 N9; (first | (obtain ⟨t9, e9⟩ := R9; subst e9) | subst R9 | skip); (try dsimp only); (try k_fold)))
  have kf : PySem.Challenge.rw_il0079_01 = PySem.Challenge.rw_il0079_01 ∧ hd.heap_1 w.params = hd.heap_1 w.params := by (k_fill; exact ⟨rfl, rfl⟩)
  clear kf
  refine wpAny_call ?_
  k_dflt cell_enter
  k_steps
  · exact hret _ _ _ ⟨_, congrArg (Value.str · _) (if_pos ⟨by assumption, by assumption⟩).symm⟩ (by k_asm) (by k_asm)
  · refine hret _ _ _ ⟨_, congrArg (Value.str · _) (if_neg ?_).symm⟩ (by k_asm) (by k_asm)
    intro q
    rename (_ != _) = false => q9
    exact Bool.false_ne_true (q9.symm.trans q.2)
  · exact hret _ _ _ ⟨_, congrArg (Value.str · _) (if_neg fun q => q.1 (by assumption)).symm⟩ (by k_asm) (by k_asm)
end
section
noncomputable def okV (d z : Nat) : Bool := (fmS (numV d z) == signsTo (numV d z) 3) && (Txt.item (fmS (numV d z)) 2 == Str.ofString "w") == (z == 0) && (Txt.item (fmS (numV d z)) 5 == Str.ofString "w") == (z == 1) && PyData.strOk (fmS (numV d z)) && (fmS (numV d z)).cps.all (· != 34)
theorem okV_all : ∀ d : Nat, d < 96 → ∀ z : Nat, z < 3 → okV d z = true := by decide +kernel
theorem fm_facts {ds : List Int} (h : ∀ k, 0 ≤ ds.getD k 0 ∧ ds.getD k 0 < 96) (k : Nat) :
    fmS (numS ds k) = signsTo (numS ds k) 3 ∧ (Txt.item (fmS (numS ds k)) 2 == Str.ofString "w") = decide (whsS ds k = 0) ∧ (Txt.item (fmS (numS ds k)) 5 == Str.ofString "w") = decide (whsS ds k = 1) ∧ PyData.strOk (fmS (numS ds k)) = true ∧ ∀ a ∈ (fmS (numS ds k)).cps.toList, a ≠ 34 := by
  obtain ⟨d, z, hd, hz, hw, hn⟩ := num_ok h k
  have ho := okV_all d hd z hz
  unfold okV at ho
  rw [hn, hw]
  simp only [Bool.and_eq_true, beq_iff_eq] at ho
  obtain ⟨⟨⟨⟨a1, a2⟩, a3⟩, a4⟩, a5⟩ := ho
  refine ⟨a1, ?_, ?_, a4, fun a ha => ?_⟩
  · rw [a2]
    by_cases hz0 : z = 0
    · subst hz0; rfl
    · rw [beq_false_of_ne hz0]; exact (decide_eq_false (by omega)).symm
  · rw [a3]
    by_cases hz0 : z = 1
    · subst hz0; rfl
    · rw [beq_false_of_ne hz0]; exact (decide_eq_false (by omega)).symm
  · have := Array.all_eq_true_iff_forall_mem.mp a5 a (by simpa using ha)
    simpa using this
end
section
theorem nam_ends_all : ∀ z : Nat, z < 4 → ∀ i : Nat, i < 6 → Txt.endswith (⟨#[([38, 60, 62, 34] : List Nat).getD z 38, 48 + i]⟩ : Str) (Str.ofString "/") = false := by decide +kernel
theorem nam_ends (ds : List Int) (i : Nat) (hi : i < 6) : Txt.endswith (namS ds i) (Str.ofString "/") = false := by
  have hs := sgn_bd ds i
  unfold namS
  generalize sgnS ds i = z at hs
  obtain ⟨z, rfl⟩ := Int.eq_ofNat_of_zero_le hs.1
  exact nam_ends_all z (by omega) i hi
theorem slash1 : (Str.ofString "/").length = 1 := by decide
theorem getD_app {α : Type} (l : List α) (a d : α) (p : Nat) : (l ++ [a]).getD p d = if p < l.length then l.getD p d else if p = l.length then a else d := by
  rw [List.getD_eq_getElem?_getD, List.getD_eq_getElem?_getD]
  split
  · rename_i h
    rw [List.getElem?_append_left h]
  · rename_i h
    split
    · rename_i h2
      subst h2
      simp
    · rw [List.getElem?_eq_none (by simp; omega)]; rfl
theorem ends_slash : Txt.endswith (Str.ofString "/") (Str.ofString "/") = true := by decide
theorem wy_0 (ds : List Int) (d : Str) : ∀ i, (wyL ds i).getD 0 d = Str.ofString "/"
  | 0 => rfl
  | i + 1 => by rw [wyL, getD_app, if_pos (by rw [wy_len]; omega), wy_0 ds d i]
theorem pl_0 (ds : List Int) (d : Str) : ∀ i, (plL ds i).getD 0 d = Str.ofString ""
  | 0 => rfl
  | i + 1 => by rw [plL, getD_app, if_pos (by rw [pl_len]; omega), pl_0 ds d i]
theorem wy_pl (ds : List Int) : ∀ i, i ≤ 6 → ∀ p, 1 ≤ p → p ≤ i → (wyL ds i).getD p (Str.ofString "/") = (plL ds i).getD p (Str.ofString "") ∧ Txt.endswith ((plL ds i).getD p (Str.ofString "")) (Str.ofString "/") = false
  | 0, _, p, h1, h2 => by omega
  | i + 1, hi, p, h1, h2 => by
    rw [wyL, plL, getD_app, getD_app, wy_len, pl_len]
    by_cases hp : p < i + 1
    · rw [if_pos hp, if_pos hp]
      exact wy_pl ds i (by omega) p h1 (by omega)
    · have : p = i + 1 := by omega
      subst this
      rw [if_neg (Nat.lt_irrefl _), if_pos rfl, if_neg (Nat.lt_irrefl _), if_pos rfl]
      have ha := abv_bd ds i
      have hne := nam_ends ds i (by omega)
      constructor
      · unfold joined
        by_cases h0 : (abvS ds i).toNat = 0
        · rw [h0, wy_0, pl_0, if_pos ends_slash]
          rw [show Str.ofString "" ++ Str.ofString "/" = Str.ofString "/" from by decide]
        · obtain ⟨e1, e2⟩ := wy_pl ds i (by omega) (abvS ds i).toNat (by omega) (by omega)
          rw [e1, if_neg (by rw [e2]; decide), Str.append_assoc]
      · rw [KAf.ends_right (by rw [slash1, nam_len]; omega)]
        exact hne
theorem join_cps : ∀ l : List Str, (Txt.join (Str.ofString "") l).cps.toList = l.flatMap (·.cps.toList) := by
  intro l
  show (Builtin.Str.glued (Str.ofString "") l).cps.toList = _
  rw [StrLaws.glued_eq_join]
  induction l with
  | nil => rfl
  | cons x r ih =>
    cases r with
    | nil => simp [Str.join]
    | cons y r =>
      show (x ++ Str.ofString "" ++ Str.join (Str.ofString "") (y :: r)).cps.toList = _
      rw [Str.cps_append, Str.cps_append, Array.toList_append, Array.toList_append, ih]
      rw [show (Str.ofString "").cps.toList = [] from rfl, List.append_nil]
      rfl
theorem join_len (l : List Str) : (Txt.join (Str.ofString "") l).length = (l.map (·.length)).sum := by
  show (Txt.join (Str.ofString "") l).cps.size = _
  rw [← Array.length_toList, join_cps]
  induction l with
  | nil => rfl
  | cons x r ih =>
    rw [List.flatMap_cons, List.length_append, ih, List.map_cons, List.sum_cons, Array.length_toList]
    rfl
end
section
noncomputable def jn (c : Nat) : List (List Nat) → List Nat
  | [] => []
  | [x] => x
  | x :: y :: r => x ++ c :: jn c (y :: r)
theorem cut_inj {c : Nat} : ∀ {x y A B : List Nat}, c ∉ x → c ∉ y → x ++ c :: A = y ++ c :: B → x = y ∧ A = B
  | [], [], A, B, _, _, h => by simp at h; exact ⟨rfl, h⟩
  | [], b :: y, A, B, _, hy, h => by
    simp at h
    exact absurd h.1 (fun e => hy (e ▸ .head _))
  | a :: x, [], A, B, hx, _, h => by
    simp at h
    exact absurd h.1 (fun e => hx (e ▸ .head _))
  | a :: x, b :: y, A, B, hx, hy, h => by
    simp only [List.cons_append, List.cons.injEq] at h
    obtain ⟨e1, e2⟩ := cut_inj (fun m => hx (.tail _ m)) (fun m => hy (.tail _ m)) h.2
    exact ⟨by rw [h.1, e1], e2⟩
theorem jn_inj {c : Nat} : ∀ {p q : List (List Nat)}, p ≠ [] → q ≠ [] → (∀ x ∈ p, c ∉ x) → (∀ x ∈ q, c ∉ x) → jn c p = jn c q → p = q
  | [], _, h, _, _, _, _ => absurd rfl h
  | _ :: _, [], _, h, _, _, _ => absurd rfl h
  | [x], [y], _, _, _, _, h => by rw [show x = y from h]
  | [x], y :: z :: r, _, _, hp, _, h => absurd (show c ∈ x by rw [show x = y ++ c :: jn c (z :: r) from h]; simp) (hp x (.head _))
  | x :: z :: r, [y], _, _, _, hq, h => absurd (show c ∈ y by rw [← show x ++ c :: jn c (z :: r) = y from h]; simp) (hq y (.head _))
  | x :: x2 :: r, y :: y2 :: s, _, _, hp, hq, h => by
    obtain ⟨e1, e2⟩ := cut_inj (hp x (.head _)) (hq y (.head _)) h
    have := jn_inj (p := x2 :: r) (q := y2 :: s) (by simp) (by simp) (fun a ha => hp a (.tail _ ha)) (fun a ha => hq a (.tail _ ha)) e2
    rw [e1, this]
theorem jn_join (c : Nat) : ∀ l : List Str, (Str.join ⟨#[c]⟩ l).cps.toList = jn c (l.map (·.cps.toList))
  | [] => rfl
  | [x] => rfl
  | x :: y :: r => by
    have ih := jn_join c (y :: r)
    show (x ++ ⟨#[c]⟩ ++ Str.join ⟨#[c]⟩ (y :: r)).cps.toList = x.cps.toList ++ c :: jn c ((y :: r).map (·.cps.toList))
    rw [Str.cps_append, Str.cps_append, Array.toList_append, Array.toList_append, ih]
    simp
theorem split_ne (x y : Str) : Txt.split x y ≠ [] := by
  unfold Txt.split
  split
  · simp
  · split
    · simp
    · rw [StrLaws.partsBetween_eq]
      cases Builtin.Str.occurrences x y 0 x.length (x.length + 1) with
      | nil => simp [StrLaws.partsFrom]
      | cons a r => simp [StrLaws.partsFrom]
theorem split_is {c : Nat} {x : Str} {l : List Str} (hl : l ≠ []) (hf : ∀ p ∈ l, c ∉ p.cps.toList) (hj : jn c (l.map (·.cps.toList)) = x.cps.toList) : Txt.split x ⟨#[c]⟩ = l := by
  have h1 : jn c ((Txt.split x ⟨#[c]⟩).map (·.cps.toList)) = x.cps.toList := by rw [← jn_join, StrLaws.join_split]
  have h2 := jn_inj (c := c) (by simpa using split_ne x ⟨#[c]⟩) (by simpa using hl) (fun p hp => by
    obtain ⟨q, hq, rfl⟩ := List.mem_map.mp hp
    exact StrLaws.split_free x c q hq) (fun p hp => by
    obtain ⟨q, hq, rfl⟩ := List.mem_map.mp hp
    exact hf q hq) (h1.trans hj.symm)
  have inj : ∀ a b : Str, a.cps.toList = b.cps.toList → a = b := fun a b e => Str.ext' (Array.ext' e)
  exact (List.map_inj_right inj).mp h2
end
section
theorem jn_last (c : Nat) (x z : List Nat) : ∀ A : List (List Nat), jn c (A ++ [x ++ z]) = jn c (A ++ [x]) ++ z
  | [] => rfl
  | [a] => by simp [jn]
  | a :: b :: r => by
    have ih := jn_last c x z (b :: r)
    show a ++ c :: jn c ((b :: r) ++ [x ++ z]) = (a ++ c :: jn c ((b :: r) ++ [x])) ++ z
    rw [ih]; simp
theorem jn_app (c : Nat) (x y : List Nat) : ∀ A : List (List Nat), jn c (A ++ [x, y]) = jn c (A ++ [x]) ++ c :: y
  | [] => rfl
  | [a] => by simp [jn]
  | a :: b :: r => by
    have ih := jn_app c x y (b :: r)
    show a ++ c :: jn c ((b :: r) ++ [x, y]) = (a ++ c :: jn c ((b :: r) ++ [x])) ++ c :: y
    rw [ih]; simp
noncomputable def lastS (k : Nat) : Str := if k = 0 then Str.ofString "" else Str.ofString "/>"
noncomputable def wS (ds : List Int) (wh : Int) (n k : Nat) : Str := spellS wh ((wyL ds n).getD (k + 1) (Str.ofString "/"))
noncomputable def blk (ds : List Int) (wh : Int) (n k : Nat) : List Str := [lastS k ++ Str.ofString "<d m=", fmS (numS ds k), Str.ofString " p=", wS ds wh n k]
noncomputable def initL (ds : List Int) (wh : Int) (n : Nat) : Nat → List Str
  | 0 => []
  | i + 1 => initL ds wh n i ++ blk ds wh n i
theorem init_len (ds : List Int) (wh : Int) (n : Nat) : ∀ i, (initL ds wh n i).length = 4 * i
  | 0 => rfl
  | i + 1 => by rw [initL, List.length_append, init_len ds wh n i]; rfl
theorem jn4 (c : Nat) (A : List (List Nat)) (x x1 x2 x3 x4 : List Nat) : jn c (A ++ [x, x1, x2, x3, x4]) = jn c (A ++ [x]) ++ c :: x1 ++ c :: x2 ++ c :: x3 ++ c :: x4 := by
  have e4 := jn_app c x3 x4 (A ++ [x, x1, x2])
  have e3 := jn_app c x2 x3 (A ++ [x, x1])
  have e2 := jn_app c x1 x2 (A ++ [x])
  have e1 := jn_app c x x1 A
  simp only [List.append_assoc, List.cons_append, List.nil_append] at e1 e2 e3 e4 ⊢
  rw [e4, e3, e2, e1]
  simp
theorem init_jn (ds : List Int) (wh : Int) (n : Nat) : ∀ i, jn 34 ((initL ds wh n i ++ [lastS i]).map (·.cps.toList)) = (pageL ds wh n i).flatMap (·.cps.toList)
  | 0 => rfl
  | i + 1 => by
    have ih := init_jn ds wh n i
    rw [List.map_append, List.map_cons, List.map_nil] at ih
    rw [initL, pageL_more, List.flatMap_append, ← ih]
    have e : (initL ds wh n i ++ blk ds wh n i ++ [lastS (i + 1)]).map (·.cps.toList) = (initL ds wh n i).map (·.cps.toList) ++ [(lastS i).cps.toList ++ (Str.ofString "<d m=").cps.toList, (fmS (numS ds i)).cps.toList, (Str.ofString " p=").cps.toList, (wS ds wh n i).cps.toList, (Str.ofString "/>").cps.toList] := by
      simp [blk, lastS, Str.cps_append]
    rw [e, jn4, jn_last]
    have e2 : [itemS ds wh n i].flatMap (·.cps.toList) = (Str.ofString "<d m=").cps.toList ++ 34 :: (fmS (numS ds i)).cps.toList ++ 34 :: (Str.ofString " p=").cps.toList ++ 34 :: (wS ds wh n i).cps.toList ++ 34 :: (Str.ofString "/>").cps.toList := by
      have a1 : (Str.ofString "<d m=\"").cps.toList = (Str.ofString "<d m=").cps.toList ++ [34] := rfl
      have a2 : (Str.ofString "\" p=\"").cps.toList = 34 :: ((Str.ofString " p=").cps.toList ++ [34]) := rfl
      have a3 : (Str.ofString "\"/>").cps.toList = 34 :: (Str.ofString "/>").cps.toList := rfl
      simp only [List.flatMap_cons, List.flatMap_nil, List.append_nil, itemS, Str.cps_append, Array.toList_append, a1, a2, a3, wS]
      simp
    rw [e2]
    simp
theorem init_get (ds : List Int) (wh : Int) (n : Nat) (d : Str) : ∀ i k, k < i → (initL ds wh n i).getD (4 * k + 1) d = fmS (numS ds k) ∧ (initL ds wh n i).getD (4 * k + 3) d = wS ds wh n k
  | 0, k, h => by omega
  | i + 1, k, h => by
    rw [initL]
    have hl := init_len ds wh n i
    simp only [List.getD_eq_getElem?_getD]
    by_cases hk : k < i
    · have ih := init_get ds wh n d i k hk
      simp only [List.getD_eq_getElem?_getD] at ih
      rw [List.getElem?_append_left (by omega), List.getElem?_append_left (by omega)]
      exact ih
    · have : k = i := by omega
      subst this
      rw [List.getElem?_append_right (by omega), List.getElem?_append_right (by omega), hl, show 4 * k + 1 - 4 * k = 1 by omega, show 4 * k + 3 - 4 * k = 3 by omega]
      exact ⟨rfl, rfl⟩
end
section
theorem pl_stay (ds : List Int) (d : Str) (i p : Nat) (hp : p ≤ i) : (plL ds (i + 1)).getD p d = (plL ds i).getD p d := by
  rw [plL, getD_app, if_pos (by rw [pl_len]; omega)]
theorem pl_get (ds : List Int) : ∀ i k, k < i → (plL ds i).getD (k + 1) (Str.ofString "") = (plL ds i).getD (abvS ds k).toNat (Str.ofString "") ++ Str.ofString "/" ++ namS ds k
  | 0, k, h => by omega
  | i + 1, k, h => by
    have ha := abv_bd ds k
    by_cases hk : k < i
    · rw [pl_stay ds _ i (k + 1) (by omega), pl_stay ds _ i (abvS ds k).toNat (by omega)]
      exact pl_get ds i k hk
    · have : k = i := by omega
      subst this
      rw [pl_stay ds _ k (abvS ds k).toNat (by omega), plL, getD_app, pl_len, if_neg (Nat.lt_irrefl _), if_pos rfl]
end
section
theorem at_slash {x : Str} {i : Nat} : StrLaws.At x (Str.ofString "/") x.length i ↔ x.cps.toList[i]? = some 47 := by
  unfold StrLaws.At
  rw [StrLaws.subAt_eq]
  have e : (Str.ofString "/").length = 1 := by decide
  have e2 : (Str.ofString "/").cps.toList = [47] := rfl
  rw [e, e2]
  have hl : x.length = x.cps.toList.length := by rw [Array.length_toList]; rfl
  rw [hl]
  generalize x.cps.toList = l
  constructor
  · rintro ⟨h1, h2⟩
    have h2' : (l.drop i).take 1 = [47] := by simpa using h2
    have e3 : (l.drop i).take 1 = [l[i]] := by rw [List.drop_eq_getElem_cons (show i < l.length by omega)]; rfl
    rw [e3] at h2'
    rw [List.getElem?_eq_getElem (show i < l.length by omega), List.head_eq_of_cons_eq h2']
  · intro h
    have hi : i < l.length := (List.getElem?_eq_some_iff.mp h).1
    refine ⟨by omega, ?_⟩
    rw [List.drop_eq_getElem_cons hi]
    have := (List.getElem?_eq_some_iff.mp h).2
    simp [this]
theorem rfind_slash {a b : Str} (hb : 47 ∉ b.cps.toList) : Txt.rfind (a ++ Str.ofString "/" ++ b) (Str.ofString "/") = (a.length : Int) := by
  have e2 : (Str.ofString "/").cps.toList = [47] := rfl
  have hc : (a ++ Str.ofString "/" ++ b).cps.toList = a.cps.toList ++ 47 :: b.cps.toList := by
    rw [Str.cps_append, Str.cps_append, Array.toList_append, Array.toList_append, e2]; simp
  have hal : a.cps.toList.length = a.length := Array.length_toList
  have hA : StrLaws.At (a ++ Str.ofString "/" ++ b) (Str.ofString "/") (a ++ Str.ofString "/" ++ b).length a.length := by
    rw [at_slash, hc, ← hal]; simp
  unfold Txt.rfind
  rcases StrLaws.last_spec (a ++ Str.ofString "/" ++ b) (Str.ofString "/") with ⟨_, h⟩ | ⟨i, h1, h2, h3⟩
  · exact absurd hA (h _)
  · rw [h1]
    have : i = a.length := by
      rcases Nat.lt_trichotomy i a.length with h | h | h
      · exact absurd hA (h3 _ h)
      · exact h
      · exfalso
        rw [at_slash, hc, List.getElem?_append_right (by omega)] at h2
        obtain ⟨k, hk⟩ : ∃ k, i - a.cps.toList.length = k + 1 := ⟨i - a.cps.toList.length - 1, by omega⟩
        rw [hk, List.getElem?_cons_succ] at h2
        exact hb (List.mem_of_getElem? h2)
    rw [this]
end
section
theorem rstrip_slash {a : Str} {l : List Nat} {c : Nat} (ha : a.cps.toList = l ++ [c]) (hc : c ≠ 47) : Txt.rstripChars (a ++ Str.ofString "/") (Str.ofString "/") = a := by
  have e2 : (Str.ofString "/").cps.toList = [47] := rfl
  have hx : (a ++ Str.ofString "/").cps.toList = l ++ [c] ++ [47] := by rw [Str.cps_append, Array.toList_append, e2, ha]
  have hl : (a ++ Str.ofString "/").length = l.length + 2 := by
    show (a ++ Str.ofString "/").cps.size = _
    rw [← Array.length_toList, hx]; simp
  have g1 : (Str.ofString "/").cps.contains 47 = true := by
    have : (Str.ofString "/").cps = #[47] := rfl
    rw [this]; simp
  have g2 : (Str.ofString "/").cps.contains c = false := by
    have : (Str.ofString "/").cps = #[47] := rfl
    rw [this]
    simp [hc]
  have hi : stripHi (Str.ofString "/").cps.contains true (a ++ Str.ofString "/") 0 = l.length + 1 := by
    unfold stripHi
    rw [if_pos rfl, hx, hl]
    simp only [List.reverse_append, List.reverse_cons, List.reverse_nil, List.nil_append, List.cons_append, List.drop_zero]
    rw [List.takeWhile_cons_of_pos g1, List.takeWhile_cons_of_neg (by rw [g2]; decide)]
    simp
  have lo : stripLo (Str.ofString "/").cps.contains false (a ++ Str.ofString "/") = 0 := rfl
  unfold Txt.rstripChars Txt.stripBy
  have hs : stripSame (Str.ofString "/").cps.contains false true (a ++ Str.ofString "/") = false := by
    unfold stripSame
    rw [lo, hi, hl]
    simp
  rw [hs]
  unfold PySem.stripped
  rw [lo, hi]
  apply Str.ext'
  apply Array.ext'
  rw [if_neg (by decide), StrLaws.strSub_toList, hx, ha]
  rw [List.drop_zero, Nat.sub_zero]
  exact List.take_left' (by simp)
end
section
open Builtin.Str in
theorem slice_to {a b : Str} : Txt.slice (a ++ b) none (some (a.length : Int)) = a := by
  have hl : (a ++ b).length = a.length + b.length := Str.length_append ..
  have hi : strSliceIndices none (some (a.length : Int)) 1 (a ++ b).length = (List.range (a.length - 0)).map (fun k => 0 + k) := by
    have e : strSliceIndices none (some (a.length : Int)) 1 (a ++ b).length = strSliceIndices (some ((0 : Nat) : Int)) (some (a.length : Int)) 1 (a ++ b).length := by
      unfold strSliceIndices
      have e1 : max (0 : Int) (min (((0 : Nat) : Int)) (((a ++ b).length : Nat) : Int)) = 0 := by omega
      have e2 : ¬ (((0 : Nat) : Int) < 0) := by omega
      simp only [show ((1 : Int) > 0) = True from by simp, if_true, e2, if_false, e1]
    rw [e, StrLaws.strSliceIndices_plain (Nat.zero_le _) (by omega)]
  unfold Txt.slice
  rw [hi]
  split
  · rename_i h
    have h' : a.length = (a ++ b).length := by simpa using h
    have hb : b.length = 0 := by omega
    have : b.cps = #[] := Array.eq_empty_of_size_eq_zero hb
    apply Str.ext'
    rw [Str.cps_append, this]; simp
  · apply Str.ext'
    apply Array.ext'
    have hal : a.cps.toList.length = a.length := Array.length_toList
    have hf : ∀ l : List Nat, l.filterMap (fun i => (a ++ b).cps[i]?) = l.filterMap (fun i => (a ++ b).cps.toList[i]?) := fun l => by simp
    show ((List.range (a.length - 0)).map (fun k => 0 + k)).filterMap (fun i => (a ++ b).cps[i]?) = a.cps.toList
    rw [hf, StrLaws.picks _ _ _ (by rw [Array.length_toList]; show 0 + (a.length - 0) ≤ (a ++ b).length; omega), Str.cps_append, Array.toList_append, List.drop_zero, Nat.sub_zero, ← hal]
    exact List.take_left' rfl
end
section
theorem head_of {a b : Str} (hb : 47 ∉ b.cps.toList) : headS (a ++ Str.ofString "/" ++ b) = a ++ Str.ofString "/" := by
  unfold headS
  rw [rfind_slash hb]
  have : (a.length : Int) + 1 = ((a ++ Str.ofString "/").length : Int) := by rw [Str.length_append, slash1]; omega
  rw [this, slice_to]
theorem dir_root {b : Str} (hb : 47 ∉ b.cps.toList) : dirS (Str.ofString "" ++ Str.ofString "/" ++ b) = Str.ofString "/" := by
  unfold dirS
  rw [head_of hb]
  have e : Str.ofString "" ++ Str.ofString "/" = Str.ofString "/" := by decide
  rw [e, if_neg (by rw [slash1]; decide +kernel)]
theorem dir_in {a b : Str} {l : List Nat} {c : Nat} (ha : a.cps.toList = l ++ [c]) (hc : c ≠ 47) (hb : 47 ∉ b.cps.toList) : dirS (a ++ Str.ofString "/" ++ b) = a := by
  unfold dirS
  rw [head_of hb]
  split
  · exact rstrip_slash ha hc
  · rename_i h
    exfalso
    apply h
    refine ⟨by rw [Str.length_append, slash1]; omega, ?_⟩
    rw [bne_iff_ne]
    intro e
    have e1 : (a ++ Str.ofString "/").cps.toList = List.replicate ((((a ++ Str.ofString "/").length : Nat) : Int)).toNat 47 := by
      rw [e]
      rw [show Str.ofString "/" = (⟨#[47]⟩ : Str) from rfl, mul_one_list]
      rw [← show Str.ofString "/" = (⟨#[47]⟩ : Str) from rfl, ← e]
    rw [Str.cps_append, Array.toList_append, ha] at e1
    have : c ∈ List.replicate ((((a ++ Str.ofString "/").length : Nat) : Int)).toNat 47 := by rw [← e1]; simp
    exact hc (List.eq_of_mem_replicate this)
end
section
theorem sgn_no47 (w : Int) {a : Nat} (h : a ≠ 47) : 47 ∉ sgn w a := by
  unfold sgn
  split
  · decide
  · split
    · decide
    · split
      · decide
      · split
        · decide
        · intro hm; exact h (List.mem_singleton.mp hm).symm
theorem spellS_list (w : Int) (x : Str) : (spellS w x).cps.toList = x.cps.toList.flatMap (sgn w) := by simp [spellS, spellL]
theorem nam_list (ds : List Int) (k : Nat) : (namS ds k).cps.toList = [([38, 60, 62, 34] : List Nat).getD (sgnS ds k).toNat 38, 48 + k] := rfl
theorem spell_nam_no47 (w : Int) (ds : List Int) (k : Nat) : 47 ∉ (spellS w (namS ds k)).cps.toList := by
  rw [spellS_list, nam_list]
  intro hm
  obtain ⟨a, ha, h⟩ := List.mem_flatMap.mp hm
  simp only [List.mem_cons, List.not_mem_nil, or_false] at ha
  rcases ha with rfl | rfl
  · refine sgn_no47 w ?_ h
    rcases getD_mem_or ([38, 60, 62, 34] : List Nat) (sgnS ds k).toNat 38 with h | h
    · simp only [List.mem_cons, List.not_mem_nil, or_false] at h; omega
    · omega
  · exact sgn_no47 w (by omega) h
theorem sgn_fig (w : Int) {k : Nat} (hk : k < 6) : sgn w (48 + k) = [48 + k] := by
  unfold sgn
  rw [if_neg (by omega), if_neg (by omega), if_neg (by omega), if_neg (by omega)]
theorem spell_nam_last (w : Int) (ds : List Int) {k : Nat} (hk : k < 6) : ∃ l, (spellS w (namS ds k)).cps.toList = l ++ [48 + k] := by
  rw [spellS_list, nam_list]
  exact ⟨_, by rw [List.flatMap_cons, List.flatMap_cons, List.flatMap_nil, sgn_fig w hk, List.append_nil]⟩
end
section
noncomputable def piecesS (ds : List Int) (wh : Int) : List Str := Txt.split (pageS ds wh) (Str.ofString "\"")
theorem sgn_no34 (w : Int) (a : Nat) : 34 ∉ sgn w a := by
  unfold sgn
  split
  · decide
  · split
    · decide
    · split
      · decide
      · split
        · decide
        · rename_i h _ _; intro hm; exact h (List.mem_singleton.mp hm).symm
theorem spell_no34 (w : Int) (x : Str) : 34 ∉ (spellS w x).cps.toList := by
  intro hb
  have hb' : 34 ∈ spellL w x.cps.toList := by simpa [spellS] using hb
  obtain ⟨a, _, hm⟩ := List.mem_flatMap.mp hb'
  exact sgn_no34 w a hm
theorem init_free {ds : List Int} {wh : Int} {n : Nat} (h : ∀ k, 0 ≤ ds.getD k 0 ∧ ds.getD k 0 < 96) : ∀ i, ∀ p ∈ initL ds wh n i, 34 ∉ p.cps.toList
  | 0, p, hp => absurd hp List.not_mem_nil
  | i + 1, p, hp => by
    rcases List.mem_append.mp hp with hp | hp
    · exact init_free h i p hp
    · simp only [blk, List.mem_cons, List.not_mem_nil, or_false] at hp
      rcases hp with rfl | rfl | rfl | rfl
      · unfold lastS; split <;> decide
      · exact fun hm => (fm_facts h i).2.2.2.2 34 hm rfl
      · decide
      · exact spell_no34 _ _
theorem pieces_are {ds : List Int} {wh : Int} (h : ∀ k, 0 ≤ ds.getD k 0 ∧ ds.getD k 0 < 96) : piecesS ds wh = initL ds wh ds.length ds.length ++ [lastS ds.length] := by
  unfold piecesS
  refine split_is (c := 34) (by simp) (fun p hp => ?_) ?_
  · rcases List.mem_append.mp hp with hp | hp
    · exact init_free h _ p hp
    · rw [List.mem_singleton.mp hp]; unfold lastS; split <;> decide
  · rw [init_jn]
    unfold pageS
    rw [join_cps]
theorem pieces_len {ds : List Int} {wh : Int} (h : ∀ k, 0 ≤ ds.getD k 0 ∧ ds.getD k 0 < 96) (_hn : ds.length ≤ 6) : (piecesS ds wh).length = 4 * ds.length + 1 := by
  rw [pieces_are h, List.length_append, init_len]; rfl
theorem pieces_m {ds : List Int} {wh : Int} (h : ∀ k, 0 ≤ ds.getD k 0 ∧ ds.getD k 0 < 96) (_hn : ds.length ≤ 6) {k : Nat} (hk : k < ds.length) : (piecesS ds wh).getD (4 * k + 1) (Str.ofString "") = fmS (numS ds k) := by
  rw [pieces_are h, getD_app, if_pos (by rw [init_len]; omega)]
  exact (init_get ds wh ds.length _ ds.length k hk).1
theorem pieces_p {ds : List Int} {wh : Int} (h : ∀ k, 0 ≤ ds.getD k 0 ∧ ds.getD k 0 < 96) (_hn : ds.length ≤ 6) {k : Nat} (hk : k < ds.length) : (piecesS ds wh).getD (4 * k + 3) (Str.ofString "") = spellS wh ((wyL ds ds.length).getD (k + 1) (Str.ofString "/")) := by
  rw [pieces_are h, getD_app, if_pos (by rw [init_len]; omega)]
  exact (init_get ds wh ds.length _ ds.length k hk).2
theorem page_len {ds : List Int} {wh : Int} (hn : ds.length ≤ 6) : (pageS ds wh).length ≤ 1200 := by
  unfold pageS
  rw [join_len]
  have h1 := sum_le (l := pageL ds wh ds.length ds.length) (b := 200) (fun x hx => by
    obtain ⟨k, _, rfl⟩ := List.mem_map.mp hx
    exact item_len ds wh ds.length k hn)
  have h2 : (pageL ds wh ds.length ds.length).length = ds.length := by simp [pageL]
  rw [h2] at h1
  omega
theorem sv_strs (l : List (Str × Tok)) : StrsAre (strValues l) (l.map (·.1)) := by
  induction l with
  | nil => exact .nil
  | cons p r ih => exact .cons p.1 p.2 ih
noncomputable def sgL (ds : List Int) (i : Nat) : List Str := (List.range i).map fun k => fmS (numS ds k)
noncomputable def wrL (ds : List Int) (wh : Int) (i : Nat) : List Str := (List.range i).map fun k => spellS wh ((wyL ds ds.length).getD (k + 1) (Str.ofString "/"))
theorem sgL_more (ds : List Int) (i : Nat) : sgL ds (i + 1) = sgL ds i ++ [fmS (numS ds i)] := by simp [sgL, List.range_succ]
theorem wrL_more (ds : List Int) (wh : Int) (i : Nat) : wrL ds wh (i + 1) = wrL ds wh i ++ [spellS wh ((wyL ds ds.length).getD (i + 1) (Str.ofString "/"))] := by simp [wrL, List.range_succ]
noncomputable def sg2L (ds : List Int) (i : Nat) : List Str := (List.range i).map fun k => signsTo (numS ds k) 3
theorem sg2L_more (ds : List Int) (i : Nat) : sg2L ds (i + 1) = sg2L ds i ++ [signsTo (numS ds i) 3] := by simp [sg2L, List.range_succ]
theorem sg_same {ds : List Int} (h : ∀ k, 0 ≤ ds.getD k 0 ∧ ds.getD k 0 < 96) (i : Nat) : sgL ds i = sg2L ds i := by
  unfold sgL sg2L
  exact List.map_congr_left fun k _ => (fm_facts h k).1
theorem sg_ok {ds : List Int} (h : ∀ k, 0 ≤ ds.getD k 0 ∧ ds.getD k 0 < 96) (i : Nat) : ∀ x ∈ sgL ds i, PyData.strOk x = true := by
  intro x hx
  obtain ⟨k, _, rfl⟩ := List.mem_map.mp hx
  exact (fm_facts h k).2.2.2.1
noncomputable def spL (ds : List Int) (wh : Int) (n i : Nat) : List Str := (List.range i).map fun k => spellS wh ((plL ds n).getD (k + 1) (Str.ofString ""))
theorem spL_more (ds : List Int) (wh : Int) (n i : Nat) : spL ds wh n (i + 1) = spL ds wh n i ++ [spellS wh ((plL ds n).getD (i + 1) (Str.ofString ""))] := by simp [spL, List.range_succ]
theorem wr_same {ds : List Int} {wh : Int} (hn : ds.length ≤ 6) : wrL ds wh ds.length = spL ds wh ds.length ds.length := by
  unfold wrL spL
  refine List.map_congr_left fun k hk => ?_
  have := List.mem_range.mp hk
  rw [(wy_pl ds ds.length hn (k + 1) (by omega) (by omega)).1]
theorem sgn_asc {w : Int} {a : Nat} (h : a < 128) : ∀ b ∈ sgn w a, b < 128 := by
  unfold sgn
  split
  · decide
  · split
    · decide
    · split
      · decide
      · split
        · decide
        · intro b hb; rw [List.mem_singleton.mp hb]; exact h
theorem spell_asc {w : Int} {x : Str} (h : Plain x) : Asc (spellS w x) := by
  intro b hb
  have hb' : b ∈ spellL w x.cps.toList := by simpa [spellS] using hb
  obtain ⟨a, ha, hm⟩ := List.mem_flatMap.mp hb'
  exact sgn_asc (by have := h a ha; omega) b hm
theorem wy_plain {ds : List Int} (hn : ds.length ≤ 6) (k : Nat) : Plain ((wyL ds ds.length).getD k (Str.ofString "/")) := by
  rcases getD_mem_or (wyL ds ds.length) k (Str.ofString "/") with h | h
  · exact plain_wy ds ds.length hn _ h
  · rw [h]; exact plain_slash
theorem wr_ok (ds : List Int) (wh : Int) (hn : ds.length ≤ 6) (i : Nat) : ∀ x ∈ wrL ds wh i, PyData.strOk x = true := by
  intro x hx
  obtain ⟨k, _, rfl⟩ := List.mem_map.mp hx
  exact asc_ok (spell_asc (wy_plain hn (k + 1)))
theorem wr_len {ds : List Int} {wh : Int} (hn : ds.length ≤ 6) (k : Nat) : (spellS wh ((wyL ds ds.length).getD (k + 1) (Str.ofString "/"))).length ≤ 120 := by
  have h2 : ((wyL ds ds.length).getD (k + 1) (Str.ofString "/")).length ≤ 19 := by
    rcases getD_mem_or (wyL ds ds.length) (k + 1) (Str.ofString "/") with h | h
    · have := wy_bd ds ds.length _ h; omega
    · rw [h]; decide
  exact Nat.le_trans spell_len (by omega)
noncomputable def wrS (ds : List Int) (wh : Int) (k : Nat) : Str := spellS wh ((wyL ds ds.length).getD (k + 1) (Str.ofString "/"))
theorem wrL_get {ds : List Int} {wh : Int} {k : Nat} (hk : k < ds.length) (d : Str) : (wrL ds wh ds.length).getD k d = wrS ds wh k := by
  rw [List.getD_eq_getElem?_getD]; simp [wrL, hk, wrS]
theorem abL_get {ds : List Int} {k : Nat} (hk : k < ds.length) : (abL ds ds.length).getD k 0 = abvS ds k := by
  rw [List.getD_eq_getElem?_getD]; simp [abL, hk]
noncomputable def GJ (NX : List (Addr × Obj)) (lG lA lW lP : Addr) (_i : Nat) (m : Str → Option Value) (nx : List (Addr × Obj)) : Prop :=
  nx = NX ∧ m (Str.ofString "signs") = some (.ref lG) ∧ m (Str.ofString "aboves") = some (.ref lA) ∧ m (Str.ofString "whose") = some (.ref lW) ∧ m (Str.ofString "plain") = some (.ref lP)
noncomputable def cutS (x : Str) : Int := if (Txt.item x 2 == Str.ofString "w") = true then 0 else if (Txt.item x 5 == Str.ofString "w") = true then 1 else 2
noncomputable def cuL (ds : List Int) (i : Nat) : List Int := (List.range i).map fun k => cutS (fmS (numS ds k))
theorem cuL_more (ds : List Int) (i : Nat) : cuL ds (i + 1) = cuL ds i ++ [cutS (fmS (numS ds i))] := by simp [cuL, List.range_succ]
theorem fm_len10 (n : Int) : (fmS n).length = 10 := by
  have h1 : (fmS n).length = (picksTo n 10).length := by
    unfold fmS
    have h : ∀ x ∈ picksTo n 10, x.length = 1 := by
      intro x hx
      obtain ⟨⟨⟨T, bs⟩, k⟩, hq, rfl⟩ := List.mem_map.mp hx
      have hq' := List.mem_of_mem_take hq
      have hm : (T, bs) ∈ FT := by
        have := List.mem_zipIdx hq'
        rw [this.2.2]; exact List.getElem_mem _
      have hb := ft_len _ hm
      unfold pickAt
      split
      · exact pick_len (by decide) _ hb
      · exact pick_len (by decide) _ hb
    exact KT.join_ones _ h
  rw [h1]
  unfold picksTo
  rw [List.length_map, List.length_take, List.length_zipIdx, show FT.length = 10 from rfl]
  decide
theorem sgL_get {ds : List Int} {k n : Nat} (hk : k < n) (d : Str) : (sgL ds n).getD k d = fmS (numS ds k) := by
  rw [List.getD_eq_getElem?_getD]; simp [sgL, hk]
theorem cut_w0 {x : Str} (h : (Txt.item x 2 == Str.ofString "w") = true) : cutS x = 0 := if_pos h
theorem cut_w1 {x : Str} (h0 : (Txt.item x 2 == Str.ofString "w") = false) (h : (Txt.item x 5 == Str.ofString "w") = true) : cutS x = 1 := by
  unfold cutS; rw [if_neg (by rw [h0]; decide), if_pos h]
theorem cut_w2 {x : Str} (h0 : (Txt.item x 2 == Str.ofString "w") = false) (h : (Txt.item x 5 == Str.ofString "w") = false) : cutS x = 2 := by
  unfold cutS; rw [if_neg (by rw [h0]; decide), if_neg (by rw [h]; decide)]
noncomputable def cpB (ds : List Int) (wh : Int) (i j : Nat) : Bool := commonS (wrS ds wh i) (wrS ds wh j) == wrS ds wh i
noncomputable def faTo (ds : List Int) (wh : Int) (i q : Nat) : List Int := ((List.range q).filter (cpB ds wh i)).map fun j : Nat => (j : Int)
theorem faTo_yes {ds : List Int} {wh : Int} {i q : Nat} (h : cpB ds wh i q = true) : faTo ds wh i (q + 1) = faTo ds wh i q ++ [(q : Int)] := by
  unfold faTo; rw [List.range_succ, List.filter_append, List.map_append]; simp [h]
theorem faTo_no {ds : List Int} {wh : Int} {i q : Nat} (h : cpB ds wh i q = false) : faTo ds wh i (q + 1) = faTo ds wh i q := by
  unfold faTo; rw [List.range_succ, List.filter_append, List.map_append]; simp [h]
theorem spell_app (w : Int) (x y : Str) : spellS w (x ++ y) = spellS w x ++ spellS w y := by
  apply Str.ext'
  apply Array.ext'
  rw [Str.cps_append, Array.toList_append]
  show (spellL w (x ++ y).cps.toList).toArray.toList = (spellL w x.cps.toList).toArray.toList ++ (spellL w y.cps.toList).toArray.toList
  rw [Str.cps_append, Array.toList_append]
  simp [spellL]
theorem spell_slash (w : Int) : spellS w (Str.ofString "/") = Str.ofString "/" := by
  have e : (Str.ofString "/").cps.toList = [47] := rfl
  unfold spellS spellL
  rw [e]
  have : sgn w 47 = [47] := by unfold sgn; simp
  rw [List.flatMap_cons, List.flatMap_nil, this]
  rfl
theorem wy_head (ds : List Int) : ∀ i p, ∃ t, (wyL ds i).getD p (Str.ofString "/") = Str.ofString "/" ++ t
  | 0, p => by
    cases p with
    | zero => exact ⟨Str.ofString "", rfl⟩
    | succ p => exact ⟨Str.ofString "", rfl⟩
  | i + 1, p => by
    rw [wyL, getD_app]
    split
    · exact wy_head ds i p
    · split
      · obtain ⟨t, ht⟩ := wy_head ds i (abvS ds i).toNat
        unfold joined
        rw [ht]
        split
        · exact ⟨_, Str.append_assoc ..⟩
        · exact ⟨_, Str.append_assoc ..⟩
      · exact ⟨Str.ofString "", rfl⟩
theorem wr_starts {ds : List Int} {wh : Int} (_hn : ds.length ≤ 6) {k : Nat} (_hk : k < ds.length) : Txt.startswith (wrS ds wh k) (Str.ofString "/") = true := by
  obtain ⟨t, ht⟩ := wy_head ds ds.length (k + 1)
  unfold wrS
  rw [ht, spell_app, spell_slash]
  exact KT.starts_app _ _
noncomputable def FaJ (ds : List Int) (wh : Int) (g : Addr) (pre : List (Addr × Obj) → List (Addr × Obj)) (i : Nat) (ys : List Value) (nw : List (Addr × Obj)) : Prop :=
  ∃ inner, nw = pre inner ∧ ys.length = i ∧ (∀ k, k < i → ∃ D us n, ys[k]? = some (.ref D) ∧ (D, listOf us.toArray n) ∈ inner ∧ IntsAre us (faTo ds wh k ds.length)) ∧ ∀ p ∈ inner, p.1 ≠ g
theorem faJ_more {ds : List Int} {wh : Int} {g : Addr} {pre : List (Addr × Obj) → List (Addr × Obj)} {i : Nat} {ys : List Value} {D : Addr} {us : List Value} {inner : List (Addr × Obj)} (hl : ys.length = i)
    (h : ∀ k, k < i → ∃ D us n, ys[k]? = some (.ref D) ∧ (D, listOf us.toArray n) ∈ inner ∧ IntsAre us (faTo ds wh k ds.length)) (hg : ∀ p ∈ inner, p.1 ≠ g) (hu : IntsAre us (faTo ds wh i ds.length)) (hD : g ≠ D) :
    FaJ ds wh g pre (i + 1) (ys ++ [.ref D]) (pre ((D, listOf us.toArray us.length) :: inner)) := by
  refine ⟨_, rfl, by simp [hl], fun k hk => ?_, List.forall_mem_cons.mpr ⟨Ne.symm hD, hg⟩⟩
  by_cases hki : k < i
  · obtain ⟨D', us', n, e, hm, hi⟩ := h k hki
    exact ⟨D', us', n, by rw [List.getElem?_append_left (by omega)]; exact e, .tail _ hm, hi⟩
  · have : k = i := by omega
    subst this
    exact ⟨D, us, _, by rw [List.getElem?_append_right (by omega)]; simp [hl], .head _, hu⟩
theorem cut_whs {ds : List Int} (h : ∀ k, 0 ≤ ds.getD k 0 ∧ ds.getD k 0 < 96) (k : Nat) : cutS (fmS (numS ds k)) = whsS ds k := by
  obtain ⟨_, a2, a3, _⟩ := fm_facts h k
  have hw := whs_bd ds k
  unfold cutS
  rw [a2, a3]
  by_cases h0 : whsS ds k = 0
  · rw [if_pos (decide_eq_true h0), h0]
  · rw [if_neg (by rw [decide_eq_false h0]; decide)]
    by_cases h1 : whsS ds k = 1
    · rw [if_pos (decide_eq_true h1), h1]
    · rw [if_neg (by rw [decide_eq_false h1]; decide)]; omega
theorem cu_wh {ds : List Int} (h : ∀ k, 0 ≤ ds.getD k 0 ∧ ds.getD k 0 < 96) (i : Nat) : cuL ds i = whL ds i := by
  unfold cuL whL
  exact List.map_congr_left fun k _ => cut_whs h k
theorem dir_law {ds : List Int} {wh : Int} (_h : ∀ k, 0 ≤ ds.getD k 0 ∧ ds.getD k 0 < 96) (hn : ds.length ≤ 6) {k : Nat} (hk : k < ds.length) : dirS (wrS ds wh k) = if 0 < abvS ds k then spellS wh ((plL ds ds.length).getD (abvS ds k).toNat (Str.ofString "")) else Str.ofString "/" := by
  have e0 : wrS ds wh k = spellS wh ((plL ds ds.length).getD (abvS ds k).toNat (Str.ofString "")) ++ Str.ofString "/" ++ spellS wh (namS ds k) := by
    unfold wrS
    rw [(wy_pl ds ds.length hn (k + 1) (by omega) (by omega)).1, pl_get ds ds.length k hk, spell_app, spell_app, spell_slash]
  have hb := spell_nam_no47 wh ds k
  have ha := abv_bd ds k
  by_cases h0 : 0 < abvS ds k
  · rw [if_pos h0, e0]
    obtain ⟨j, hj⟩ : ∃ j, (abvS ds k).toNat = j + 1 := ⟨(abvS ds k).toNat - 1, by omega⟩
    obtain ⟨l, hl⟩ := spell_nam_last wh ds (k := j) (by omega)
    rw [hj]
    have e1 : (spellS wh ((plL ds ds.length).getD (j + 1) (Str.ofString ""))).cps.toList = (spellS wh ((plL ds ds.length).getD (abvS ds j).toNat (Str.ofString "") ++ Str.ofString "/")).cps.toList ++ l ++ [48 + j] := by
      rw [pl_get ds ds.length j (by omega), spell_app, Str.cps_append, Array.toList_append, hl, List.append_assoc]
    exact dir_in e1 (by omega) hb
  · rw [if_neg h0, e0, show (abvS ds k).toNat = 0 by omega, pl_0]
    rw [show spellS wh (Str.ofString "") = Str.ofString "" from rfl]
    exact dir_root hb
end
section
theorem one_eq (n c : Nat) : ((⟨#[n]⟩ : Str) == ⟨#[c]⟩) = decide (n = c) := by
  rw [Bool.eq_iff_iff]
  simp
theorem is_one {n c : Nat} {cs : String} {b : Bool} (h : ((⟨#[n]⟩ : Str) == Str.ofString cs) = b) (e : Str.ofString cs = ⟨#[c]⟩) : decide (n = c) = b := by rw [e, one_eq] at h; exact h
theorem sg1 {i : Int} {n : Nat} (h : ((⟨#[n]⟩ : Str) == Str.ofString "&") = true) : (Str.ofString "&amp;").cps.toList = sgn i n := by
  obtain rfl := of_decide_eq_true (is_one (c := 38) h (by decide))
  exact (by decide : (Str.ofString "&amp;").cps.toList = [38, 97, 109, 112, 59]).trans (by simp [sgn])
theorem sg2 {i : Int} {n : Nat} (h : ((⟨#[n]⟩ : Str) == Str.ofString "\"") = true) : (Str.ofString "&quot;").cps.toList = sgn i n := by
  obtain rfl := of_decide_eq_true (is_one (c := 34) h (by decide))
  exact (by decide : (Str.ofString "&quot;").cps.toList = [38, 113, 117, 111, 116, 59]).trans (by simp [sgn])
theorem sg3 {i : Int} {n : Nat} (h : ((⟨#[n]⟩ : Str) == Str.ofString "<") = true) (hi : i ≠ 2) : (Str.ofString "&lt;").cps.toList = sgn i n := by
  obtain rfl := of_decide_eq_true (is_one (c := 60) h (by decide))
  exact (by decide : (Str.ofString "&lt;").cps.toList = [38, 108, 116, 59]).trans (by simp [sgn, hi])
theorem sg4 {i : Int} {n : Nat} (h : ((⟨#[n]⟩ : Str) == Str.ofString ">") = true) (hi : i ≠ 1) : (Str.ofString "&gt;").cps.toList = sgn i n := by
  obtain rfl := of_decide_eq_true (is_one (c := 62) h (by decide))
  exact (by decide : (Str.ofString "&gt;").cps.toList = [38, 103, 116, 59]).trans (by simp [sgn, hi])
theorem sg5 {i : Int} {n : Nat} (h : ((⟨#[n]⟩ : Str) == Str.ofString ">") = true) (hi : i = 1) : (⟨#[n]⟩ : Str).cps.toList = sgn i n := by
  obtain rfl := of_decide_eq_true (is_one (c := 62) h (by decide))
  simp [sgn, hi]
theorem sg6 {i : Int} {n : Nat} (h : ((⟨#[n]⟩ : Str) == Str.ofString "<") = true) (hi : i = 2) : (⟨#[n]⟩ : Str).cps.toList = sgn i n := by
  obtain rfl := of_decide_eq_true (is_one (c := 60) h (by decide))
  simp [sgn, hi]
theorem sg7 {i : Int} {n : Nat} (h1 : ((⟨#[n]⟩ : Str) == Str.ofString "&") = false) (h2 : ((⟨#[n]⟩ : Str) == Str.ofString "\"") = false) (h3 : ((⟨#[n]⟩ : Str) == Str.ofString "<") = false) (h4 : ((⟨#[n]⟩ : Str) == Str.ofString ">") = false) :
    (⟨#[n]⟩ : Str).cps.toList = sgn i n := by
  have a1 := of_decide_eq_false (is_one (c := 38) h1 (by decide))
  have a2 := of_decide_eq_false (is_one (c := 34) h2 (by decide))
  have a3 := of_decide_eq_false (is_one (c := 60) h3 (by decide))
  have a4 := of_decide_eq_false (is_one (c := 62) h4 (by decide))
  simp [sgn, a1, a2, a3, a4]
theorem sp_start (i : Int) : (Str.ofString "").cps.toList = spellL i (KStt.txt []).cps.toList ∧ (Str.ofString "").length ≤ 6 * ([] : List Int).length := ⟨rfl, by decide⟩
theorem sp_step {i : Int} {told r : Str} {pre : List Int} {n : Nat} (h1 : told.cps.toList = spellL i (KStt.txt pre).cps.toList) (h2 : told.length ≤ 6 * pre.length) (hr : r.cps.toList = sgn i n) :
    (told ++ r).cps.toList = spellL i (KStt.txt (pre ++ [(n : Int)])).cps.toList ∧ (told ++ r).length ≤ 6 * (pre ++ [(n : Int)]).length := by
  constructor
  · rw [KStt.txt_snoc, Str.cps_append, Array.toList_append, Str.cps_append, Array.toList_append, spellL_append, h1, hr]
    simp [spellL]
  · have h3 := sgn_len i n
    rw [← hr, ← len_eq] at h3
    rw [Str.length_append, List.length_append]
    simp only [List.length_cons, List.length_nil]
    omega
theorem sp_end {i : Int} {told x : Str} {t : Tok} (h : told.cps.toList = spellL i (KStt.txt (KStt.codes x)).cps.toList) : ∃ t', Value.str told t = .str (spellS i x) t' := by
  rw [KStt.txt_codes, ← spellS_toList] at h
  exact ⟨t, congrArg (fun y => Value.str y t) (str_ext h)⟩
set_option maxRecDepth 100000 in
set_option maxHeartbeats 8000000 in
theorem spelled_spec (w : World) (mean : ExcName → Option Value) (mg mb : Str → Option Value) (i : Int) (u : Tok) (x : Str) (t : Tok) (hx : x.length ≤ 20) :
    Claim w mean mg mb 216 1 8 0 [] [.int i u, .str x t] (fun v => ∃ t', v = .str (spellS i x) t') := by
  unfold Claim
  intro dp un gd cn cs a ccd cl outer A₀ base h₀ L m news s Q E B F X N T hk hn hdp hun htk hret
  w_top off
  k_with_none
  k_with "m1" => ((k_here; refine execs_cons_t (by first | exact Nat.succ_pos _ | assumption | (dsimp only; omega)) ?_))
  k_with "m2" => (first | (refine tnext_next ?_; intro tk9 htk9) | refine tnext_ret ?_ | refine tnext_brk ?_ | refine tnext_cont ?_)
  have kf : PySem.Challenge.rw_il0079_01 = PySem.Challenge.rw_il0079_01 ∧ hd.heap_1 w.params = hd.heap_1 w.params := by (k_fill; exact ⟨rfl, rfl⟩)
  clear kf
  k_with "pyIter str" => k_state (fun pre told => told.cps.toList = spellL i (KStt.txt pre).cps.toList ∧ told.length ≤ 6 * pre.length) "told"
  k_with "state" => first | exact sp_start i | exact sp_step (by assumption) (by assumption) (by first | exact sg1 (by assumption) | exact sg2 (by assumption) | exact sg3 (by assumption) (by assumption) | exact sg4 (by assumption) (by assumption) | exact sg5 (by assumption) (by assumption) | exact sg6 (by assumption) (by assumption) | exact sg7 (by assumption) (by assumption) (by assumption) (by assumption))
  refine wpAny_call ?_
  k_dflt cell_enter
  k_steps
  all_goals exact hret _ _ _ (sp_end (by assumption)) (by k_asm) (by k_asm)
end
section
open PyProof.Rows.LCg
section
variable {M : Model} {A : Around} {E : Value → Shared → Prop} {s : Shared}
theorem newEnv_one {scope : Scope} {globals : Addr} {cl : List (Str × Addr)} {qual : Str} {x : Str} {env : Env} {Q : Env → Shared → Prop}
    (hcf : ∀ n, cellsFrom n scope.names cl = (x, n) :: cl) (hpc : ∀ h : Heap, pushCells h scope.names = h.push { cls := .type "cell", data := .cell none })
    (h : Q { scope := scope, locals := s.heap.objs.size, globals := globals, cells := (x, s.heap.objs.size + 1) :: cl, qual := qual, func := none, code := env.code, frame := env.frame, builtins := env.builtins }
      { s with heap := (s.heap.push { cls := .type "dict", data := .dict #[] }).push { cls := .type "cell", data := .cell none } }) :
    wpAny M A (newFunctionEnv scope globals cl [] qual none .none (some env)) Q E s := by
  simp only [newFunctionEnv, Option.isSome_some, if_true]
  refine wpAny_bind (wpAny_alloc ?_)
  refine wpAny_bind (wpAny_layCells _ (fun name kind cells => by cases hkc : kind == NameKind.cell <;> simp [hkc]) _ _ _ _ ?_)
  rw [hcf, hpc]
  rw [show ({ s with heap := s.heap.push { cls := .type "dict", data := .dict #[] } } : Shared).heap.objs.size = s.heap.objs.size + 1 from Heap.size_push ..]
  exact wpAny_bind (wpAny_pure (wpAny_pure h))
end
section
variable {prog : Program} {w : World} {A : Around} {E : Value → Shared → Prop} {s : Shared} {h₀ : Heap} {L : Addr} {m : Str → Option Value} {env : Env}
/-- an element's end, the comprehension's own name a cell -/
noncomputable def EndC (h₀ : Heap) (L : Addr) (m : Str → Option Value) (s₁ : Shared) (I : Addr) (oI : Obj) (C : Addr) (oC : Obj) (D : Addr) (oD : Obj) (Y : Addr) (oY : Obj) (J : Value → List (Addr × Obj) → Prop) (y : Value) (s₂ : Shared) : Prop :=
  ∃ h' tk nw, s₂ = { s₁ with heap := h', toks := tk } ∧ Fr h₀ L h' m ∧ News h₀ L h' ((I, oI) :: (C, oC) :: (D, oD) :: (Y, oY) :: nw) ∧ Off3 I C D nw ∧ Off1 Y nw ∧ J y nw
noncomputable def TurnC (prog : Program) (w : World) (A : Around) (h₀ : Heap) (L : Addr) (m : Str → Option Value) (env : Env) (elt : Expr) (x : Str) (scope : Scope) (cl : List (Str × Addr)) (P : Nat → Value → Prop) (s : Shared) (n : Nat) (J : Nat → List Value → List (Addr × Obj) → Prop) : Prop :=
  ∀ i ys nw v I oI C oC D Y oY h tk (E' : Value → Shared → Prop), i < n → J i ys nw → P i v → oY.data = .cell (some v) → Fr h₀ L h m → News h₀ L h ((I, oI) :: (C, oC) :: (D, lst ys) :: (Y, oY) :: nw) → Off3 I C D nw → Off1 Y nw →
    ((@Ne Nat I C) ∧ (@Ne Nat I D) ∧ (@Ne Nat C D)) → ((@Ne Nat I Y) ∧ (@Ne Nat C Y) ∧ (@Ne Nat D Y)) →
      wpAny (model prog w) A (eval elt (compEnvC scope ((x, Y) :: cl) C env)) (EndC h₀ L m { s with heap := h, toks := tk } I oI C oC D (lst ys) Y oY (fun y nw' => J (i + 1) (ys ++ [y]) nw')) E' { s with heap := h, toks := tk }
theorem off1_mem {D : Addr} : ∀ {l : List (Addr × Obj)}, Off1 D l → ∀ p ∈ l, p.1 ≠ D
  | [], _ => fun _ h => absurd h List.not_mem_nil
  | _ :: _, x => List.forall_mem_cons.mpr ⟨x.1, off1_mem x.2⟩
theorem off1_of {D : Addr} : ∀ {l : List (Addr × Obj)}, (∀ p ∈ l, p.1 ≠ D) → Off1 D l
  | [], _ => trivial
  | _ :: _, h => ⟨h _ (.head _), off1_of fun p hp => h p (.tail _ hp)⟩
theorem block_C {elt iter : Expr} {x : Str} {px : Pos} {scope : Scope} {cl : List (Str × Addr)} {pos : Pos} {s₂ : Shared} {I : Addr} {n : Nat} {P : Nat → Value → Prop} {St : Nat → Heap → Prop} {news : List (Addr × Obj)}
    {RR : Value → Addr → Result → Shared → Prop} (J : Nat → List Value → List (Addr × Obj) → Prop)
    (W : Walks prog w A I [I] [I] n P St) (hsz : n ≤ sizeLine) (hIo : ∀ i h, St i h → ∃ o, h.get? I = some o)
    (hSt : ∀ i h h' o, St i h → h.get? I = some o → h'.get? I = some o → St i h')
    (hcf : ∀ n, cellsFrom n scope.names cl = (x, n) :: cl) (hpc : ∀ h : Heap, pushCells h scope.names = h.push { cls := .type "cell", data := .cell none })
    (hkind : scope.kind = .function) (hx : (relabel scope env).names.lookup x = some .cell) (hst : St 0 s₂.heap) (hIlt : I < s₂.heap.objs.size)
    (F : Fr h₀ L s₂.heap m) (N : News h₀ L s₂.heap news) (hIL : L ≠ I) (hI₀ : h₀.get? I = none) (off : ∀ p ∈ news, p.1 ≠ I) (hJ : J 0 [] news)
    (turn : TurnC prog w A h₀ L m env elt x scope cl P s₂ n J)
    (hRR : ∀ D C h tk m' ys news', Fr h₀ L h m → News h₀ L h ((D, lst ys) :: news') → Off1 D news' → h.Ns C m' → h₀.get? C = none → h₀.get? D = none → C ≠ L → D ≠ L → C ≠ D → (∀ p ∈ news', p.1 ≠ C) → J n ys news' → RR (.ref D) C (.ok .next) { s₂ with heap := h, toks := tk }) :
    wpAny (model prog w) A (newList []) (fun acc s₃ => wpAny (model prog w) A (newFunctionEnv scope env.globals cl [] env.qual none .none (some env)) (fun cenv s₄ =>
      codeAny (model prog w) A (.compStart (.ListComp elt [⟨.Name x px, iter, [], 0⟩] scope pos) 0 (.ref I) acc { cenv with scope := relabel scope env }) (RR acc cenv.locals) s₄) E s₃) E s₂ := by
  refine wpAny_newObj_type (newEnv_one hcf hpc ?_)
  dsimp only
  generalize hH2 : s₂.heap.push { cls := .type "list", dict := none, data := .seq ([] : List Value).toArray } = H2
  have hC : H2.objs.size = s₂.heap.objs.size + 1 := by rw [← hH2, Heap.size_push]
  generalize hH3 : (H2.push { cls := .type "dict", data := .dict #[] }).push { cls := .type "cell", data := .cell none } = h₁
  have hns₁ : h₁.Ns H2.objs.size (fun _ => none) := hH3 ▸ (Heap.Ns.new H2 (.type "dict")).keeps fun b o e => Heap.get?_push_of_some _ e
  have hcell₁ : h₁.IsCell (H2.objs.size + 1) none := by
    refine ⟨{ cls := .type "cell", data := .cell none }, ?_, rfl⟩
    rw [← hH3, show H2.objs.size + 1 = (H2.push { cls := .type "dict", data := .dict #[] }).objs.size from (Heap.size_push ..).symm]
    exact Heap.get?_push_size _ rfl
  have old2 : ∀ b o, H2.get? b = some o → h₁.get? b = some o := fun b o e => hH3 ▸ Heap.get?_push_of_some _ (Heap.get?_push_of_some _ e)
  have hDC : s₂.heap.objs.size ≠ H2.objs.size := by rw [hC]; exact Nat.ne_of_lt (Nat.lt_succ_self _)
  have hDY : s₂.heap.objs.size ≠ H2.objs.size + 1 := by rw [hC]; exact Nat.ne_of_lt (Nat.lt_succ_of_lt (Nat.lt_succ_self _))
  have hCY : H2.objs.size ≠ H2.objs.size + 1 := Nat.ne_of_lt (Nat.lt_succ_self _)
  have below : ∀ b, b < s₂.heap.objs.size → b ≠ H2.objs.size ∧ b ≠ s₂.heap.objs.size ∧ b ≠ H2.objs.size + 1 := fun b hb => ⟨by rw [hC]; exact Nat.ne_of_lt (Nat.lt_succ_of_lt hb), Nat.ne_of_lt hb, by rw [hC]; exact Nat.ne_of_lt (Nat.lt_succ_of_lt (Nat.lt_succ_of_lt hb))⟩
  have old : ∀ b o, s₂.heap.get? b = some o → h₁.get? b = some o := fun b o e => old2 b o (hH2 ▸ Heap.get?_push_of_some _ e)
  have hacc : h₁.get? s₂.heap.objs.size = some (lst []) := old2 _ _ (hH2 ▸ Heap.get?_push_size _ rfl)
  have hst₁ : St 0 h₁ := W.frame _ _ _ hst fun b _ o e => old b o e
  have fresh₀ : ∀ a, s₂.heap.objs.size ≤ a → h₀.get? a = none := fun a ha => by
    cases e : h₀.get? a with
    | none => rfl
    | some o' => exact absurd (Heap.lt_size (F.keep a o' e)) (Nat.not_lt.mpr ha)
  have hD₀ : h₀.get? s₂.heap.objs.size = none := fresh₀ _ (Nat.le_refl _)
  have hC₀ : h₀.get? H2.objs.size = none := fresh₀ _ (by rw [hC]; exact Nat.le_succ _)
  have hY₀ : h₀.get? (H2.objs.size + 1) = none := fresh₀ _ (by rw [hC]; exact Nat.le_succ_of_le (Nat.le_succ _))
  have hLlt : L < s₂.heap.objs.size := F.ns.lt
  have hDL : s₂.heap.objs.size ≠ L := Ne.symm (below L hLlt).2.1
  have hCL : H2.objs.size ≠ L := Ne.symm (below L hLlt).1
  have hYL : H2.objs.size + 1 ≠ L := Ne.symm (below L hLlt).2.2
  have hCI : I ≠ H2.objs.size := (below I hIlt).1
  have hDI : I ≠ s₂.heap.objs.size := (below I hIlt).2.1
  have hYI : I ≠ H2.objs.size + 1 := (below I hIlt).2.2
  have off₀ : Off3 I H2.objs.size s₂.heap.objs.size news := Off3.of fun p hp => ⟨off p hp, (below _ (Heap.lt_size (N p hp).1)).1, (below _ (Heap.lt_size (N p hp).1)).2.1⟩
  have offY₀ : Off1 (H2.objs.size + 1) news := off1_of fun p hp => (below _ (Heap.lt_size (N p hp).1)).2.2
  have loop : ∀ s₃ : Shared, s₃ = { s₂ with heap := h₁ } →
      codeAny (model prog w) A (.compLoop (.ListComp elt [⟨.Name x px, iter, [], 0⟩] scope pos) 0 (.ref I) (.ref s₂.heap.objs.size) (compEnvC scope ((x, H2.objs.size + 1) :: cl) H2.objs.size env))
        (RR (.ref s₂.heap.objs.size) H2.objs.size) s₃ := by
    rintro s₃ rfl
    refine codeAny_compLoop_tests
      (fun k s' => ∃ h' tk i ys news' v₀, s' = { s₂ with heap := h', toks := tk } ∧ i ≤ n ∧ k = n + 1 - i ∧ ys.length = i ∧ St i h' ∧ Fr h₀ L h' m ∧ h'.Ns H2.objs.size (fun _ => none) ∧ h'.IsCell (H2.objs.size + 1) v₀ ∧ News h₀ L h' ((s₂.heap.objs.size, lst ys) :: news') ∧
        Off3 I H2.objs.size s₂.heap.objs.size news' ∧ Off1 (H2.objs.size + 1) news' ∧ J i ys news') ?_ (n + 1)
      ⟨h₁, _, 0, [], news, none, rfl, Nat.zero_le _, rfl, rfl, hst₁, F.keeps old, hns₁, hcell₁, fun p hp => ?_, off₀, offY₀, hJ⟩
    · rintro k s' ⟨h', tk, i, ys, news', v₀, rfl, hi, rfl, hyl, hst', F', hn', hc', N', off', offY', hJ'⟩
      have off3 := off'.mem
      have offY := off1_mem offY'
      by_cases hlt : i < n
      · refine W.item i _ _ _ hlt hst' fun v h₂ tk₂ hPv hst₂ hk₂ => ?_
        have hc₂ : h₂.IsCell (H2.objs.size + 1) v₀ := let ⟨o, e, r⟩ := hc'; ⟨o, hk₂ _ o (by simpa using Ne.symm hYI) e, r⟩
        refine wpAny_assign_Name (wpAny_storeName_cell (c := H2.objs.size + 1) (v₀ := v₀) hkind hx (by simp [compEnvC]) hc₂ fun h₃ hc₃ hs₃ => ?_)
        refine wpAny_tests_nil ?_
        simp only [if_true]
        obtain ⟨oY, heY, hdY⟩ := hc₃
        obtain ⟨oI, heI₂⟩ := hIo _ _ hst₂
        have heI : h₃.get? I = some oI := hs₃.extBut I oI hYI heI₂
        have hst₃ : St (i + 1) h₃ := hSt _ _ _ _ hst₂ heI₂ heI
        have hn₂ : h₂.Ns H2.objs.size (fun _ => none) := hn'.at' fun o e => hk₂ _ o (by simpa using Ne.symm hCI) e
        have hn₃ : h₃.Ns H2.objs.size (fun _ => none) := hn₂.sameBut hs₃ hCY
        obtain ⟨oC, heC, hoC⟩ := ns_obj hn₃
        have F₃ : Fr h₀ L h₃ m := (fr_but F' hk₂ hIL hI₀).change hs₃ hYL hY₀
        have N₂ : News h₀ L h₂ ((s₂.heap.objs.size, lst ys) :: news') := news_but N' hk₂ fun p hp => by
          rcases List.mem_cons.mp hp with rfl | hp
          · exact Ne.symm hDI
          · exact (off3 p hp).1
        have N₃ : News h₀ L h₃ ((I, oI) :: (H2.objs.size, oC) :: (s₂.heap.objs.size, lst ys) :: (H2.objs.size + 1, oY) :: news') := fun p hp => by
          rcases List.mem_cons.mp hp with rfl | hp
          · exact ⟨heI, Ne.symm hIL, hI₀⟩
          rcases List.mem_cons.mp hp with rfl | hp
          · exact ⟨heC, hCL, hC₀⟩
          rcases List.mem_cons.mp hp with rfl | hp
          · have z := N₂ _ (List.mem_cons_self ..)
            exact ⟨hs₃.extBut _ _ hDY z.1, z.2⟩
          rcases List.mem_cons.mp hp with rfl | hp
          · exact ⟨heY, hYL, hY₀⟩
          · have z := N₂ p (List.mem_cons_of_mem _ hp)
            exact ⟨hs₃.extBut _ _ (offY p hp) z.1, z.2⟩
        refine wpAny_mono (turn i ys news' v I oI H2.objs.size oC s₂.heap.objs.size (H2.objs.size + 1) oY h₃ _ _ hlt hJ' hPv hdY F₃ N₃ off' offY' ⟨hCI, hDI, Ne.symm hDC⟩ ⟨hYI, hCY, hDY⟩) (fun y s₄ h₄ => ?_) fun _ _ e => e
        obtain ⟨h₄, tk₄, news₄, rfl, F₄, N₄, off₄, offY₄, hJ₄⟩ := h₄
        have zI := (N₄ (I, oI) List.mem_cons_self).1
        have zC := (N₄ (H2.objs.size, oC) (.tail _ (.head _))).1
        have zD := (N₄ (s₂.heap.objs.size, lst ys) (.tail _ (.tail _ (.head _)))).1
        have zY := (N₄ (H2.objs.size + 1, oY) (.tail _ (.tail _ (.tail _ (.head _))))).1
        have N₄' : News h₀ L h₄ news₄ := fun p hp => N₄ p (.tail _ (.tail _ (.tail _ (.tail _ hp))))
        have hst₄ : St (i + 1) h₄ := hSt _ _ _ _ hst₃ heI zI
        refine append_at (hsz := by show ys.toArray.size ≤ sizeLine; rw [List.size_toArray, hyl]; exact Nat.le_trans hi hsz) zD fun h₅ hs₅ hD₅ => ?_
        have off4 := off₄.mem
        refine ⟨n + 1 - (i + 1), by omega, h₅, tk₄, i + 1, ys ++ [y], news₄, some v, rfl, hlt, rfl, by rw [List.length_append, List.length_singleton, hyl], hSt _ _ _ _ hst₄ zI (hs₅.extBut I oI hDI zI), F₄.change hs₅ hDL hD₀,
          (hoC.ns zC).sameBut hs₅ (Ne.symm hDC), ⟨oY, hs₅.extBut _ _ (Ne.symm hDY) zY, hdY⟩, fun p hp => ?_, off₄, offY₄, hJ₄⟩
        rcases List.mem_cons.mp hp with rfl | hp
        · exact ⟨hD₅.trans (congrArg some (lst_snoc ys y)), hDL, hD₀⟩
        · exact ⟨hs₅.extBut _ _ (off4 p hp).2.2 (N₄' p hp).1, (N₄' p hp).2⟩
      · obtain rfl : i = n := Nat.le_antisymm hi (Nat.not_lt.mp hlt)
        refine W.done _ _ _ hst' fun h₂ tk₂ hk₂ => ?_
        exact hRR _ _ h₂ tk₂ _ ys news' (fr_but F' hk₂ hIL hI₀) (news_but N' hk₂ fun p hp => by
          rcases List.mem_cons.mp hp with rfl | hp
          · exact Ne.symm hDI
          · exact (off3 p hp).1) off'.one (hn'.at' fun o e => hk₂ _ o (by simpa using Ne.symm hCI) e) hC₀ hD₀ hCL hDL (Ne.symm hDC) (fun p hp => (off3 p hp).2.1) hJ'
    · rcases List.mem_cons.mp hp with rfl | hp
      · exact ⟨hacc, hDL, hD₀⟩
      · exact ⟨old _ _ (N p hp).1, (N p hp).2⟩
  exact codeAny_compStart_list (loop _ rfl) (W.self 0 _ _ _ hst₁ (loop _ rfl))
/-- what a list comprehension over a range must show, its own name a cell -/
noncomputable def SrcC (prog : Program) (w : World) (A : Around) (h₀ : Heap) (L : Addr) (m : Str → Option Value) (env : Env) (elt : Expr) (x : Str) (scope : Scope) (cl : List (Str × Addr)) (Fin : Shared → List Value → List (Addr × Obj) → Prop) (xv : Value) (s₁ : Shared) : Prop :=
  ∃ r a b t u v n news, xv = .ref r ∧ A.handled = none ∧ Fr h₀ L s₁.heap m ∧ News h₀ L s₁.heap news ∧ IsRange s₁.heap r a b 1 t u v ∧ Builtin.Range.small a b 1 = true ∧ Builtin.Range.rangeSize a b 1 = ((n : Nat) : Int) ∧ n ≤ sizeLine ∧
    ∃ J : Nat → List Value → List (Addr × Obj) → Prop, J 0 [] news ∧ (∀ g, TurnC prog w A h₀ L m env elt x scope cl (fun i v => ∃ t, v = .int (a + (i : Int)) t) { s₁ with heap := g } n J) ∧ ∀ g ys nw, J n ys nw → Fin { s₁ with heap := g } ys nw
theorem Assign_C {elt iter : Expr} {x y : Str} {px py : Pos} {scope : Scope} {cl : List (Str × Addr)} {pos spos : Pos} {Q : Flow → Shared → Prop} (F₀ : Fr h₀ L s.heap m) (hLe : env.locals = L)
    (hsw : swapsWith (.ListComp elt [⟨.Name x px, iter, [], 0⟩] scope pos) (some (.Name y py)) spos.line env = pure true)
    (hclos : closureFor scope env = pure cl) (hcf : ∀ n, cellsFrom n scope.names cl = (x, n) :: cl) (hpc : ∀ h : Heap, pushCells h scope.names = h.push { cls := .type "cell", data := .cell none }) (hkind : scope.kind = .function)
    (hnames : ∀ z ∈ scope.names, z.2 = .local → scope.names.lookup z.1 = some .local) (hx : (relabel scope env).names.lookup x = some .cell)
    (hy : env.kindOf y = some .local) (hp : (env.scope.kind == .class || (env.scope.kind == .module && env.locals != env.globals)) = false)
    (h : wpAny (model prog w) A (eval iter env) (SrcC prog w A h₀ L m env elt x scope cl (fun s₂ => FinA h₀ L m s₂ y Q)) E s)
    (hs : ∀ x, foldedSetIterable iter env x = pure x := by intro _; rfl) :
    wpAny (model prog w) A (exec (.Assign [.Name y py] (.ListComp elt [⟨.Name x px, iter, [], 0⟩] scope pos) spos) env) Q E s := by
  have _ := F₀
  subst hLe
  rw [exec_Assign_Name_used _ _ _ _ hsw]
  refine wpAny_bind (wpAny_standAt (wpAny_bind ?_))
  show wpAny _ A (do let _ ← comprehension (.ListComp elt [⟨.Name x px, iter, [], 0⟩] scope pos) scope env _ (newList []) false (eval iter env) (some (assign (.Name y py) env))) _ _ s
  refine wpAny_bind (wpAny_mono (wpAny_comprehension_free (use := some (assign (.Name y py) env)) (Q := fun _ s' => Q .next s') rfl hs hclos hkind hnames
    (wpAny_mono h (fun xv s₁ h₁ => ?_) fun _ _ e => e)) (fun _ s' hq => wpAny_pure (wpAny_pure hq)) fun _ _ e => e)
  obtain ⟨r, a, b, t, u, v, n, news, rfl, hh, F, N, hr, hsm, hn, hsz, J, hJ, R, RF⟩ := h₁
  refine wpAny_pyIter_range hr hsm ?_
  refine block_C J (range_walks hh a n) hsz (fun i h st => ⟨_, st⟩) (fun i h h' o st e e' => by
    have st' : h.get? s₁.heap.objs.size = some _ := st
    show h'.get? s₁.heap.objs.size = some _
    rw [e', ← e]; exact st') hcf hpc hkind hx (by show IsRangeIter _ _ _ _ _; rw [hn]; simpa using Heap.get?_push_size _ rfl) ?_
      (F.keeps fun _ _ e => Heap.get?_push_of_some _ e) (N.grown fun _ _ e => Heap.get?_push_of_some _ e) (Nat.ne_of_lt F.ns.lt) (next_is_new F) (fun p hp => Nat.ne_of_lt (Heap.lt_size (N p hp).1)) hJ (R _) ?_
  · show s₁.heap.objs.size < (s₁.heap.push _).objs.size
    rw [Heap.size_push]; exact Nat.lt_succ_self _
  · intro D C h' tk m' ys news' F' N' o1 hn hC₀ hD₀ hCL hDL hCD offC fin
    show wpAny _ A (assign (.Name y py) env (.ref D)) _ _ _
    refine wpAny_assign_Name (wpAny_storeName_local hy F'.ns (fun h₂ hn₂ hs₂ => ?_) hp)
    have hL₀ : h₀.get? env.locals = none := Heap.get?_none_of_le F'.above
    have F₂ : Fr h₀ env.locals h₂ (fun z => if z = y then some (.ref D) else m z) := ⟨hn₂, fun b o e => hs₂.extBut b o (fun q => by rw [q, hL₀] at e; cases e) (F'.keep b o e), F'.above⟩
    refine ⟨m', hn.sameBut hs₂ hCL, fun h'' hs'' => RF s₁.heap ys news' fin D h'' _ (F₂.change hs'' hCL hC₀) (fun p hp => ?_) o1⟩
    have z : h₂.get? p.1 = some p.2 := hs₂.extBut _ _ (N' p hp).2.1 (N' p hp).1
    refine ⟨hs''.extBut _ _ ?_ z, (N' p hp).2⟩
    rcases List.mem_cons.mp hp with rfl | hp
    · exact Ne.symm hCD
    · exact offC p hp
end
theorem endC_new {h₀ : Heap} {L I C D Y S : Addr} {m : Str → Option Value} {oI oC oD oY oS : Obj} {pre : List (Addr × Obj) → List (Addr × Obj)} {A inner : List (Addr × Obj)} {s₁ : Shared} {h' : Heap} {tk : Nat} {J : Value → List (Addr × Obj) → Prop} {y : Value}
    (hpre : ∀ x, pre x = A ++ x) (off6 : Off3 I C D (pre inner)) (offY : Off1 Y (pre inner)) (F : Fr h₀ L h' m) (N : News h₀ L h' ((S, oS) :: (I, oI) :: (C, oC) :: (D, oD) :: (Y, oY) :: pre inner))
    (o1 : Off1 S ((I, oI) :: (C, oC) :: (D, oD) :: (Y, oY) :: pre inner)) (r : J y (pre ((S, oS) :: inner))) : EndC h₀ L m s₁ I oI C oC D oD Y oY J y { s₁ with heap := h', toks := tk } := by
  have hm : ∀ p ∈ pre ((S, oS) :: inner), p = (S, oS) ∨ p ∈ pre inner := by
    intro p hp
    rw [hpre] at hp ⊢
    rcases List.mem_append.mp hp with h | h
    · exact .inr (List.mem_append_left _ h)
    · rcases List.mem_cons.mp h with h | h
      · exact .inl h
      · exact .inr (List.mem_append_right _ h)
  have hS := off1_mem o1
  refine ⟨h', tk, _, rfl, F, fun p hp => ?_, Off3.of fun p hp => ?_, off1_of fun p hp => ?_, r⟩
  · rcases List.mem_cons.mp hp with rfl | hp
    · exact N _ (.tail _ (.head _))
    rcases List.mem_cons.mp hp with rfl | hp
    · exact N _ (.tail _ (.tail _ (.head _)))
    rcases List.mem_cons.mp hp with rfl | hp
    · exact N _ (.tail _ (.tail _ (.tail _ (.head _))))
    rcases List.mem_cons.mp hp with rfl | hp
    · exact N _ (.tail _ (.tail _ (.tail _ (.tail _ (.head _)))))
    rcases hm p hp with rfl | hp
    · exact N _ (.head _)
    · exact N _ (.tail _ (.tail _ (.tail _ (.tail _ (.tail _ hp)))))
  · rcases hm p hp with rfl | hp
    · exact ⟨Ne.symm (hS _ (.head _)), Ne.symm (hS _ (.tail _ (.head _))), Ne.symm (hS _ (.tail _ (.tail _ (.head _))))⟩
    · exact off6.mem p hp
  · rcases hm p hp with rfl | hp
    · exact Ne.symm (hS _ (.tail _ (.tail _ (.tail _ (.head _)))))
    · exact off1_mem offY p hp
end
section
namespace MF
set_option maxRecDepth 100000
theorem owner_map : Manifest.owners.lookup (String.ofList ['p', 'a', 'm'].reverse) = some Manifest.sig_map := by kernel_rfl
theorem slot_map_init : Slot "map" "__init__" "object.__init__" :=
  .of (owner := "object") (n := "__init__") (by rw [typeLookup_type, builtinLookup_eq_fast]; kernel_rfl) (by decide +kernel) (by decide +kernel) (by decide +kernel)
    (by first | exact .inl (by decide +kernel) | exact .inr (by decide +kernel)) (by rw [isSubtype_type]; kernel_rfl)
theorem slot_map_iter : Slot "map" "__iter__" "map.__iter__" :=
  .of (owner := "map") (n := "__iter__") (by rw [typeLookup_type, builtinLookup_eq_fast]; kernel_rfl) (by decide +kernel) (by decide +kernel) (by decide +kernel)
    (by first | exact .inl (by decide +kernel) | exact .inr (by decide +kernel)) (by rw [isSubtype_type]; kernel_rfl)
theorem slot_map_next : Slot "map" "__next__" "map.__next__" :=
  .of (owner := "map") (n := "__next__") (by rw [typeLookup_type, builtinLookup_eq_fast]; kernel_rfl) (by decide +kernel) (by decide +kernel) (by decide +kernel)
    (by first | exact .inl (by decide +kernel) | exact .inr (by decide +kernel)) (by rw [isSubtype_type]; kernel_rfl)
theorem args_map_iter_1 (a : Value) : argsOk "map.__iter__" ⟨[a], []⟩ := by
  unfold argsOk; rw [signature?_of (id := "map.__iter__") (n := ['_', '_', 'r', 'e', 't', 'i', '_', '_']) (o := ['p', 'a', 'm']) (by kernel_rfl) owner_map]; kernel_rfl
theorem args_map_next_1 (a : Value) : argsOk "map.__next__" ⟨[a], []⟩ := by
  unfold argsOk; rw [signature?_of (id := "map.__next__") (n := ['_', '_', 't', 'x', 'e', 'n', '_', '_']) (o := ['p', 'a', 'm']) (by kernel_rfl) owner_map]; kernel_rfl
theorem entry_map_next : entryFor table "map.__next__" = some Builtin.«map.__next__» := entryFor_of_tree (by kernel_rfl)
theorem entry_map_iter : entryFor table "map.__iter__" = some Builtin.«dict_keyiterator.__iter__» :=
  entryFor_alias (id' := "dict_keyiterator.__iter__") (by kernel_rfl) (by first | rfl | decide +kernel | (unfold String.splitOn; simp +decide [String.splitOnAux])) (by decide +kernel) (by kernel_rfl)
theorem entry_map_new : entryFor table "map.__new__" = some Builtin.«map.__new__» := entryFor_of_tree (by kernel_rfl)
theorem mro_map : mroOf (.type "map") = pure [.type "map", .type "object"] := by rw [mroOf_type]; kernel_rfl
theorem lookup_map_new : typeLookup (.type "map") "__new__" = pure (some (.builtin "map.__new__")) := by rw [typeLookup_type, builtinLookup_eq_fast]; kernel_rfl
theorem called_map : TypeCalled "map" "map.__new__" "object.__init__" :=
  ⟨by decide +kernel, by decide +kernel, ⟨_, _, mro_map⟩, madeBy_type mro_map lookup_map_new (by decide +kernel), by decide +kernel, by rw [isSubtype_type]; kernel_rfl, slot_map_init⟩
theorem typeCall_map_2 (a b : Value) : checkTypeCall "map" ⟨[a, b], []⟩ = pure () := by kernel_rfl
theorem newCall_map_2 (a b : Value) : checkBuiltinCall "map.__new__" ⟨[.type "map", a, b], []⟩ = pure () := by kernel_rfl
theorem map_no_len : typeLookup (.type "map") "__len__" = pure none := by rw [typeLookup_type, builtinLookup_eq_fast]; kernel_rfl
theorem map_no_hint : typeLookup (.type "map") "__length_hint__" = pure none := by rw [typeLookup_type, builtinLookup_eq_fast]; kernel_rfl
theorem sub_map : isSubtype (.type "map") (.type "map") = pure true := by rw [isSubtype_type]; kernel_rfl
end MF
abbrev mapH1 (h : Heap) (l : Addr) : Heap := h.push { cls := .type "list_iterator", data := .fields #[.ref l, .int 0 0] }
abbrev mapH2 (h : Heap) (l : Addr) : Heap := (mapH1 h l).push { cls := .type "tuple", data := .seq #[.ref h.objs.size] }
abbrev mapH3 (h : Heap) (f l : Addr) : Heap := (mapH2 h l).push { cls := .type "map", data := .fields #[.ref (mapH1 h l).objs.size, .ref f] }
set_option maxRecDepth 100000 in
theorem meets_map_new (f l : Addr) (xs : Array Value) :
    Meets (Builtin.«map.__new__» ⟨[.type "map", .ref f, .ref l], []⟩) (fun _ R s => s.heap.IsList l xs ∧
      R (.ok (.ret (.ref (mapH2 s.heap l).objs.size))) { s with heap := mapH3 s.heap f l }) :=
  .of_wp fun prog w A R s h => by
    obtain ⟨hp, g, d, tk, os⟩ := s; obtain ⟨hl1, h⟩ := h
    have hsub := MF.sub_map
    have hL1 : Heap.IsList (Shared.heap ⟨hp, g, d, tk, os⟩) l xs := hl1
    wp_walk using wpAny_pyIter_list hL1
    exact ⟨_, rfl, h⟩
end
section
abbrev mapObj (T f : Addr) : Obj := { cls := .type "map", data := .fields #[.ref T, .ref f] }
abbrev tup1 (I : Addr) : Obj := { cls := .type "tuple", data := .seq #[.ref I] }
noncomputable def IsIt (o : Obj) (l : Addr) (i : Nat) : Prop := o.cls = .type "list_iterator" ∧ o.data = .fields #[.ref l, .int i 0]
section
variable {prog : Program} {w : World} {A : Around} {E : Value → Shared → Prop} {s : Shared} {h₀ : Heap} {L : Addr} {m : Str → Option Value}
noncomputable def HC (prog : Program) (w : World) (h₀ : Heap) (L : Addr) (m : Str → Option Value) (f : Addr) (vs : List Value) (A : Around) : Prop :=
  ∀ v ∈ vs, ∀ (Q E : Value → Shared → Prop) (s : Shared) (news : List (Addr × Obj)), Fr h₀ L s.heap m → News h₀ L s.heap news →
    (∀ h' tk', Fr h₀ L h' m → News h₀ L h' news → Q v { s with heap := h', toks := tk' }) → wpAny (model prog w) A (call (.ref f) [v]) Q E s
theorem map_next {M T I l f : Addr} {i n : Nat} {vs : List Value} {v : Value} {oI : Obj} {rest : List (Addr × Obj)} {Q : Option Value → Shared → Prop} (hv : vs[i]? = some v) (hc : HC prog w h₀ L m f vs A.in1)
    (F : Fr h₀ L s.heap m) (N : News h₀ L s.heap ((M, mapObj T f) :: (T, tup1 I) :: (I, oI) :: rest)) (hI : IsIt oI l i) (hap : ∀ p ∈ rest, p.1 ≠ I) (hl : (l, listOf vs.toArray n) ∈ rest)
    (hQ : ∀ h' tk' oI', Fr h₀ L h' m → News h₀ L h' ((M, mapObj T f) :: (T, tup1 I) :: (I, oI') :: rest) → IsIt oI' l (i + 1) → Q (some v) { s with heap := h', toks := tk' }) :
    wpAny (model prog w) A (pyNext (.ref M)) Q E s := by
  have gM := (N _ (.head _)).1
  have gT := (N _ (.tail _ (.head _))).1
  have gI := (N _ (.tail _ (.tail _ (.head _)))).1
  have hLI := (N _ (.tail _ (.tail _ (.head _)))).2
  have gl := (N _ (.tail _ (.tail _ (.tail _ hl)))).1
  have hMI : M ≠ I := by rintro rfl; rw [gM] at gI; cases gI; exact absurd hI.1 (show ¬ (Value.type "map" = Value.type "list_iterator") by decide)
  have hTI : T ≠ I := by rintro rfl; rw [gT] at gI; cases gI; exact absurd hI.1 (show ¬ (Value.type "tuple" = Value.type "list_iterator") by decide)
  have hT : s.TypeIs (.ref M) "map" := ⟨_, gM, rfl⟩
  unfold pyNext
  refine wpAny_bind (wpAny_attempt (wpAny_callSpecial?_slot (name := Str.ofString "__next__") hT MF.slot_map_next
    (wpAny_call_entry MF.slot_map_next hT MF.entry_map_next ?_ (MF.args_map_next_1 _))))
  show wpAny _ _ (field (.ref M) 0 >>= _) _ _ s
  refine wpAny_bind (wpAny_field gM rfl (x := .ref T) rfl ?_)
  show wpAny _ _ (seqItems? (.ref T) >>= _) _ _ s
  refine wpAny_bind (wpAny_seqItems gT rfl ?_)
  refine wpAny_bind (wpAny_arrayLoop ?_)
  rw [List.forIn_cons]
  refine wpAny_bind (wpAny_bind (wpAny_holding ?_))
  refine wpAny_nextOf_list_item ⟨_, gI, hI⟩ ⟨_, gl, rfl, n, rfl⟩ (by simpa using hv) fun h₁ hit hs => ?_
  refine wpAny_pure ?_
  refine wpAny_pure ?_
  obtain ⟨o₁, ho₁, hI₁⟩ := hit
  have F₁ : Fr h₀ L h₁ m := F.change hs hLI.1.symm.symm hLI.2
  have N₁ : News h₀ L h₁ ((M, mapObj T f) :: (T, tup1 I) :: (I, o₁) :: rest) := by
    intro p hp
    rcases List.mem_cons.mp hp with rfl | hp
    · exact ⟨(hs.2 _ hMI).trans gM, (N _ (.head _)).2⟩
    · rcases List.mem_cons.mp hp with rfl | hp
      · exact ⟨(hs.2 _ hTI).trans gT, (N _ (.tail _ (.head _))).2⟩
      · rcases List.mem_cons.mp hp with rfl | hp
        · exact ⟨ho₁, hLI⟩
        · exact ⟨(hs.2 _ (hap p hp)).trans (N p (.tail _ (.tail _ (.tail _ hp)))).1, (N p (.tail _ (.tail _ (.tail _ hp)))).2⟩
  refine wpAny_bind (wpAny_field (N₁ _ (.head _)).1 rfl (x := .ref f) rfl ?_)
  refine wpAny_bind (wpAny_holding ?_)
  refine hc v (List.mem_of_getElem? hv) _ _ _ _ F₁ N₁ fun h' tk' F' N' => ?_
  refine wpAny_bind (wpAny_letGo ?_)
  refine wpAny_pure ⟨v, rfl, ?_⟩
  exact wpAny_pure (hQ h' tk' o₁ F' N' hI₁)
theorem map_end {M T I l f : Addr} {i n : Nat} {vs : List Value} {oI : Obj} {rest : List (Addr × Obj)} {Q : Option Value → Shared → Prop} (hh : A.handled = none) (hv : vs[i]? = none)
    (F : Fr h₀ L s.heap m) (N : News h₀ L s.heap ((M, mapObj T f) :: (T, tup1 I) :: (I, oI) :: rest)) (hI : IsIt oI l i) (hap : ∀ p ∈ rest, p.1 ≠ I) (hl : (l, listOf vs.toArray n) ∈ rest)
    (hQ : ∀ h', Fr h₀ L h' m → News h₀ L h' rest → Q none { s with heap := h' }) :
    wpAny (model prog w) A (pyNext (.ref M)) Q E s := by
  have gM := (N _ (.head _)).1
  have gT := (N _ (.tail _ (.head _))).1
  have gI := (N _ (.tail _ (.tail _ (.head _)))).1
  have hLI := (N _ (.tail _ (.tail _ (.head _)))).2
  have gl := (N _ (.tail _ (.tail _ (.tail _ hl)))).1
  have hT : s.TypeIs (.ref M) "map" := ⟨_, gM, rfl⟩
  unfold pyNext
  refine wpAny_bind (wpAny_attempt (wpAny_callSpecial?_slot (name := Str.ofString "__next__") hT MF.slot_map_next
    (wpAny_call_entry MF.slot_map_next hT MF.entry_map_next ?_ (MF.args_map_next_1 _))))
  show wpAny _ _ (field (.ref M) 0 >>= _) _ _ s
  refine wpAny_bind (wpAny_field gM rfl (x := .ref T) rfl ?_)
  show wpAny _ _ (seqItems? (.ref T) >>= _) _ _ s
  refine wpAny_bind (wpAny_seqItems gT rfl ?_)
  refine wpAny_bind (wpAny_arrayLoop ?_)
  rw [List.forIn_cons]
  refine wpAny_bind (wpAny_bind (wpAny_holding ?_))
  refine wpAny_nextOf_list_end (by exact hh) ⟨_, gI, hI⟩ ⟨_, gl, rfl, n, rfl⟩ (by simpa using hv) fun h₁ e hx he => ?_
  obtain ⟨oe, hoe, hce⟩ := he
  refine wpAny_bind (wpAny_isInstance (T := "StopIteration") (b := true) ⟨oe, hoe, hce⟩ isSubtype_stop ?_)
  refine wpAny_pure (hQ _ ?_ ?_)
  · exact ⟨F.ns.extBut hx (Ne.symm hLI.1), fun b o q => hx b o (fun r => by rw [r, hLI.2] at q; cases q) (F.keep b o q), F.above⟩
  · intro p hp
    have := N p (.tail _ (.tail _ (.tail _ hp)))
    exact ⟨hx _ _ (hap p hp) this.1, this.2⟩
end
end
section
theorem ne_under {rest : List (Addr × Obj)} {I : Addr} (h : ∀ p ∈ rest, p.1 < I) : ∀ p ∈ rest, p.1 ≠ I := fun p hp => Nat.ne_of_lt (h p hp)
section
variable {prog : Program} {w : World} {A : Around} {E : Value → Shared → Prop} {s : Shared} {h₀ : Heap} {L : Addr} {m : Str → Option Value}
theorem mapCall {f l : Addr} {vs : List Value} {n : Nat} {news : List (Addr × Obj)} {Q : Value → Shared → Prop} (F : Fr h₀ L s.heap m) (N : News h₀ L s.heap news) (hl : (l, listOf vs.toArray n) ∈ news)
    (h : ∀ M T I oI h', Fr h₀ L h' m → News h₀ L h' ((M, mapObj T f) :: (T, tup1 I) :: (I, oI) :: news) → IsIt oI l 0 → (∀ p ∈ news, p.1 < I) → I < T → T < M → Q (.ref M) { s with heap := h' }) :
    wpAny (model prog w) A (call (.type "map") [.ref f, .ref l]) Q E s := by
  have gl := (N _ hl).1
  refine callType_new MF.called_map (by decide) (MF.typeCall_map_2 _ _) (MF.newCall_map_2 _ _) (fun obj => PySem.F.args_object_init_3 obj _ _) MF.entry_map_new
    (meets_map_new f l vs.toArray) ⟨⟨_, gl, rfl, n, rfl⟩, ?_⟩
  have F1 : Fr h₀ L (mapH1 s.heap l) m := F.push _
  have N1 : News h₀ L (mapH1 s.heap l) _ := N.push F _
  have F2 : Fr h₀ L (mapH2 s.heap l) m := F1.push _
  have N2 : News h₀ L (mapH2 s.heap l) _ := N1.push F1 (tup1 s.heap.objs.size)
  have F3 : Fr h₀ L (mapH3 s.heap f l) m := F2.push _
  have N3 : News h₀ L (mapH3 s.heap f l) _ := N2.push F2 (mapObj (mapH1 s.heap l).objs.size f)
  have z1 : (mapH1 s.heap l).objs.size = s.heap.objs.size + 1 := Heap.size_push ..
  have z2 : (mapH2 s.heap l).objs.size = s.heap.objs.size + 2 := by rw [Heap.size_push, z1]
  refine ⟨⟨_, Heap.get?_push_size _ rfl, rfl⟩, h _ _ _ _ _ F3 N3 ⟨rfl, rfl⟩ (fun p hp => Heap.lt_size (N p hp).1) (by rw [z1]; exact Nat.lt_succ_self _) (by rw [z1, z2]; exact Nat.lt_succ_self _)⟩
theorem map_loop {M T I S l f : Addr} {n : Nat} {vs : List Value} {rest : List (Addr × Obj)} {R : Result → Shared → Prop} (hh : A.handled = none) (hc : HC prog w h₀ L m f vs A.in1.in1)
    (hap : ∀ p ∈ rest, p.1 ≠ I) (hl : (l, listOf vs.toArray n) ∈ rest) (res : Value) (hsz : vs.length ≤ sizeLine)
    (hSI : S ≠ I) (hSM : M ≠ S) (hST : T ≠ S) (hSr : ∀ p ∈ rest, p.1 ≠ S) :
    ∀ (k i : Nat) (s : Shared) (oI : Obj) (c : Nat), vs.length - i = k → i ≤ vs.length → Fr h₀ L s.heap m → IsIt oI l i →
      News h₀ L s.heap ((M, mapObj T f) :: (T, tup1 I) :: (I, oI) :: (S, listOf (vs.take i).toArray c) :: rest) →
      (∀ h' tk' c', Fr h₀ L h' m → News h₀ L h' ((S, listOf vs.toArray c') :: rest) → R (.ok (.ret res)) { s with heap := h', toks := tk' }) →
      codeAny (model prog w) A (.builtin "list.extend.loop" ⟨[.ref S, .ref M, res], []⟩) R s := by
  have hap' : ∀ o, ∀ p ∈ (S, o) :: rest, p.1 ≠ I := fun o p hp => by
    rcases List.mem_cons.mp hp with rfl | hp
    · exact hSI
    · exact hap p hp
  intro k
  induction k with
  | zero =>
    intro i s oI c hk hi F hI N hR
    refine codeAny_builtin PySem.F.entry_extend_loop ?_
    rw [Around.under_plainId PySem.F.plain_extend_loop _]
    show wpAny _ A.in1 (pyNext (.ref M) >>= _) _ _ s
    refine wpAny_bind (map_end (by exact hh) (by simp; omega) F N hI (hap' _) (.tail _ hl) fun h' F' N' => ?_)
    have e : vs.take i = vs := List.take_of_length_le (by omega)
    rw [e] at N'
    exact wpAny_pure (hR h' s.toks c F' N')
  | succ k ih =>
    intro i s oI c hk hi F hI N hR
    have hlt : i < vs.length := by omega
    refine codeAny_builtin PySem.F.entry_extend_loop ?_
    rw [Around.under_plainId PySem.F.plain_extend_loop _]
    show wpAny _ A.in1 (pyNext (.ref M) >>= _) _ _ s
    refine wpAny_bind (map_next (v := vs[i]) (by simp [hlt]) hc F N hI (hap' _) (.tail _ hl) fun h' tk' oI' F' N' hI' => ?_)
    have gS := (N' _ (.tail _ (.tail _ (.tail _ (.head _))))).1
    have hLS := (N' _ (.tail _ (.tail _ (.tail _ (.head _))))).2
    show wpAny _ A.in1 (updateSeq S (·.push vs[i]) >>= _) _ _ _
    refine wpAny_bind ?_
    refine wpAny_updateSeq gS rfl (wpAny_pure ⟨plainId_quiet PySem.F.plain_extend_loop _, ih (i + 1) _ oI' (c + 1) (by omega) hlt ?_ hI' ?_ fun h'' tk'' c' F'' N'' => hR h'' tk'' c' F'' N''⟩) ?_ ?_
    · exact F'.change (Heap.SameBut.update ..) hLS.1 hLS.2
    · have e : (listOf (vs.take i).toArray c).mapSeq (·.push vs[i]) = listOf (vs.take (i + 1)).toArray (c + 1) := by
        have e1 : (vs.take i).toArray.push vs[i] = (vs.take (i + 1)).toArray := by
          rw [List.take_add_one, List.getElem?_eq_getElem hlt]; simp
        show (⟨_, _, .seq ((vs.take i).toArray.push vs[i]) (if ((vs.take i).toArray.push vs[i]).size == (vs.take i).toArray.size then c else c + 1), _⟩ : Obj) = _
        rw [if_neg (by simp; omega), e1]
      have up : ∀ {p : Addr × Obj}, p.1 ≠ S → h'.get? p.1 = some p.2 → (h'.update S (Obj.mapSeq (·.push vs[i]))).get? p.1 = some p.2 :=
        fun hp g => (Heap.get?_update_other _ _ (Ne.symm hp)).trans g
      intro p hp
      rcases List.mem_cons.mp hp with rfl | hp
      · exact ⟨up hSM (N' _ (.head _)).1, (N' _ (.head _)).2⟩
      · rcases List.mem_cons.mp hp with rfl | hp
        · exact ⟨up hST (N' _ (.tail _ (.head _))).1, (N' _ (.tail _ (.head _))).2⟩
        · rcases List.mem_cons.mp hp with rfl | hp
          · exact ⟨up (Ne.symm hSI) (N' _ (.tail _ (.tail _ (.head _)))).1, (N' _ (.tail _ (.tail _ (.head _)))).2⟩
          · rcases List.mem_cons.mp hp with rfl | hp
            · exact ⟨(Heap.get?_update_self _ gS rfl).trans (congrArg some e), hLS⟩
            · have q := N' p (.tail _ (.tail _ (.tail _ (.tail _ hp))))
              exact ⟨up (hSr p hp) q.1, q.2⟩
    · simp; omega
    · simp; omega
theorem map_collect {M T I l f : Addr} {n : Nat} {vs : List Value} {oI : Obj} {rest : List (Addr × Obj)} {Q : List Value → Shared → Prop} (hh : A.handled = none) (hc : HC prog w h₀ L m f vs A.in1.in1) (hsz : vs.length ≤ sizeLine)
    (F : Fr h₀ L s.heap m) (N : News h₀ L s.heap ((M, mapObj T f) :: (T, tup1 I) :: (I, oI) :: rest)) (hI : IsIt oI l 0) (hap : ∀ p ∈ rest, p.1 ≠ I) (hl : (l, listOf vs.toArray n) ∈ rest)
    (hQ : ∀ h' tk', Fr h₀ L h' m → News h₀ L h' rest → Q vs { s with heap := h', toks := tk' }) :
    wpAny (model prog w) A (collect (.ref M)) Q E s := by
  have hapS : ∀ p ∈ ((M, mapObj T f) :: (T, tup1 I) :: (I, oI) :: rest), p.1 ≠ s.heap.objs.size := N.apart
  have gM := (N _ (.head _)).1
  have hT : s.TypeIs (.ref M) "map" := ⟨_, gM, rfl⟩
  unfold collect
  refine wpAny_bind (wpAny_runValue (codeAny_builtin PySem.F.entry_proto_collect ?_))
  rw [Around.under_plainId PySem.F.plain_proto_collect _]
  show wpAny _ A.in1 (newList [] >>= fun l => again (.builtin "list.__iadd__" ⟨[l, .ref M], []⟩)) _ _ s
  refine wpAny_bind (wpAny_newObj_type ?_)
  refine wpAny_pure ⟨plainId_quiet PySem.F.plain_list_iadd _, codeAny_builtin PySem.F.entry_list_iadd ?_⟩
  rw [Around.under_plainId PySem.F.plain_list_iadd _]
  have F1 := F.push { cls := .type "list", data := .seq ([] : List Value).toArray }
  have N1 := N.push F { cls := .type "list", data := .seq ([] : List Value).toArray }
  generalize eh : s.heap.push { cls := .type "list", data := .seq ([] : List Value).toArray } = h₁ at F1 N1 ⊢
  generalize eS : s.heap.objs.size = S at N1 hapS ⊢
  have hT1 : ({ s with heap := h₁ } : Shared).TypeIs (.ref M) "map" := ⟨_, (N1 _ (.tail _ (.head _))).1, rfl⟩
  have gS := (N1 _ (.head _)).1
  have hLS := (N1 _ (.head _)).2
  have hMS : M ≠ S := hapS _ (.head _)
  show wpAny _ A.in1 (Builtin.List.listExtendWith (.ref S) (.ref M) (.ref S)) _ _ _
  unfold Builtin.List.listExtendWith
  refine wpAny_bind (wpAny_typeOf hT1 ?_)
  have h1 : Builtin.List.listSameRef (.ref S) (.ref M) = false := by simp [Builtin.List.listSameRef, Ne.symm hMS]
  rw [if_neg (by rw [h1]; decide)]
  refine wpAny_bind (wpAny_pyIter_slot hT1 MF.slot_map_iter (wpAny_call_entry MF.slot_map_iter hT1 MF.entry_map_iter ?_ (MF.args_map_iter_1 _)))
  show wpAny _ _ (ret (.ref M)) _ _ _
  refine wpAny_pure ⟨_, rfl, "map", _, hT1, MF.slot_map_next.lookup, ?_⟩
  refine wpAny_bind (wpAny_holding ?_)
  unfold Builtin.List.listLengthHint
  refine wpAny_bind (wpAny_specialOf hT1 MF.map_no_len ?_)
  show wpAny _ A.in1 (specialOf (Value.ref M) (Str.ofString "__length_hint__") >>= _) _ _ _
  refine wpAny_bind (wpAny_specialOf hT1 MF.map_no_hint ?_)
  refine wpAny_pure ?_
  show wpAny _ A.in1 (rule "list.extend.makes-room" >>= fun _ => Builtin.List.listTouch (.ref S) >>= fun _ =>
    again (.builtin "list.extend.loop" ⟨[.ref S, .ref M, .ref S], []⟩)) _ _ _
  refine wpAny_bind (wpAny_rule ?_)
  refine wpAny_bind ?_
  show wpAny _ A.in1 (updateSeq S (·.push .none) >>= fun _ => updateSeq S (·.pop)) _ _ _
  refine wpAny_bind (wpAny_updateSeq gS rfl ?_)
  have g2 := Heap.get?_update_self (Obj.mapSeq (·.push Value.none)) gS rfl
  refine wpAny_updateSeq g2 rfl ?_
  have g3 := Heap.get?_update_self (Obj.mapSeq (·.pop)) g2 rfl
  have same : Heap.SameBut S h₁ ((h₁.update S (Obj.mapSeq (·.push Value.none))).update S (Obj.mapSeq (·.pop))) :=
    ⟨(Heap.SameBut.update ..).1.trans (Heap.SameBut.update ..).1, fun b hb => ((Heap.SameBut.update ..).2 b hb).trans ((Heap.SameBut.update ..).2 b hb)⟩
  have F3 := F1.change same hLS.1 hLS.2
  have N3 := News.setHead N1 hapS same g3
  have N4 : News h₀ L ((h₁.update S (Obj.mapSeq (·.push Value.none))).update S (Obj.mapSeq (·.pop))) ((M, mapObj T f) :: (T, tup1 I) :: (I, oI) :: (S, listOf (vs.take 0).toArray 2) :: rest) := by
    intro p hp
    refine N3 p ?_
    simp only [List.mem_cons] at hp ⊢
    rcases hp with h | h | h | h | h
    · exact .inr (.inl h)
    · exact .inr (.inr (.inl h))
    · exact .inr (.inr (.inr (.inl h)))
    · exact .inl h
    · exact .inr (.inr (.inr (.inr h)))
  refine wpAny_pure ⟨plainId_quiet PySem.F.plain_extend_loop _, ?_⟩
  refine map_loop (by exact hh) hc hap hl _ hsz (Ne.symm (hapS _ (.tail _ (.tail _ (.head _))))) hMS (hapS _ (.tail _ (.head _))) (fun p hp => hapS p (.tail _ (.tail _ (.tail _ hp)))) _ 0 _ oI 2 rfl (Nat.zero_le _) F3 hI N4 fun h' tk' c' F' N' => ?_
  show wpAny _ A (load S >>= _) _ _ _
  refine wpAny_bind (wpAny_load (N' _ (.head _)).1 ?_)
  exact wpAny_pure (hQ h' tk' F' fun p hp => N' p (.tail _ hp))
theorem map_code {M T I l f : Addr} {n : Nat} {vs : List Value} {oI : Obj} {rest : List (Addr × Obj)} {Q₁ : Value → Shared → Prop} (hh : A.handled = none) (hc : HC prog w h₀ L m f vs A.in1.in1.in1) (hsz : vs.length ≤ sizeLine)
    (F : Fr h₀ L s.heap m) (N : News h₀ L s.heap ((M, mapObj T f) :: (T, tup1 I) :: (I, oI) :: rest)) (hI : IsIt oI l 0) (hap : ∀ p ∈ rest, p.1 ≠ I) (hl : (l, listOf vs.toArray n) ∈ rest)
    (h : ∀ h' tk', Fr h₀ L h' m → News h₀ L h' rest → Q₁ (.ref h'.objs.size) { s with heap := h'.push { cls := .type "tuple", data := .seq vs.toArray }, toks := tk' }) :
    codeAny (model prog w) A (.call (.builtin "tuple.__new__") ⟨[.type "tuple", .ref M], []⟩) (wants Q₁ E) s := by
  refine codeAny_of_tree ?_
  show wpAny _ A.in1 (do checkBuiltinCall "tuple.__new__" ⟨[.type "tuple", .ref M], []⟩; again (.builtin "tuple.__new__" ⟨[.type "tuple", .ref M], []⟩)) _ _ s
  refine wpAny_bind (wpAny_of_eq (PySem.F.newCall_tuple_1 _) (wpAny_pure ⟨plainId_quiet PySem.F.plain_tuple_new _, codeAny_builtin PySem.F.entry_tuple_new ?_⟩))
  rw [Around.under_plainId PySem.F.plain_tuple_new _]
  have hsub := sub_tuple_self
  have hinit := init_tuple_lookup
  have hmh := madeHere_tuple
  have hTI : s.TypeIs (.ref M) "map" := ⟨_, (N _ (.head _)).1, rfl⟩
  wp_walk using wpAny_typeOf hTI, map_collect (A := A.in1) (show A.in1.handled = none from hh) hc hsz F N hI hap hl

  intro h' tk' F' N'
  show wpAny _ _ (Builtin.Tuple.tupleExact vs.toArray >>= fun v => ret v) _ _ _
  unfold Builtin.Tuple.tupleExact
  refine wpAny_bind (wpAny_newObj_type ?_ (by show vs.toArray.size ≤ sizeLine; simpa using hsz))
  refine wpAny_pure ?_
  exact h h' tk' F' N'
theorem tupleMap {M T I l f : Addr} {n : Nat} {vs : List Value} {oI : Obj} {rest : List (Addr × Obj)} {Q : Value → Shared → Prop} (hh : A.handled = none) (hc : HC prog w h₀ L m f vs A.in1.in1.in1.in1) (hsz : vs.length ≤ sizeLine)
    (F : Fr h₀ L s.heap m) (N : News h₀ L s.heap ((M, mapObj T f) :: (T, tup1 I) :: (I, oI) :: rest)) (hI : IsIt oI l 0) (hap : ∀ p ∈ rest, p.1 ≠ I) (hl : (l, listOf vs.toArray n) ∈ rest)
    (h : ∀ D h' tk', Fr h₀ L h' m → News h₀ L h' ((D, { cls := .type "tuple", data := .seq vs.toArray }) :: rest) → (∀ p ∈ rest, p.1 < D) → Q (.ref D) { s with heap := h', toks := tk' }) :
    wpAny (model prog w) A (call (.type "tuple") [.ref M]) Q E s := by
  refine callType_codes (Q₁ := fun obj s₁ => s₁.TypeIs obj "tuple" ∧ Q obj s₁) PySem.F.called_tuple (PySem.F.typeCall_tuple_1 _) PySem.F.entry_object_init
    (map_code (A := A.in1) (by exact hh) hc hsz F N hI hap hl fun h' tk' F' N' => ⟨⟨_, Heap.get?_push_size _ rfl, rfl⟩, h _ _ _ (F'.push _) (N'.push F' _) fun p hp => Heap.lt_size (N' p hp).1⟩) fun obj s₁ h₁ => ?_
  exact ⟨h₁.1, PySem.F.args_object_init_2 obj _, object_init_meets PySem.F.called_tuple.init.lookup PySem.F.called_tuple.made (by decide) prog w A.in1 _ s₁ ⟨h₁.1, rfl, h₁.2⟩⟩
end
end
section
open PySem.F in
theorem wpAny_pyHash_true {prog : Program} {w : World} {A : Around} {E : Value → Shared → Prop} {s : Shared} {Q : Int → Shared → Prop} (h : Q 1 { s with toks := s.toks + 1 }) :
    wpAny (model prog w) A (pyHash (.bool true)) Q E s := by
  unfold pyHash pyHashByItsType
  have hT : s.TypeIs (.bool true) "bool" := rfl
  have hv : [Value.bool true].any Value.onHeap = false := rfl
  refine wpAny_bind ?_
  rw [cRoomFor, if_neg (by rw [hv]; exact Bool.false_ne_true)]; refine wpAny_pure ?_
  refine wpAny_bind (wpAny_specialOf hT slot_bool_hash.lookup ?_)
  show wpAny _ _ (if (some (Value.builtin "int.__hash__") == some Value.none) = true then _ else _) Q E s
  rw [if_neg (by rw [beq_builtin_none]; exact Bool.false_ne_true)]
  refine wpAny_bind (wpAny_specialOf hT slot_bool_hash.lookup ?_)
  show wpAny _ _ (callSpecialIfBoundUnlessNone? (.bool true) "__hash__" _ >>= _) Q E s
  refine wpAny_bind (wpAny_callSpecialIfBoundUnlessNone?_slot hT slot_bool_hash
    (wpAny_call_entry slot_bool_hash hT PySem.F.entry_int_hash ?_ (args_int_hash _)))
  show wpAny _ _ (do ret (← mkInt (1 : Int))) _ _ s
  refine wpAny_ret_mkInt ?_
  show wpAny _ _ (if (decide (-(2 : Int) ^ 63 ≤ 1) && decide ((1 : Int) < 2 ^ 63)) = true then _ else _) Q E _
  rw [if_pos (by decide)]
  exact wpAny_pure h
noncomputable def T1 (led : Bool) : SetTable := (layNew (.fresh 0 0 led) #[] 1 (.bool true)).2.1
noncomputable def setOne (led : Bool) : Obj := { cls := .type "set", data := .set #[(1, .bool true)] 1 (T1 led) }
noncomputable def setNil (led : Bool) : Obj := { cls := .type "set", data := .set #[] 0 (.fresh 0 0 led) }
theorem T1_eq (led : Bool) : layNew (.fresh 0 0 led) #[] 1 (.bool true) = (#[(1, .bool true)], T1 led, false, false) := by cases led <;> rfl
theorem T1_place (led : Bool) : (T1 led).place = #[1] := by cases led <;> rfl
theorem T1_led (led : Bool) : (T1 led).led = led := by cases led <;> rfl
theorem T1_plain (led : Bool) : (T1 led).plain = true := by cases led <;> rfl
theorem T1_full (led : Bool) : (T1 led).tooFull = false := by cases led <;> rfl
theorem T1_fits (led : Bool) : (T1 led).fits 1 = true := by cases led <;> rfl

section
variable {prog : Program} {w : World} {A : Around} {E : Value → Shared → Prop} {s : Shared}
theorem eqBool_true {Q : Bool → Shared → Prop} (h : Q true s) : wpAny (model prog w) A (eqBool (.bool true) (.bool true)) Q E s := by
  unfold eqBool
  refine wpAny_holding ?_
  show wpAny _ _ (if (Value.bool true == Value.bool true) = true then _ else _) Q E s
  rw [if_pos (show (Value.bool true == Value.bool true) = true by decide)]
  exact wpAny_bind (wpAny_rule (wpAny_pure h))
theorem add_pre {a : Addr} {Q : Value → Shared → Prop} (hT : s.TypeIs (.ref a) "set") (h : wpAny (model prog w) A.in1 (setAddHashedIn a (.bool true) 1 100000) (fun _ s' => Q .none s') E { s with toks := s.toks + 1 }) :
    wpAny (model prog w) A (call (.builtin "set.add") [.ref a, .bool true]) Q E s := by
  refine wpAny_call_entry PySem.F.slot_set_add hT PySem.F.entry_set_add ?_ (PySem.F.args_set_add_2 _ _)
  unfold Builtin.«set.add» Builtin.Frozenset.oneOther
  simp only [List.isEmpty_nil, bind_assoc]
  unfold Builtin.Frozenset.addrOf setAdd
  refine wpAny_bind (wpAny_pure ?_)
  try dsimp only
  refine wpAny_bind (wpAny_pure ?_)
  try dsimp only
  refine wpAny_bind ?_
  refine wpAny_holding ?_
  refine wpAny_bind (wpAny_pyHash_true ?_)
  unfold setAddHashed
  refine wpAny_holding (wpAny_mono h (fun _ s' hq => ?_) fun _ _ e => e)
  show wpAny _ _ (ret Value.none) _ _ _
  exact wpAny_pure ⟨_, rfl, hq⟩
theorem add_first {a : Addr} {led : Bool} {Q : Value → Shared → Prop} (ho : s.heap.get? a = some (setNil led))
    (h : ∀ h', h'.get? a = some (setOne led) → Heap.SameBut a s.heap h' → Q .none { s with heap := h', toks := s.toks + 1 }) :
    wpAny (model prog w) A (call (.builtin "set.add") [.ref a, .bool true]) Q E s := by
  refine add_pre ⟨_, ho, rfl⟩ ?_
  unfold setAddHashedIn
  refine wpAny_bind (wpAny_setState_of ho rfl (by cases led <;> rfl) ?_)
  dsimp only
  rw [if_pos (show byScan (.bool true) #[] = true by decide +kernel)]
  unfold setAddByScan
  refine wpAny_bind ?_
  refine wpAny_bind (wpAny_rule ?_)
  show wpAny _ _ (setScanFrom a (.bool true) 1 true [] 0 >>= _) _ _ _
  unfold setScanFrom
  refine wpAny_bind (wpAny_pure ?_)
  dsimp only
  rw [T1_eq]
  dsimp only
  refine wpAny_bind (wpAny_pure ?_)
  rw [if_pos (T1_plain led)]
  refine wpAny_bind (wpAny_pure ?_)
  rw [if_pos rfl]
  refine wpAny_bind (wpAny_storeSet_of ho rfl ?_ (fits_of_scanBound (by decide)))
  rw [if_neg (by rw [T1_full]; decide)]
  refine wpAny_pure ?_
  refine wpAny_pure (h _ ?_ (Heap.SameBut.update ..))
  have hg := Heap.get?_update_self (Obj.putSet #[(1, Value.bool true)] (T1 led)) ho (by rw [putSet_of _ _ (rfl : (setNil led).data = _)]; rfl)
  rw [putSet_of _ _ (rfl : (setNil led).data = _)] at hg
  exact hg
theorem add_second {a : Addr} {led : Bool} {Q : Value → Shared → Prop} (ho : s.heap.get? a = some (setOne led))
    (h : Q .none { s with toks := s.toks + 1 }) :
    wpAny (model prog w) A (call (.builtin "set.add") [.ref a, .bool true]) Q E s := by
  refine add_pre ⟨_, ho, rfl⟩ ?_
  unfold setAddHashedIn
  refine wpAny_bind (wpAny_setState_of ho rfl (T1_fits led) ?_)
  dsimp only
  rw [if_pos (show byScan (.bool true) #[(1, .bool true)] = true by decide +kernel)]
  unfold setAddByScan
  refine wpAny_bind ?_
  refine wpAny_bind (wpAny_rule ?_)
  show wpAny _ _ (setScanFrom a (.bool true) 1 true [(1, .bool true)] 0 >>= _) _ _ _
  unfold setScanFrom
  refine wpAny_bind ?_
  rw [if_pos (show ((1 : Int) == 1) = true by decide)]
  refine wpAny_bind (wpAny_setEpoch_of ho rfl (T1_fits led) ?_)
  refine wpAny_bind (eqBool_true ?_)
  rw [if_pos (by decide)]
  exact wpAny_pure (wpAny_pure (wpAny_pure h))
end
namespace MF
theorem owner_set_iterator : Manifest.owners.lookup (String.ofList "rotareti_tes".toList.reverse) = some Manifest.sig_set_iterator := by kernel_rfl
theorem slot_setit_next : Slot "set_iterator" "__next__" "set_iterator.__next__" :=
  .of (owner := "set_iterator") (n := "__next__") (by rw [typeLookup_type, builtinLookup_eq_fast]; kernel_rfl) (by decide +kernel) (by decide +kernel) (by decide +kernel)
    (by first | exact .inl (by decide +kernel) | exact .inr (by decide +kernel)) (by rw [isSubtype_type]; kernel_rfl)
theorem args_setit_next_1 (a : Value) : argsOk "set_iterator.__next__" ⟨[a], []⟩ := by
  unfold argsOk; kernel_rfl
theorem entry_setit_next : entryFor table "set_iterator.__next__" = some Builtin.«set_iterator.__next__» := entryFor_of_tree (by kernel_rfl)
end MF
end
section
abbrev sItObj (a : Addr) (sl i : Int) : Obj := { cls := .type "set_iterator", data := .fields #[rawInt sl, rawInt i, .ref a, rawInt 1, rawInt 1] }
namespace MF
theorem entry_set_iter : entryFor table "set.__iter__" = some Builtin.«frozenset.__iter__» :=
  entryFor_alias (id' := "frozenset.__iter__") (by kernel_rfl) (by first | rfl | decide +kernel | (unfold String.splitOn; simp +decide [String.splitOnAux])) (by decide +kernel) (by kernel_rfl)
end MF
noncomputable def byT (w : World) : Bool := w.params.followText "set-order"
section
variable {prog : Program} {w : World} {A : Around} {E : Value → Shared → Prop} {s : Shared}
theorem sbt {Q : Bool → Shared → Prop} (h : Q (byT w) s) : wpAny (model prog w) A setsByText Q E s := by
  unfold setsByText
  exact wpAny_bind (wpAny_askSetting (wpAny_pure h))
theorem newSet_nil {Q : Value → Shared → Prop} (h : Q (.ref s.heap.objs.size) { s with heap := s.heap.push (setNil (!byT w)) }) :
    wpAny (model prog w) A (newSet (.type "set")) Q E s := by
  unfold newSet
  refine wpAny_bind (sbt ?_)
  dsimp only
  simp only [newObj]
  exact wpAny_bind (wpAny_alloc (wpAny_pure h))
theorem pyIter_one {a : Addr} {led : Bool} {Q : Value → Shared → Prop} (ho : s.heap.get? a = some (setOne led))
    (h : Q (.ref s.heap.objs.size) { s with heap := s.heap.push (sItObj a 0 0) }) :
    wpAny (model prog w) A (pyIter (.ref a)) Q E s := by
  have hT : s.TypeIs (.ref a) "set" := ⟨_, ho, rfl⟩
  refine wpAny_pyIter_slot hT PySem.F.slot_set_iter (wpAny_call_entry PySem.F.slot_set_iter hT MF.entry_set_iter ?_ (PySem.F.args_set_iter_1 _))
  show wpAny _ _ (Builtin.Frozenset.sizeOf a >>= _) _ _ s
  unfold Builtin.Frozenset.sizeOf
  refine wpAny_bind (wpAny_bind (wpAny_setEntries_of ho rfl (T1_fits led) (wpAny_pure ?_)))
  show wpAny _ _ (setDrawn a >>= _) _ _ s
  unfold setDrawn
  refine wpAny_bind (wpAny_bind (wpAny_setState_of ho rfl (T1_fits led) ?_))
  dsimp only
  refine wpAny_bind (sbt (wpAny_pure ?_))
  rw [if_neg (by rw [Bool.and_eq_true]; exact fun q => absurd q.2 (by cases led <;> decide))]
  refine wpAny_bind (wpAny_pure ?_)
  refine wpAny_bind (wpAny_setEpoch_of ho rfl (T1_fits led) ?_)
  refine wpAny_bind (wpAny_newObj_type ?_)
  exact wpAny_pure ⟨_, rfl, "set_iterator", _, ⟨_, Heap.get?_push_size _ rfl, rfl⟩, MF.slot_setit_next.lookup, h⟩
theorem pickOrder_one {α : Type} (nx : Nat → Nat) (x : α) : pickOrder nx #[x] = #[x] := by
  unfold pickOrder
  show pickOrder.go nx 1 0 [x] #[] = _
  unfold pickOrder.go
  simp [Nat.mod_one]
  unfold pickOrder.go
  rfl
theorem setWalk_one {a : Addr} {led : Bool} {Q : Array (Int × Value) → Shared → Prop} (ho : s.heap.get? a = some (setOne led)) (hb : byT w = true) (h : Q #[(1, .bool true)] s) :
    wpAny (model prog w) A (setWalk a) Q E s := by
  unfold setWalk
  refine wpAny_bind (wpAny_setState_of ho rfl (T1_fits led) ?_)
  dsimp only
  refine wpAny_bind (sbt ?_)
  rw [hb, if_pos rfl]
  refine wpAny_bind (wpAny_askSetting ?_)
  refine wpAny_pure ?_
  rw [pickOrder_one]
  exact h
noncomputable def slot2 (w : World) : Nat := if byT w = true then 0 else 2
theorem T1_led_true : ¬ ((!(T1 true).led && !(#[((1 : Int), Value.bool true)] : Array (Int × Value)).isEmpty) = true) := by decide +kernel
theorem T1_drawn : ¬ ((!(T1 true).plain && decide ((#[((1 : Int), Value.bool true)] : Array (Int × Value)).size > 1)) = true) := by decide +kernel
theorem setNext_first {a : Addr} {Q : Option (Value × Nat) → Shared → Prop} (ho : s.heap.get? a = some (setOne (!byT w))) (h : Q (some (.bool true, slot2 w)) s) :
    wpAny (model prog w) A (setNext a 0 0 1) Q E s := by
  unfold setNext
  refine wpAny_bind (wpAny_setState_of ho rfl (T1_fits _) ?_)
  dsimp only
  refine wpAny_bind (sbt ?_)
  unfold slot2 at h
  cases hb : byT w with
  | true =>
    rw [hb, if_pos rfl] at h
    rw [if_pos rfl, if_neg (by decide)]
    refine wpAny_bind (setWalk_one (by rw [hb] at ho; exact ho) hb (wpAny_pure ?_))
    exact h
  | false =>
    rw [hb, if_neg (by decide)] at h
    rw [if_neg (by decide), if_neg (by decide +kernel)]
    refine wpAny_bind ?_
    show wpAny _ _ (if (!(T1 true).led && !(#[((1 : Int), Value.bool true)] : Array (Int × Value)).isEmpty) = true then _ else _) _ _ _
    rw [if_neg T1_led_true]
    exact wpAny_pure (wpAny_pure h)
theorem setNext_second {a : Addr} {Q : Option (Value × Nat) → Shared → Prop} (ho : s.heap.get? a = some (setOne (!byT w))) (h : Q none s) :
    wpAny (model prog w) A (setNext a (slot2 w) 1 1) Q E s := by
  unfold setNext
  refine wpAny_bind (wpAny_setState_of ho rfl (T1_fits _) ?_)
  dsimp only
  refine wpAny_bind (sbt ?_)
  unfold slot2
  cases hb : byT w with
  | true =>
    rw [if_pos rfl, if_neg (by decide)]
    refine wpAny_bind (setWalk_one (by rw [hb] at ho; exact ho) hb (wpAny_pure ?_))
    exact h
  | false =>
    rw [if_neg (by decide), if_neg (by decide +kernel)]
    refine wpAny_bind ?_
    show wpAny _ _ (if (!(T1 true).led && !(#[((1 : Int), Value.bool true)] : Array (Int × Value)).isEmpty) = true then _ else _) _ _ _
    rw [if_neg T1_led_true]
    exact wpAny_pure (wpAny_pure h)
theorem setit_next1 {a I : Addr} {Q : Option Value → Shared → Prop} (ha : s.heap.get? a = some (setOne (!byT w))) (hI : s.heap.get? I = some (sItObj a 0 0)) 
    (h : ∀ h', h'.get? I = some (sItObj a (slot2 w) 1) → Heap.SameBut I s.heap h' → Q (some (.bool true)) { s with heap := h' }) :
    wpAny (model prog w) A (pyNext (.ref I)) Q E s := by
  have hT : s.TypeIs (.ref I) "set_iterator" := ⟨_, hI, rfl⟩
  unfold pyNext
  refine wpAny_bind (wpAny_attempt (wpAny_callSpecial?_slot (name := Str.ofString "__next__") hT MF.slot_setit_next
    (wpAny_call_entry MF.slot_setit_next hT MF.entry_setit_next ?_ (MF.args_setit_next_1 _))))
  show wpAny _ _ (fieldsOf (.ref I) >>= _) _ _ s
  refine wpAny_bind (wpAny_fieldsOf hI rfl ?_)
  show wpAny _ _ (setEntries a >>= _) _ _ s
  refine wpAny_bind (wpAny_setEntries_of ha rfl (T1_fits _) ?_)
  rw [if_neg (by decide)]
  show wpAny _ _ (setNext a 0 0 1 >>= _) _ _ s
  refine wpAny_bind (setNext_first ha ?_)
  dsimp only
  refine wpAny_bind (wpAny_setField_rec hI (by simp) fun h1 g1 s1 => ?_)
  refine wpAny_bind (wpAny_setField_rec g1 (by simp) fun h2 g2 s2 => ?_)
  refine wpAny_pure ⟨_, rfl, wpAny_pure (h h2 ?_ ⟨s2.1.trans s1.1, fun b hb => (s2.2 b hb).trans (s1.2 b hb)⟩)⟩
  rw [g2]
  simp
theorem setit_next2 {a I : Addr} {Q : Option Value → Shared → Prop} (hh : A.handled = none) (ha : s.heap.get? a = some (setOne (!byT w))) (hI : s.heap.get? I = some (sItObj a (slot2 w) 1)) 
    (h : ∀ h', Heap.ExtBut I s.heap h' → Q none { s with heap := h' }) :
    wpAny (model prog w) A (pyNext (.ref I)) Q E s := by
  have hT : s.TypeIs (.ref I) "set_iterator" := ⟨_, hI, rfl⟩
  unfold pyNext
  refine wpAny_bind (wpAny_attempt (wpAny_callSpecial?_slot (name := Str.ofString "__next__") hT MF.slot_setit_next
    (wpAny_call_entry MF.slot_setit_next hT MF.entry_setit_next ?_ (MF.args_setit_next_1 _))))
  show wpAny _ _ (fieldsOf (.ref I) >>= _) _ _ s
  refine wpAny_bind (wpAny_fieldsOf hI rfl ?_)
  show wpAny _ _ (setEntries a >>= _) _ _ s
  refine wpAny_bind (wpAny_setEntries_of ha rfl (T1_fits _) ?_)
  rw [if_neg (by decide)]
  show wpAny _ _ (setNext a (slot2 w : Int).toNat 1 1 >>= _) _ _ s
  rw [Int.toNat_natCast]
  refine wpAny_bind (setNext_second ha ?_)
  dsimp only
  refine wpAny_bind (wpAny_setField hI rfl (by simp) ?_)
  show wpAny _ _ (newExc (.type "StopIteration") [] >>= _) _ _ _
  refine wpAny_bind ?_
  simp only [newExc, newTuple]
  refine wpAny_bind (wpAny_newObj_type ?_ (by size_fits))
  refine wpAny_bind (m := firstArgMember _ _) (wpAny_of_eq (a := Value.none) (by first | rfl | (simp only [firstArgMember]; rfl)) ?_)
  refine wpAny_newObj_type ?_ (by size_fits)
  simp only [raiseNew]
  refine wpAny_bind (wpAny_handled ?_)
  first | rw [show A.in1.handled = none from hh] | rw [hh]
  refine wpAny_bind (wpAny_pure (wpAny_throw ?_))
  refine wpAny_bind (wpAny_isInstance (T := "StopIteration") (b := true) ⟨_, Heap.get?_push_size _ rfl, rfl⟩ isSubtype_stop ?_)
  exact wpAny_pure (h _ (((Heap.SameBut.update ..).extBut.push _).push _))
end
end
section
open PyProof.Rows.LCg
section
variable {prog : Program} {w : World} {A : Around} {E : Value → Shared → Prop} {s : Shared} {h₀ : Heap} {L : Addr} {m : Str → Option Value} {env : Env} {news : List (Addr × Obj)}
theorem unpack_set {t : Expr} {k : Nat} {pos : Pos} {a : Addr} {Q : Unit → Shared → Prop} (hh : A.handled = none) (hns : assignEach [t] env = [(false, assign t env)]) (F : Fr h₀ L s.heap m) (N : News h₀ L s.heap news) (hm : (a, setOne (!byT w)) ∈ news)
    (h : ∀ h', Fr h₀ L h' m → News h₀ L h' news → wpAny (model prog w) A (assign t env (.bool true)) Q E { s with heap := h' }) :
    wpAny (model prog w) A (assign (.Tuple [t] k pos) env (.ref a)) Q E s := by
  have ha := (N _ hm).1
  have hT : s.TypeIs (.ref a) "set" := ⟨_, ha, rfl⟩
  have halt : a < s.heap.objs.size := Heap.lt_size ha
  rw [arm_assign_Tuple]
  refine wpAny_bind (wpAny_standAt ?_)
  rw [hns]
  unfold unpack
  refine wpAny_bind (wpAny_holding ?_)
  show wpAny _ _ (unpackItems (.ref a) 1 none) _ _ _
  unfold unpackItems
  refine wpAny_bind ?_
  unfold notIterableAtAll
  refine wpAny_bind (wpAny_specialOf hT PySem.F.slot_set_iter.lookup ?_)
  refine wpAny_pure ?_
  simp only [Bool.false_eq_true, if_false]
  refine wpAny_bind (wpAny_holding (pyIter_one ha ?_))
  have ha1 : (s.heap.push (sItObj a 0 0)).get? a = some (setOne (!byT w)) := Heap.get?_push_of_some _ ha
  refine wpAny_bind (wpAny_holding ?_)
  unfold draw
  refine wpAny_bind (setit_next1 ha1 (Heap.get?_push_size _ rfl) fun h2 g2 s2 => ?_)
  dsimp only
  refine wpAny_bind (wpAny_holding ?_)
  unfold draw
  refine wpAny_pure (wpAny_pure ?_)
  rw [if_neg (by simp)]
  have hne : a ≠ s.heap.objs.size := Nat.ne_of_lt halt
  have ha2 : h2.get? a = some (setOne (!byT w)) := (s2.2 a hne).trans ha1
  refine wpAny_bind (wpAny_holding (setit_next2 hh ha2 g2 fun h3 x3 => ?_))
  rw [if_neg (by simp)]
  refine wpAny_pure ?_
  have old : Heap.ExtBut s.heap.objs.size s.heap h3 := fun b o hb e => x3 b o hb ((s2.2 b hb).trans (Heap.get?_push_of_some _ e))
  unfold assignInOrder
  refine wpAny_bind (wpAny_holding (wpAny_mono (h h3 (F.extBut old (Nat.le_refl _)) (N.extBut old (Nat.le_refl _))) (fun _ s' hq => ?_) fun _ _ e => e))
  unfold assignInOrder
  exact wpAny_pure hq
theorem codeAny_compStart_set {elt target iter ifs rest scope pos it acc env} {R : Result → Shared → Prop}
    (h0 : codeAny (model prog w) A (.compLoop (.SetComp elt (⟨target, iter, ifs, 0⟩ :: rest) scope pos) 0 it acc env) R s)
    (h : wpAny (model prog w) A (pyIter it) (fun it' s' => codeAny (model prog w) A (.compLoop (.SetComp elt (⟨target, iter, ifs, 0⟩ :: rest) scope pos) 0 it' acc env) R s')
      (notedBy (model prog w) A env fun x s' => R (.error x) s') s) :
    codeAny (model prog w) A (.compStart (.SetComp elt (⟨target, iter, ifs, 0⟩ :: rest) scope pos) 0 it acc env) R s := by
  refine codeAny_of_tree ?_
  show wpAny _ A ((compStart (.SetComp elt (⟨target, iter, ifs, 0⟩ :: rest) scope pos) 0 it acc env).onRaise (fun x => do noteFrame x env; standAt theWindowsPlace)) _ _ s
  refine wpAny_notedAt ?_
  unfold compStart
  show wpAny _ A (ask >>= _) _ _ s
  refine wpAny_bind (wpAny_askSetting (wpAny_ite ?_))
  split
  · first
      | exact wpAny_bind (wpAny_pure (wpAny_pure (And.intro rfl h0)))
      | exact wpAny_pure (And.intro rfl h0)
  · first
      | exact wpAny_bind (wpAny_rule (wpAny_bind (wpAny_standAt (wpAny_bind (wpAny_mono h (fun it' s' h' => wpAny_pure (And.intro rfl h')) fun _ _ x => x)))))
      | (refine wpAny_bind (wpAny_rule ?_); show wpAny _ _ (standAt iter.pos >>= _) _ _ s; exact wpAny_bind (wpAny_standAt (wpAny_bind (wpAny_mono h (fun it' s' h' => wpAny_pure (And.intro rfl h')) fun _ _ x => x))))
theorem compTurn_set (elt target iter : Expr) (scope : Scope) (pos : Pos) (it acc : Value) (env : Env) :
    compTurn (.SetComp elt [⟨target, iter, [], 0⟩] scope pos) 0 it acc env = (standAt iter.pos >>= fun _ => pyNext it >>= fun r => match r with
      | none => pure (.done .next)
      | some v => letOwnedTupleGo target it v >>= fun _ => assign target env v >>= fun _ =>
        (eval elt env >>= fun x => standAt elt.pos >>= fun _ => call (.builtin "set.add") [acc, x] >>= fun _ => pure ()) >>= fun _ =>
          again (.compLoop (.SetComp elt [⟨target, iter, [], 0⟩] scope pos) 0 it acc env)) := by rfl
theorem codeAny_compLoop_set {elt target iter : Expr} {scope : Scope} {pos : Pos} {it acc : Value} {env : Env} {R : Result → Shared → Prop} (I : Nat → Shared → Prop)
    (turn : ∀ n s, I n s → wpAny (model prog w) A (pyNext it) (fun r s₁ => match r with
      | none => R (.ok .next) s₁
      | some v => wpAny (model prog w) A (assign target env v) (fun _ s₂ => wpAny (model prog w) A (eval elt env) (fun x s₃ =>
          wpAny (model prog w) A (call (.builtin "set.add") [acc, x]) (fun _ s₄ => ∃ m, m < n ∧ I m s₄) (notedBy (model prog w) A env fun e s' => R (.error e) s') s₃)
          (notedBy (model prog w) A env fun e s' => R (.error e) s') s₂) (notedBy (model prog w) A env fun e s' => R (.error e) s') s₁) (notedBy (model prog w) A env fun e s' => R (.error e) s') s)
    (n : Nat) (h : I n s) (ht : ∀ v, letOwnedTupleGo target it v = pure () := by intro _; rfl) :
    codeAny (model prog w) A (.compLoop (.SetComp elt [⟨target, iter, [], 0⟩] scope pos) 0 it acc env) R s := by
  refine codeAny_loop rfl I (fun n s hI => ?_) n h
  show wpAny _ _ ((compTurn (.SetComp elt [⟨target, iter, [], 0⟩] scope pos) 0 it acc env).onRaise (fun x => do noteFrame x env; theTreesLotGoes x)) _ _ s
  refine wpAny_noted ?_
  rw [compTurn_set]
  refine wpAny_bind (wpAny_standAt (wpAny_bind (wpAny_mono (turn n s hI) (fun r s₁ h₁ => ?_) fun _ _ h' => h')))
  cases r with
  | none => exact wpAny_pure h₁
  | some v =>
    refine wpAny_bind (wpAny_of_eq (ht v) ?_)
    exact wpAny_bind (wpAny_mono h₁ (fun _ s₂ h₂ => wpAny_bind (wpAny_bind (wpAny_mono h₂ (fun x s₃ h₃ => wpAny_bind (wpAny_standAt (wpAny_bind (wpAny_mono h₃
      (fun _ s₄ h₄ => wpAny_pure (wpAny_pure ⟨rfl, h₄⟩)) fun _ _ h' => h')))) fun _ _ h' => h'))) fun _ _ h' => h')
theorem two_at {a b : Value} : ∀ {i : Nat}, i < 2 → ∃ v, #[a, b][i]? = some v ∧ (v = a ∨ v = b)
  | 0, _ => ⟨a, rfl, .inl rfl⟩
  | 1, _ => ⟨b, rfl, .inr rfl⟩
noncomputable def SrcS (prog : Program) (w : World) (A : Around) (h₀ : Heap) (L : Addr) (m : Str → Option Value) (env : Env) (elt : Expr) (x : Str) (scope : Scope) (cl : List (Str × Addr)) (Q : Value → Shared → Prop) (xv : Value) (s₁ : Shared) : Prop :=
  ∃ ax a b news, xv = .ref ax ∧ A.handled = none ∧ Fr h₀ L s₁.heap m ∧ News h₀ L s₁.heap news ∧ (ax, ({ cls := .type "tuple", data := .seq #[a, b] } : Obj)) ∈ news ∧
      (∀ v I oI C oC D oD m₂ h tk (E' : Value → Shared → Prop), v = a ∨ v = b → NsObj oC m₂ → m₂ x = some v → Fr h₀ L h m → News h₀ L h ((I, oI) :: (C, oC) :: (D, oD) :: news) → Off3 I C D news → ((@Ne Nat I C) ∧ (@Ne Nat I D) ∧ (@Ne Nat C D)) →
        wpAny (model prog w) A (eval elt (compEnvC scope cl C env)) (CompEnd h₀ L m { s₁ with heap := h, toks := tk } I oI C oC D oD (fun nw => nw = news) (fun y _ => y = .bool true)) E' { s₁ with heap := h, toks := tk }) ∧
      ∀ D h tk, Fr h₀ L h m → News h₀ L h ((D, setOne (!byT w)) :: news) → Off1 D news → Q (.ref D) { s₁ with heap := h, toks := tk }
theorem SrcS.intro {elt : Expr} {x : Str} {scope : Scope} {cl : List (Str × Addr)} {Q : Value → Shared → Prop} {ax : Addr} {a b : Value} {s₁ : Shared}
    (hh : A.handled = none) (F : Fr h₀ L s₁.heap m) (N : News h₀ L s₁.heap news) (hm : (ax, ({ cls := .type "tuple", data := .seq #[a, b] } : Obj)) ∈ news)
    (ha : ∀ I oI C oC D oD m₂ h tk (E' : Value → Shared → Prop), NsObj oC m₂ → m₂ x = some a → Fr h₀ L h m → News h₀ L h ((I, oI) :: (C, oC) :: (D, oD) :: news) → Off3 I C D news → ((@Ne Nat I C) ∧ (@Ne Nat I D) ∧ (@Ne Nat C D)) →
        wpAny (model prog w) A (eval elt (compEnvC scope cl C env)) (CompEnd h₀ L m { s₁ with heap := h, toks := tk } I oI C oC D oD (fun nw => nw = news) (fun y _ => y = .bool true)) E' { s₁ with heap := h, toks := tk })
    (hb : ∀ I oI C oC D oD m₂ h tk (E' : Value → Shared → Prop), NsObj oC m₂ → m₂ x = some b → Fr h₀ L h m → News h₀ L h ((I, oI) :: (C, oC) :: (D, oD) :: news) → Off3 I C D news → ((@Ne Nat I C) ∧ (@Ne Nat I D) ∧ (@Ne Nat C D)) →
        wpAny (model prog w) A (eval elt (compEnvC scope cl C env)) (CompEnd h₀ L m { s₁ with heap := h, toks := tk } I oI C oC D oD (fun nw => nw = news) (fun y _ => y = .bool true)) E' { s₁ with heap := h, toks := tk })
    (fin : ∀ D h tk, Fr h₀ L h m → News h₀ L h ((D, setOne (!byT w)) :: news) → Off1 D news → Q (.ref D) { s₁ with heap := h, toks := tk }) :
    SrcS prog w A h₀ L m env elt x scope cl Q (.ref ax) s₁ :=
  ⟨ax, a, b, news, rfl, hh, F, N, hm, fun v I oI C oC D oD m₂ h tk E' hv h1 h2 h3 h4 h5 h6 => by
    rcases hv with rfl | rfl
    · exact ha I oI C oC D oD m₂ h tk E' h1 h2 h3 h4 h5 h6
    · exact hb I oI C oC D oD m₂ h tk E' h1 h2 h3 h4 h5 h6, fin⟩
/-- the set comprehension over a tuple of two, each time the value true -/
theorem SetComp_T {elt iter : Expr} {x : Str} {px : Pos} {scope : Scope} {cl : List (Str × Addr)} {pos : Pos} {Q : Value → Shared → Prop} (F₀ : Fr h₀ L s.heap m)
    (hclos : closureFor scope env = pure cl) (hcell : ∀ y ∈ scope.names, y.2 ≠ .cell) (hkind : scope.kind = .function)
    (hnames : ∀ y ∈ scope.names, y.2 = .local → scope.names.lookup y.1 = some .local) (hx : scope.names.lookup x = some .local)
    (h : wpAny (model prog w) A (eval iter env) (SrcS prog w A h₀ L m env elt x scope cl Q) E s)
    (hs : ∀ x, foldedSetIterable iter env x = pure x := by intro _; rfl) :
    wpAny (model prog w) A (eval (.SetComp elt [⟨.Name x px, iter, [], 0⟩] scope pos) env) Q E s := by
  have _ := F₀
  rw [arm_eval_SetComp]
  refine wpAny_comprehension_free (use := none) rfl hs hclos hkind hnames (wpAny_mono h (fun xv s₁ h₁ => ?_) fun _ _ e => e)
  obtain ⟨ax, a, b, news, rfl, hh, F, N, hm, helt, fin⟩ := h₁
  have ht : s₁.heap.IsTuple ax #[a, b] := ⟨_, (N _ hm).1, rfl, _, rfl⟩
  have hlt : ax < s₁.heap.objs.size := Heap.lt_size (N _ hm).1
  refine wpAny_pyIter_tuple ht ?_
  generalize hH1 : s₁.heap.push { cls := .type "tuple_iterator", data := .fields #[.ref ax, .int 0 0] } = H1
  have up1 : ∀ b o, s₁.heap.get? b = some o → H1.get? b = some o := fun b o e => hH1 ▸ Heap.get?_push_of_some _ e
  have sz1 : H1.objs.size = s₁.heap.objs.size + 1 := by rw [← hH1, Heap.size_push]
  have gI1 : H1.IsTupleIter s₁.heap.objs.size ax 0 := by rw [← hH1]; exact ⟨_, Heap.get?_push_size _ rfl, rfl, rfl⟩
  refine newSet_nil ?_
  dsimp only
  generalize hH2 : H1.push (setNil (!byT w)) = H2
  have up2 : ∀ b o, H1.get? b = some o → H2.get? b = some o := fun b o e => hH2 ▸ Heap.get?_push_of_some _ e
  have sz2 : H2.objs.size = s₁.heap.objs.size + 2 := by rw [← hH2, Heap.size_push, sz1]
  have gD2 : H2.get? H1.objs.size = some (setNil (!byT w)) := by rw [← hH2]; exact Heap.get?_push_size _ rfl
  refine wpAny_newFunctionEnv hcell (by intro y hy; simp at hy) (fun h₁ hns₁ hsb₁ => ?_) hkind
  dsimp only at hns₁ hsb₁ ⊢
  have hDC : H1.objs.size ≠ H2.objs.size := by rw [sz1, sz2]; exact Nat.ne_of_lt (Nat.lt_succ_self _)
  have hIC : s₁.heap.objs.size ≠ H2.objs.size := by rw [sz2]; exact Nat.ne_of_lt (Nat.lt_succ_of_lt (Nat.lt_succ_self _))
  have hID : s₁.heap.objs.size ≠ H1.objs.size := by rw [sz1]; exact Nat.ne_of_lt (Nat.lt_succ_self _)
  have below : ∀ c, c < s₁.heap.objs.size → c ≠ s₁.heap.objs.size ∧ c ≠ H2.objs.size ∧ c ≠ H1.objs.size := fun c hc =>
    ⟨Nat.ne_of_lt hc, by rw [sz2]; exact Nat.ne_of_lt (Nat.lt_succ_of_lt (Nat.lt_succ_of_lt hc)), by rw [sz1]; exact Nat.ne_of_lt (Nat.lt_succ_of_lt hc)⟩
  have up3 : ∀ c o, c ≠ H2.objs.size → H2.get? c = some o → h₁.get? c = some o := fun c o hc e => hsb₁.extBut c o hc (Heap.get?_push_of_some _ e)
  have up : ∀ c o, s₁.heap.get? c = some o → h₁.get? c = some o := fun c o e => up3 c o (below c (Heap.lt_size e)).2.1 (up2 _ _ (up1 _ _ e))
  have fresh₀ : ∀ c, s₁.heap.objs.size ≤ c → h₀.get? c = none := fun c hc => by
    cases e : h₀.get? c with
    | none => rfl
    | some o' => exact absurd (Heap.lt_size (F.keep c o' e)) (Nat.not_lt.mpr hc)
  have hI₀ : h₀.get? s₁.heap.objs.size = none := fresh₀ _ (Nat.le_refl _)
  have hD₀ : h₀.get? H1.objs.size = none := fresh₀ _ (by rw [sz1]; exact Nat.le_succ _)
  have hC₀ : h₀.get? H2.objs.size = none := fresh₀ _ (by rw [sz2]; exact Nat.le_succ_of_le (Nat.le_succ _))
  have hLlt : L < s₁.heap.objs.size := F.ns.lt
  have hLI := (below L hLlt).1
  have hLC := (below L hLlt).2.1
  have hLD := (below L hLlt).2.2
  have off : Off3 s₁.heap.objs.size H2.objs.size H1.objs.size news := Off3.of fun p hp => below _ (Heap.lt_size (N p hp).1)
  have offm := off.mem
  have haxI : ax ≠ s₁.heap.objs.size := Nat.ne_of_lt hlt
  have gI3 : h₁.IsTupleIter s₁.heap.objs.size ax 0 := by obtain ⟨o, e, r⟩ := gI1; exact ⟨o, up3 _ _ hIC (up2 _ _ e), r⟩
  have loop : ∀ s₃ : Shared, s₃ = { s₁ with heap := h₁, toks := s₁.toks + ([] : List (Str × Value)).length } →
      codeAny (model prog w) A (.compLoop (.SetComp elt [⟨.Name x px, iter, [], 0⟩] scope pos) 0 (.ref s₁.heap.objs.size) (.ref H1.objs.size) (compEnvC scope cl H2.objs.size env))
        (compPost (model prog w) A E none Q (.ref H1.objs.size) H2.objs.size) s₃ := by
    rintro s₃ rfl
    refine codeAny_compLoop_set
      (fun k s' => ∃ h' tk i m', s' = { s₁ with heap := h', toks := tk } ∧ i ≤ 2 ∧ k = 3 - i ∧ h'.IsTupleIter s₁.heap.objs.size ax i ∧ Fr h₀ L h' m ∧ h'.Ns H2.objs.size m' ∧
        News h₀ L h' ((H1.objs.size, if i = 0 then setNil (!byT w) else setOne (!byT w)) :: news)) (fun k s' hI => ?_) 3
      ⟨h₁, _, 0, _, rfl, by decide, rfl, gI3, F.keeps up, hns₁, ?_⟩
    · obtain ⟨h', tk, i, m', rfl, hi, rfl, gI, F', hn', N'⟩ := hI
      have gt : h'.IsTuple ax #[a, b] := ⟨_, (N' _ (.tail _ hm)).1, rfl, _, rfl⟩
      by_cases hlt2 : i < 2
      · obtain ⟨v, hv, hvab⟩ := two_at (a := a) (b := b) hlt2
        refine wpAny_pyNext_tuple_item gI gt hv fun h₂ gI₂ hs₂ => ?_
        dsimp only
        refine (wpAny_assign_Name (wpAny_storeName_local (lookup_relabel_local hx) (hn'.sameBut hs₂ (Ne.symm hIC)) (fun h₃ hn₃ hs₃ => ?_) (by simp [compEnvC, relabel, hkind])))
        have gI₃ : h₃.IsTupleIter s₁.heap.objs.size ax (i + 1) := by obtain ⟨o, e, r⟩ := gI₂; exact ⟨o, hs₃.extBut _ _ hIC e, r⟩
        obtain ⟨oI, heI, hoI⟩ := id gI₃
        obtain ⟨oC, heC, hoC⟩ := ns_obj hn₃
        have F₂ : Fr h₀ L h₂ m := F'.change hs₂ (Ne.symm hLI) hI₀
        have F₃ : Fr h₀ L h₃ m := F₂.change hs₃ (Ne.symm hLC) hC₀
        have N₃ : News h₀ L h₃ ((s₁.heap.objs.size, oI) :: (H2.objs.size, oC) :: (H1.objs.size, if i = 0 then setNil (!byT w) else setOne (!byT w)) :: news) := fun p hp => by
          rcases List.mem_cons.mp hp with rfl | hp
          · exact ⟨heI, Ne.symm hLI, hI₀⟩
          · rcases List.mem_cons.mp hp with rfl | hp
            · exact ⟨heC, Ne.symm hLC, hC₀⟩
            · have z := N' p hp
              refine ⟨hs₃.extBut _ _ ?_ (hs₂.extBut _ _ ?_ z.1), z.2⟩
              · rcases List.mem_cons.mp hp with rfl | hp
                · exact hDC
                · exact (offm p hp).2.1
              · rcases List.mem_cons.mp hp with rfl | hp
                · exact Ne.symm hID
                · exact (offm p hp).1
        refine wpAny_mono (helt v _ oI _ oC _ _ _ h₃ _ _ hvab hoC (by simp) F₃ N₃ off ⟨hIC, hID, Ne.symm hDC⟩) (fun y s₄ h₄ => ?_) fun _ _ e => e
        obtain ⟨h₄, tk₄, news₄, rfl, F₄, N₄, off₄, rfl, rfl⟩ := h₄
        have gD₄ := (N₄ _ (.tail _ (.tail _ (.head _)))).1
        have gC₄ := (N₄ _ (.tail _ (.head _))).1
        have gI₄ := (N₄ _ (.head _)).1
        by_cases h0 : i = 0
        · subst h0
          refine add_first gD₄ fun h₅ g₅ hs₅ => ?_
          refine ⟨3 - (0 + 1), by decide, h₅, _, 0 + 1, _, rfl, by decide, rfl, ⟨oI, hs₅.extBut _ _ hID gI₄, hoI⟩, F₄.change hs₅ (Ne.symm hLD) hD₀, (hoC.ns gC₄).sameBut hs₅ (Ne.symm hDC), fun p hp => ?_⟩
          rcases List.mem_cons.mp hp with rfl | hp
          · exact ⟨g₅, Ne.symm hLD, hD₀⟩
          · exact ⟨hs₅.extBut _ _ (offm p hp).2.2 (N₄ p (.tail _ (.tail _ (.tail _ hp)))).1, (N₄ p (.tail _ (.tail _ (.tail _ hp)))).2⟩
        · rw [if_neg h0] at gD₄
          refine add_second gD₄ ?_
          refine ⟨3 - (i + 1), by omega, h₄, _, i + 1, _, rfl, by omega, rfl, ⟨oI, gI₄, hoI⟩, F₄, hoC.ns gC₄, fun p hp => ?_⟩
          rw [if_neg (Nat.succ_ne_zero i)] at hp
          rw [if_neg h0] at N₄
          exact N₄ p (.tail _ (.tail _ hp))
      · obtain rfl : i = 2 := by omega
        refine wpAny_pyNext_tuple_end hh gI gt (by simp) fun h₂ x₂ => ?_
        dsimp only
        rw [if_neg (by decide)] at N'
        refine ⟨m', hn'.extBut x₂ (Ne.symm hIC), fun h'' hs'' => fin _ h'' _ ((fr_but F' (fun b o hb e => x₂ b o (by simpa using hb) e) hLI hI₀).change hs'' (Ne.symm hLC) hC₀) (fun p hp => ?_) off.one⟩
        have z := N' p hp
        refine ⟨hs''.extBut _ _ ?_ (x₂ _ _ ?_ z.1), z.2⟩
        · rcases List.mem_cons.mp hp with rfl | hp
          · exact hDC
          · exact (offm p hp).2.1
        · rcases List.mem_cons.mp hp with rfl | hp
          · exact Ne.symm hID
          · exact (offm p hp).1
    · intro p hp
      rw [if_pos rfl] at hp
      rcases List.mem_cons.mp hp with rfl | hp
      · exact ⟨up3 _ _ hDC gD2, Ne.symm hLD, hD₀⟩
      · exact ⟨up _ _ (N p hp).1, (N p hp).2⟩
  exact codeAny_compStart_set (loop _ rfl) (wpAny_pyIter_tupleiter gI3 (loop _ rfl))
end
end
section
set_option maxRecDepth 100000
section
variable {prog : Program} {w : World} {A : Around} {E : Value → Shared → Prop} {s : Shared} {h₀ : Heap} {L : Addr} {m : Str → Option Value} {news : List (Addr × Obj)}
theorem min_two_lists {O P R : Addr} {la lb : List (Str × Tok)} {n n2 : Nat} {Q : Value → Shared → Prop} (hh : A.handled = none) (hu : A.units + 1 < cLine) (F : Fr h₀ L s.heap m) (N : News h₀ L s.heap news)
    (hO : (O, LCg.lst [.ref P, .ref R]) ∈ news) (hP : (P, listOf (strValues la).toArray n) ∈ news) (hR : (R, listOf (strValues lb).toArray n2) ∈ news)
    (h : ∀ h' tk', Fr h₀ L h' m → News h₀ L h' news → Q (.ref (if cmpS sLt (decide (lb.length < la.length)) (lb.map (·.1)) (la.map (·.1)) = true then R else P)) { s with heap := h', toks := tk' }) :
    wpAny (model prog w) A (call (.builtin "min") [.ref O]) Q E s := by
  have hname : (toString "min" ++ toString ".loop" : String) = "min.loop" := by decide
  have gO := (N _ hO).1
  have hltO : O < s.heap.objs.size := Heap.lt_size gO
  refine call_function_tree PySem.F.kind_min PySem.F.plain_min PySem.F.entry_min (PySem.F.args_min1 _) ?_
  show wpAny _ A.in1 (Builtin.Builtins.bindParams "min" ["key", "default"] 0 ⟨[], []⟩ >>= _) _ _ s
  refine wpAny_bind (wpAny_of_eq (show Builtin.Builtins.bindParams "min" ["key", "default"] 0 ⟨[], []⟩ = pure [none, none] from rfl) ?_)
  refine wpAny_bind (wpAny_pure ?_)
  refine wpAny_bind (wpAny_pyIter_list ⟨_, gO, rfl, _, rfl⟩ ?_)
  refine wpAny_bind (wpAny_newObj_type ?_)
  dsimp only
  generalize hH1 : s.heap.push { cls := .type "list_iterator", data := .fields #[.ref O, .int 0 0] } = H1
  have sz1 : H1.objs.size = s.heap.objs.size + 1 := by rw [← hH1, Heap.size_push]
  have o1 : ∀ c o, s.heap.get? c = some o → H1.get? c = some o := fun c o e => hH1 ▸ Heap.get?_push_of_some _ e
  have gI1 : H1.IsListIter s.heap.objs.size O 0 := by rw [← hH1]; exact ⟨_, Heap.get?_push_size _ rfl, rfl, rfl⟩
  generalize hH2 : H1.push { cls := .type "list", data := .seq ([] : List Value).toArray } = H2
  have o2 : ∀ c o, s.heap.get? c = some o → H2.get? c = some o := fun c o e => hH2 ▸ Heap.get?_push_of_some _ (o1 c o e)
  have gI2 : H2.IsListIter s.heap.objs.size O 0 := by obtain ⟨o, e, r⟩ := gI1; exact ⟨o, hH2 ▸ Heap.get?_push_of_some _ e, r⟩
  have gS2 : H2.get? H1.objs.size = some { cls := .type "list", data := .seq #[] } := by rw [← hH2]; exact Heap.get?_push_size _ rfl
  have hIS : s.heap.objs.size ≠ H1.objs.size := by rw [sz1]; exact Nat.ne_of_lt (Nat.lt_succ_self _)
  have hOI : O ≠ s.heap.objs.size := Nat.ne_of_lt hltO
  have old : ∀ {c o}, s.heap.get? c = some o → c ≠ s.heap.objs.size ∧ c ≠ H1.objs.size := fun {c o} e =>
    ⟨Nat.ne_of_lt (Heap.lt_size e), by rw [sz1]; exact Nat.ne_of_lt (Nat.lt_succ_of_lt (Heap.lt_size e))⟩
  rw [hname]
  refine wpAny_pure ⟨plainId_quiet PySem.F.plain_min_loop _, ?_⟩
  -- the first item
  refine codeAny_builtin PySem.F.entry_min_loop ?_
  rw [Around.under_plainId PySem.F.plain_min_loop _]
  show wpAny _ A.in1 (seqItems? (.ref H1.objs.size) >>= _) _ _ _
  refine wpAny_bind (wpAny_seqItems gS2 rfl ?_)
  show wpAny _ A.in1 (tryCatch (pyNext (.ref s.heap.objs.size)) _ >>= _) _ _ _
  refine wpAny_bind (wpAny_tryCatch (wpAny_pyNext_list_item gI2 ⟨_, o2 _ _ gO, rfl, _, rfl⟩ (x := .ref P) rfl fun H3 gI3 s3 => ?_))
  have gS3 := (s3.2 _ (Ne.symm hIS)).trans gS2
  show wpAny _ A.in1 (updateSeq H1.objs.size (fun _ => #[.ref P, .ref P]) >>= _) _ _ _
  refine wpAny_bind ?_
  refine wpAny_updateSeq gS3 rfl ?_
  dsimp only
  have gS4 := Heap.get?_update_self (Obj.mapSeq fun _ => #[.ref P, .ref P]) gS3 rfl
  generalize hH4 : H3.update H1.objs.size (Obj.mapSeq fun _ => #[.ref P, .ref P]) = H4 at gS4 ⊢
  have s4 : Heap.SameBut H1.objs.size H3 H4 := hH4 ▸ Heap.SameBut.update ..
  have gI4 : H4.IsListIter s.heap.objs.size O 1 := by obtain ⟨o, e, r⟩ := gI3; exact ⟨o, (s4.2 _ hIS).trans e, r⟩
  have o4 : ∀ c o, s.heap.get? c = some o → H4.get? c = some o := fun c o e => (s4.2 _ (old e).2).trans ((s3.2 _ (old e).1).trans (o2 c o e))
  rw [hname]
  refine wpAny_pure ⟨plainId_quiet PySem.F.plain_min_loop _, ?_⟩
  -- the second
  refine codeAny_builtin PySem.F.entry_min_loop ?_
  rw [Around.under_plainId PySem.F.plain_min_loop _]
  show wpAny _ A.in1 (seqItems? (.ref H1.objs.size) >>= _) _ _ _
  refine wpAny_bind (wpAny_seqItems gS4 rfl ?_)
  show wpAny _ A.in1 (tryCatch (pyNext (.ref s.heap.objs.size)) _ >>= _) _ _ _
  refine wpAny_bind (wpAny_tryCatch (wpAny_pyNext_list_item gI4 ⟨_, o4 _ _ gO, rfl, _, rfl⟩ (x := .ref R) rfl fun H5 gI5 s5 => ?_))
  have gS5 := (s5.2 _ (Ne.symm hIS)).trans gS4
  have o5 : ∀ c o, s.heap.get? c = some o → H5.get? c = some o := fun c o e => (s5.2 _ (old e).1).trans (o4 c o e)
  show wpAny _ A.in1 (tryCatch (holding [.ref R, .ref R] (richCompare .Lt (.ref R) (.ref P) >>= _)) _ >>= _) _ _ _
  refine wpAny_bind (wpAny_tryCatch (wpAny_holding (wpAny_bind (lt_refs (o5 _ _ (N _ hR).1) (o5 _ _ (N _ hP).1) hu ?_))))
  refine wpAny_bind (wpAny_holding (wpAny_truthy_bool ?_))
  refine wpAny_bind (wpAny_letGo (wpAny_pure ?_))
  -- the end
  have fin : ∀ (H6 : Heap) (tk : Nat) (V : Addr) (c : Nat), H6.get? H1.objs.size = some { cls := .type "list", data := .seq #[.ref V, .ref V] c } → H6.IsListIter s.heap.objs.size O 2 → (∀ c o, s.heap.get? c = some o → H6.get? c = some o) →
      (V = if cmpS sLt (decide (lb.length < la.length)) (lb.map (·.1)) (la.map (·.1)) = true then R else P) →
      codeAny (model prog w) A (.builtin "min.loop" ⟨[.ref s.heap.objs.size, .none, .ref H1.objs.size], []⟩) (wants Q E) { s with heap := H6, toks := tk } := by
    rintro H6 tk V c gS6 gI6 o6 rfl
    refine codeAny_builtin PySem.F.entry_min_loop ?_
    rw [Around.under_plainId PySem.F.plain_min_loop _]
    show wpAny _ A.in1 (seqItems? (.ref H1.objs.size) >>= _) _ _ _
    refine wpAny_bind (wpAny_seqItems gS6 rfl ?_)
    show wpAny _ A.in1 (tryCatch (pyNext (.ref s.heap.objs.size)) _ >>= _) _ _ _
    refine wpAny_bind (wpAny_tryCatch (wpAny_pyNext_list_end (by exact hh) gI6 ⟨_, o6 _ _ gO, rfl, _, rfl⟩ rfl fun H7 x7 => ?_))
    have gS7 := x7 _ _ (Ne.symm hIS) gS6
    show wpAny _ A.in1 (updateSeq H1.objs.size (fun _ => #[]) >>= _) _ _ _
    refine wpAny_bind ?_
    refine wpAny_updateSeq gS7 rfl (wpAny_bind (wpAny_letGo (wpAny_pure ?_)))
    have o8 : ∀ c o, s.heap.get? c = some o → (H7.update H1.objs.size (Obj.mapSeq fun _ => #[])).get? c = some o := fun c o e =>
      (Heap.get?_update_other _ _ (Ne.symm (old e).2)).trans (x7 _ _ (old e).1 (o6 c o e))
    exact h _ _ (F.keeps o8) (N.grown o8)
  by_cases hb : cmpS sLt (decide (lb.length < la.length)) (lb.map (·.1)) (la.map (·.1)) = true
  · rw [if_pos hb]
    refine wpAny_bind ?_
    refine wpAny_updateSeq gS5 rfl (wpAny_bind (wpAny_letGo ?_))
    rw [hname]
    refine wpAny_pure ⟨plainId_quiet PySem.F.plain_min_loop _, fin _ _ R _ (Heap.get?_update_self _ gS5 rfl) ?_ (fun c o e => (Heap.get?_update_other _ _ (Ne.symm (old e).2)).trans (o5 c o e)) (if_pos hb).symm⟩
    obtain ⟨o, e, r⟩ := gI5
    exact ⟨o, (Heap.get?_update_other _ _ (Ne.symm hIS)).trans e, r⟩
  · rw [if_neg hb]
    refine wpAny_bind (wpAny_letGo ?_)
    rw [hname]
    exact wpAny_pure ⟨plainId_quiet PySem.F.plain_min_loop _, fin _ _ P _ gS5 gI5 o5 (if_neg hb).symm⟩

theorem max_two_lists {O P R : Addr} {la lb : List (Str × Tok)} {n n2 : Nat} {Q : Value → Shared → Prop} (hh : A.handled = none) (hu : A.units + 1 < cLine) (F : Fr h₀ L s.heap m) (N : News h₀ L s.heap news)
    (hO : (O, LCg.lst [.ref P, .ref R]) ∈ news) (hP : (P, listOf (strValues la).toArray n) ∈ news) (hR : (R, listOf (strValues lb).toArray n2) ∈ news)
    (h : ∀ h' tk', Fr h₀ L h' m → News h₀ L h' news → Q (.ref (if cmpS sGt (decide (la.length < lb.length)) (lb.map (·.1)) (la.map (·.1)) = true then R else P)) { s with heap := h', toks := tk' }) :
    wpAny (model prog w) A (call (.builtin "max") [.ref O]) Q E s := by
  have hname : (toString "max" ++ toString ".loop" : String) = "max.loop" := by decide
  have gO := (N _ hO).1
  have hltO : O < s.heap.objs.size := Heap.lt_size gO
  refine call_function_tree PySem.F.kind_max PySem.F.plain_max PySem.F.entry_max (PySem.F.args_max1 _) ?_
  show wpAny _ A.in1 (Builtin.Builtins.bindParams "max" ["key", "default"] 0 ⟨[], []⟩ >>= _) _ _ s
  refine wpAny_bind (wpAny_of_eq (show Builtin.Builtins.bindParams "max" ["key", "default"] 0 ⟨[], []⟩ = pure [none, none] from rfl) ?_)
  refine wpAny_bind (wpAny_pure ?_)
  refine wpAny_bind (wpAny_pyIter_list ⟨_, gO, rfl, _, rfl⟩ ?_)
  refine wpAny_bind (wpAny_newObj_type ?_)
  dsimp only
  generalize hH1 : s.heap.push { cls := .type "list_iterator", data := .fields #[.ref O, .int 0 0] } = H1
  have sz1 : H1.objs.size = s.heap.objs.size + 1 := by rw [← hH1, Heap.size_push]
  have o1 : ∀ c o, s.heap.get? c = some o → H1.get? c = some o := fun c o e => hH1 ▸ Heap.get?_push_of_some _ e
  have gI1 : H1.IsListIter s.heap.objs.size O 0 := by rw [← hH1]; exact ⟨_, Heap.get?_push_size _ rfl, rfl, rfl⟩
  generalize hH2 : H1.push { cls := .type "list", data := .seq ([] : List Value).toArray } = H2
  have o2 : ∀ c o, s.heap.get? c = some o → H2.get? c = some o := fun c o e => hH2 ▸ Heap.get?_push_of_some _ (o1 c o e)
  have gI2 : H2.IsListIter s.heap.objs.size O 0 := by obtain ⟨o, e, r⟩ := gI1; exact ⟨o, hH2 ▸ Heap.get?_push_of_some _ e, r⟩
  have gS2 : H2.get? H1.objs.size = some { cls := .type "list", data := .seq #[] } := by rw [← hH2]; exact Heap.get?_push_size _ rfl
  have hIS : s.heap.objs.size ≠ H1.objs.size := by rw [sz1]; exact Nat.ne_of_lt (Nat.lt_succ_self _)
  have hOI : O ≠ s.heap.objs.size := Nat.ne_of_lt hltO
  have old : ∀ {c o}, s.heap.get? c = some o → c ≠ s.heap.objs.size ∧ c ≠ H1.objs.size := fun {c o} e =>
    ⟨Nat.ne_of_lt (Heap.lt_size e), by rw [sz1]; exact Nat.ne_of_lt (Nat.lt_succ_of_lt (Heap.lt_size e))⟩
  rw [hname]
  refine wpAny_pure ⟨plainId_quiet PySem.F.plain_max_loop _, ?_⟩
  -- the first item
  refine codeAny_builtin PySem.F.entry_max_loop ?_
  rw [Around.under_plainId PySem.F.plain_max_loop _]
  show wpAny _ A.in1 (seqItems? (.ref H1.objs.size) >>= _) _ _ _
  refine wpAny_bind (wpAny_seqItems gS2 rfl ?_)
  show wpAny _ A.in1 (tryCatch (pyNext (.ref s.heap.objs.size)) _ >>= _) _ _ _
  refine wpAny_bind (wpAny_tryCatch (wpAny_pyNext_list_item gI2 ⟨_, o2 _ _ gO, rfl, _, rfl⟩ (x := .ref P) rfl fun H3 gI3 s3 => ?_))
  have gS3 := (s3.2 _ (Ne.symm hIS)).trans gS2
  show wpAny _ A.in1 (updateSeq H1.objs.size (fun _ => #[.ref P, .ref P]) >>= _) _ _ _
  refine wpAny_bind ?_
  refine wpAny_updateSeq gS3 rfl ?_
  dsimp only
  have gS4 := Heap.get?_update_self (Obj.mapSeq fun _ => #[.ref P, .ref P]) gS3 rfl
  generalize hH4 : H3.update H1.objs.size (Obj.mapSeq fun _ => #[.ref P, .ref P]) = H4 at gS4 ⊢
  have s4 : Heap.SameBut H1.objs.size H3 H4 := hH4 ▸ Heap.SameBut.update ..
  have gI4 : H4.IsListIter s.heap.objs.size O 1 := by obtain ⟨o, e, r⟩ := gI3; exact ⟨o, (s4.2 _ hIS).trans e, r⟩
  have o4 : ∀ c o, s.heap.get? c = some o → H4.get? c = some o := fun c o e => (s4.2 _ (old e).2).trans ((s3.2 _ (old e).1).trans (o2 c o e))
  rw [hname]
  refine wpAny_pure ⟨plainId_quiet PySem.F.plain_max_loop _, ?_⟩
  -- the second
  refine codeAny_builtin PySem.F.entry_max_loop ?_
  rw [Around.under_plainId PySem.F.plain_max_loop _]
  show wpAny _ A.in1 (seqItems? (.ref H1.objs.size) >>= _) _ _ _
  refine wpAny_bind (wpAny_seqItems gS4 rfl ?_)
  show wpAny _ A.in1 (tryCatch (pyNext (.ref s.heap.objs.size)) _ >>= _) _ _ _
  refine wpAny_bind (wpAny_tryCatch (wpAny_pyNext_list_item gI4 ⟨_, o4 _ _ gO, rfl, _, rfl⟩ (x := .ref R) rfl fun H5 gI5 s5 => ?_))
  have gS5 := (s5.2 _ (Ne.symm hIS)).trans gS4
  have o5 : ∀ c o, s.heap.get? c = some o → H5.get? c = some o := fun c o e => (s5.2 _ (old e).1).trans (o4 c o e)
  show wpAny _ A.in1 (tryCatch (holding [.ref R, .ref R] (richCompare .Gt (.ref R) (.ref P) >>= _)) _ >>= _) _ _ _
  refine wpAny_bind (wpAny_tryCatch (wpAny_holding (wpAny_bind (gt_refs (o5 _ _ (N _ hR).1) (o5 _ _ (N _ hP).1) hu ?_))))
  refine wpAny_bind (wpAny_holding (wpAny_truthy_bool ?_))
  refine wpAny_bind (wpAny_letGo (wpAny_pure ?_))
  -- the end
  have fin : ∀ (H6 : Heap) (tk : Nat) (V : Addr) (c : Nat), H6.get? H1.objs.size = some { cls := .type "list", data := .seq #[.ref V, .ref V] c } → H6.IsListIter s.heap.objs.size O 2 → (∀ c o, s.heap.get? c = some o → H6.get? c = some o) →
      (V = if cmpS sGt (decide (la.length < lb.length)) (lb.map (·.1)) (la.map (·.1)) = true then R else P) →
      codeAny (model prog w) A (.builtin "max.loop" ⟨[.ref s.heap.objs.size, .none, .ref H1.objs.size], []⟩) (wants Q E) { s with heap := H6, toks := tk } := by
    rintro H6 tk V c gS6 gI6 o6 rfl
    refine codeAny_builtin PySem.F.entry_max_loop ?_
    rw [Around.under_plainId PySem.F.plain_max_loop _]
    show wpAny _ A.in1 (seqItems? (.ref H1.objs.size) >>= _) _ _ _
    refine wpAny_bind (wpAny_seqItems gS6 rfl ?_)
    show wpAny _ A.in1 (tryCatch (pyNext (.ref s.heap.objs.size)) _ >>= _) _ _ _
    refine wpAny_bind (wpAny_tryCatch (wpAny_pyNext_list_end (by exact hh) gI6 ⟨_, o6 _ _ gO, rfl, _, rfl⟩ rfl fun H7 x7 => ?_))
    have gS7 := x7 _ _ (Ne.symm hIS) gS6
    show wpAny _ A.in1 (updateSeq H1.objs.size (fun _ => #[]) >>= _) _ _ _
    refine wpAny_bind ?_
    refine wpAny_updateSeq gS7 rfl (wpAny_bind (wpAny_letGo (wpAny_pure ?_)))
    have o8 : ∀ c o, s.heap.get? c = some o → (H7.update H1.objs.size (Obj.mapSeq fun _ => #[])).get? c = some o := fun c o e =>
      (Heap.get?_update_other _ _ (Ne.symm (old e).2)).trans (x7 _ _ (old e).1 (o6 c o e))
    exact h _ _ (F.keeps o8) (N.grown o8)
  by_cases hb : cmpS sGt (decide (la.length < lb.length)) (lb.map (·.1)) (la.map (·.1)) = true
  · rw [if_pos hb]
    refine wpAny_bind ?_
    refine wpAny_updateSeq gS5 rfl (wpAny_bind (wpAny_letGo ?_))
    rw [hname]
    refine wpAny_pure ⟨plainId_quiet PySem.F.plain_max_loop _, fin _ _ R _ (Heap.get?_update_self _ gS5 rfl) ?_ (fun c o e => (Heap.get?_update_other _ _ (Ne.symm (old e).2)).trans (o5 c o e)) (if_pos hb).symm⟩
    obtain ⟨o, e, r⟩ := gI5
    exact ⟨o, (Heap.get?_update_other _ _ (Ne.symm hIS)).trans e, r⟩
  · rw [if_neg hb]
    refine wpAny_bind (wpAny_letGo ?_)
    rw [hname]
    exact wpAny_pure ⟨plainId_quiet PySem.F.plain_max_loop _, fin _ _ P _ gS5 gI5 o5 (if_neg hb).symm⟩

theorem min_pick {O P R : Addr} {la lb : List (Str × Tok)} {Q : Value → Shared → Prop} (hh : A.handled = none) (hu : A.units + 1 < cLine) (F : Fr h₀ L s.heap m) (N : News h₀ L s.heap news)
    (hO : (O, LCg.lst [.ref P, .ref R]) ∈ news) (hP : (P, LCg.lst (strValues la)) ∈ news) (hR : (R, LCg.lst (strValues lb)) ∈ news)
    (h : ∀ V h' tk', Fr h₀ L h' m → News h₀ L h' news → (V, LCg.lst (strValues (if cmpS sLt (decide (lb.length < la.length)) (lb.map (·.1)) (la.map (·.1)) = true then lb else la))) ∈ news → Q (.ref V) { s with heap := h', toks := tk' }) :
    wpAny (model prog w) A (call (.builtin "min") [.ref O]) Q E s := by
  refine min_two_lists hh hu F N hO hP hR fun h' tk' F' N' => h _ h' tk' F' N' ?_
  by_cases hb : cmpS sLt (decide (lb.length < la.length)) (lb.map (·.1)) (la.map (·.1)) = true
  · rw [if_pos hb, if_pos hb]; exact hR
  · rw [if_neg hb, if_neg hb]; exact hP

theorem max_pick {O P R : Addr} {la lb : List (Str × Tok)} {Q : Value → Shared → Prop} (hh : A.handled = none) (hu : A.units + 1 < cLine) (F : Fr h₀ L s.heap m) (N : News h₀ L s.heap news)
    (hO : (O, LCg.lst [.ref P, .ref R]) ∈ news) (hP : (P, LCg.lst (strValues la)) ∈ news) (hR : (R, LCg.lst (strValues lb)) ∈ news)
    (h : ∀ V h' tk', Fr h₀ L h' m → News h₀ L h' news → (V, LCg.lst (strValues (if cmpS sGt (decide (la.length < lb.length)) (lb.map (·.1)) (la.map (·.1)) = true then lb else la))) ∈ news → Q (.ref V) { s with heap := h', toks := tk' }) :
    wpAny (model prog w) A (call (.builtin "max") [.ref O]) Q E s := by
  refine max_two_lists hh hu F N hO hP hR fun h' tk' F' N' => h _ h' tk' F' N' ?_
  by_cases hb : cmpS sGt (decide (la.length < lb.length)) (lb.map (·.1)) (la.map (·.1)) = true
  · rw [if_pos hb, if_pos hb]; exact hR
  · rw [if_neg hb, if_neg hb]; exact hP
end
end
section
local macro_rules
  | `(tactic| walk_at "call ref") => `(tactic| k_extra "m9")
  | `(tactic| walk_at "call type:map") => `(tactic| (k_here; k_dflt (k_extra "my map")))
  | `(tactic| walk_at "call type:tuple") => `(tactic| (k_here; k_dflt (k_extra "my tuple")))
local macro_rules | `(tactic| k_all) => `(tactic| k_extra "all")
theorem two_fit {a b : Value} : [a, b].length ≤ sizeLine := by rw [sizeLine_eq]; exact Nat.le_of_ble_eq_true rfl
open PyProof.Rows.LCg in
theorem comp2 {prog : Program} {w : World} {A : Around} {h₀ : Heap} {L : Addr} {m : Str → Option Value} {env : Env} {elt : Expr} {x : Str} {scope : Scope} {cl : List (Str × Addr)} {Fin : Shared → List Value → List (Addr × Obj) → Prop} {ax : Addr} {a b : Value} {news : List (Addr × Obj)} {s₁ : Shared}
    (hh : A.handled = none) (F : Fr h₀ L s₁.heap m) (N : News h₀ L s₁.heap news) (hm : (ax, ({ cls := .type "tuple", data := .seq #[a, b] } : Obj)) ∈ news)
    (h : ∀ g, CompRest prog w A h₀ L m env elt x scope cl { s₁ with heap := g } (STup ax #[a, b]) (fun i v => #[a, b][i]? = some v) (Fin { s₁ with heap := g }) 2 0 [] news) :
    SrcT prog w A h₀ L m env elt x scope cl Fin (.ref ax) s₁ :=
  ⟨ax, _, news, rfl, hh, F, N, ⟨_, hm, rfl, _, rfl⟩, two_fit (a := a) (b := b), fun _ ⟨g, e⟩ => e ▸ h g⟩
local macro_rules
  | `(tactic| walk_at "exec Assign cons ListComp") => `(tactic| k_extra "m10")
  | `(tactic| walk_at "SrcT") => `(tactic| (k_here; k_dflt (refine comp2 rfl (by assumption) (by assumption) (.head _) ?_); intro g9))
  | `(tactic| walk_at "eval SetComp") => `(tactic| k_extra "m11")
local macro_rules
  | `(tactic| walk_at "exec Assign cons ListComp") => `(tactic| k_extra "m12")
  | `(tactic| walk_at "eval ListComp") => `(tactic| k_extra "m13")
  | `(tactic| walk_at "CompSrcT") => `(tactic| k_extra "inner")
  | `(tactic| walk_at "call builtin:min") => `(tactic| (k_here; k_dflt (k_extra "my min")))
  | `(tactic| walk_at "call builtin:max") => `(tactic| (k_here; k_dflt (k_extra "my max")))
theorem hc_fspath {w : World} {mean : ExcName → Option Value} {mg mb : Str → Option Value} {x y : Str} {t u : Tok} {dp un : Nat} {gd : Option (List Code)} {cn : Str} {cs : Scope} {a : Addr} {ccd : Value} {cl : List (Str × Addr)} {outer : List Env} {A₀ : Around} {base h₀ : Heap} {L : Addr} {m : Str → Option Value}
    (B : Below A₀ base outer h₀) (X : (hd.heap_1 w.params).In h₀) (T : Top hd.view_1 [Str.ofString "_filemode_table"] mean mg mb h₀) (hk : cs.kind = .function) (hd : dp + 1 < recursionLimit) (hu : un + 8 < cLine) :
    HC PySem.Challenge.rw_il0079_01.row.prog w h₀ L m 122 [.str x t, .str y u] (ktrTop dp un gd cn cs L a ccd cl outer) := by
  intro v hv Q E s news F N ret
  simp only [List.mem_cons, List.not_mem_nil, or_false] at hv
  rcases hv with rfl | rfl
  · exact claim_use (fspath_spec w mean mg mb x t) B F X N T hk (fun _ h => nomatch h) hd hu (Nat.zero_le _) (fun r h' tk' e F N => by subst e; exact ret h' tk' F N)
  · exact claim_use (fspath_spec w mean mg mb y u) B F X N T hk (fun _ h => nomatch h) hd hu (Nat.zero_le _) (fun r h' tk' e F N => by subst e; exact ret h' tk' F N)
set_option maxRecDepth 100000 in
set_option maxHeartbeats 8000000 in
theorem common_spec (w : World) (mean : ExcName → Option Value) (mg mb : Str → Option Value) (l : Addr) (x y : Str) (t u : Tok) (n : Nat) (hx : x.length ≤ 200) (hx0 : y.length ≤ 200) (hxs : Txt.startswith x (Str.ofString "/") = true) (hys : Txt.startswith y (Str.ofString "/") = true) :
    Claim w mean mg mb 155 2 40 0 [(l, listOf #[.str x t, .str y u] n)] [.ref l] (fun v => ∃ t', v = .str (commonS x y) t') := by
  unfold Claim
  intro dp un gd cn cs a ccd cl outer A₀ base h₀ L m news s Q E B F X N T hk hn hdp hun htk hret
  have hN := hn _ (.head _)
  w_top off
  k_with_none
  k_with "m1" => ((k_here; refine execs_cons_t (by first | exact Nat.succ_pos _ | assumption | (dsimp only; omega)) ?_; (try k_fold)))
  k_with "m2" => (first | (refine tnext_next ?_; intro tk9 htk9) | refine tnext_ret ?_ | refine tnext_brk ?_ | refine tnext_cont ?_)
  k_with "m9" => ((k_here; k_dflt (first | refine' claim_use (fspath_spec _ _ _ _ _ _) ?k1 ?k2 ?k3 ?k4 ?k5 ?kK ?kn ?kd ?ku ?kt ?_ | refine' claim_use (sep_spec _ _ _ _ _ _) ?k1 ?k2 ?k3 ?k4 ?k5 ?kK ?kn ?kd ?ku ?kt ?_); (case k1 => k_asm); (case k2 => k_asm); (case k3 => k_asm); (case k4 => k_asm); (case k5 => k_asm); (case kK => first | exact rfl | assumption); (case kn => first | exact fun _ h9 => nomatch h9 | assumption); (case kd => ktr_room); (case ku => ktr_units); (case kt => first | exact Nat.zero_le _ | (dsimp only; omega)); intro r9 h9 tk9 R9 F9 N9; (first | (obtain ⟨t9, e9⟩ := R9; subst e9) | subst R9 | skip); (try dsimp only); (try k_fold)))
  k_with "m10" => ((k_here; (with_reducible show wpAny _ _ (exec (.Assign _ (.ListComp _ [⟨_, .Name (Str.ofString "paths") _, _, _⟩] _ _) _) _) _ _ _); k_dflt (refine Assign_T (by assumption) rfl (by with_unfolding_all rfl) (by with_unfolding_all rfl) (by decide) (by rfl) (by decide) (by rfl) (by rfl) (by rfl) ?_)))
  k_with "m11" => ((k_here; k_dflt (refine SetComp_T (by assumption) (by with_unfolding_all rfl) (by decide) (by rfl) (by decide) (by rfl) ?_)))
  k_with "m12" => ((k_here; (with_reducible show wpAny _ _ (exec (.Assign _ (.ListComp _ [⟨_, .Name (Str.ofString "split_paths") _, _, _⟩] _ _) _) _) _ _ _); k_dflt (refine LCg.Assign_ListComp_U (F₀ := by assumption) rfl (by with_unfolding_all rfl) (by with_unfolding_all rfl) (by decide) (by rfl) (by decide) (by rfl) (by rfl) (by rfl) ?_)))
  k_with "m13" => ((k_here; (with_reducible show wpAny _ _ (eval (.ListComp _ [⟨_, .Name (Str.ofString "s") _, _, _⟩] _ _) _) _ _ _); k_dflt (refine LCt.ListComp_T (F₀ := by assumption) (by with_unfolding_all rfl) (by decide) (by rfl) (by decide) (by rfl) ?_)))
  have kf : PySem.Challenge.rw_il0079_01 = PySem.Challenge.rw_il0079_01 ∧ hd.heap_1 w.params = hd.heap_1 w.params := by (k_fill; exact ⟨rfl, rfl⟩)
  clear kf
  refine wpAny_call ?_
  k_dflt (refine' code_defC ?k1 ?k2 ?k3 ?k4 ?k5 ?kA ?kF ?kK ?k6 ?k7 ?k8 ?k9 ?kB ?kD ?_ ?c2 ?c3 ?c4; (case kA => exact rfl); (case kF => exact rfl); (case kK => assumption); (case k1 => k_asm); (case k2 => k_asm); (case k3 => k_asm); (case k4 => k_asm); (case k5 => k_asm); (case k6 => k_is); (case k7 => k_is); (case k8 => ktr_room); (case k9 => exact BindsTo.of_eq rfl); (case kB => exact rfl); (case kD => decide +kernel); (case c2 => exact rfl); (case c3 => exact rfl); (case c4 => exact rfl); k_whole; intro g' L' h' tk' cells' FG' F' N' Y' B' X' T' l1; (try k_lt l1); k_cells Y'; (try simp only [List.cons_append, List.nil_append] at N'); (try dsimp only); (try k_lift B'); (try k_fold))
  k_with "all" => first | exact fun p9 q9 => Nat.ne_of_lt (Nat.lt_succ_of_lt (l1 p9 q9)) | exact fun p9 q9 => Nat.ne_of_lt (Nat.lt_succ_of_lt (Nat.lt_succ_of_lt (l1 p9 q9)))
  k_with "my map" => (refine mapCall (by assumption) (by assumption) (.tail _ (.tail _ hN)) ?_; intro M9 T9 I9 o9 h9 F9 N9 i9 a9 b9 c9)
  k_with "my tuple" => (refine tupleMap (n := n) (vs := [.str x t, .str y u]) rfl (hc_fspath B' X' T' rfl (by ktr_room) (by ktr_units)) two_fit F9 N9 i9 (ne_under a9) (.tail _ (.tail _ hN)) ?_; clear F9 N9 i9 a9 b9 c9; intro D8 h8 tk8 F8 N8 d8; k_lt d8)
  k_steps
  refine wpAny_Try_except ?_
  k_steps
  rename List (Str × Tok) => lx
  rename List.map _ lx = _ => hlx
  refine end_new (by assumption) (by assumption) rfl (by assumption) (by assumption) ⟨_, .tail _ (.head _), rfl, _, rfl⟩ ?_
  k_steps
  rename List (Str × Tok) => ly
  rename List.map _ ly = _ => hly
  refine end_new (by assumption) (by assumption) rfl (by assumption) (by assumption) ⟨_, .tail _ (.tail _ (.head _)), rfl, _, rfl⟩ ?_
  k_steps
  refine wpAny_Try_except ?_
  k_steps
  k_whole
  refine SrcS.intro (ax := D8) (a := .str x t) (b := .str y u) rfl (by assumption) (by assumption) (.tail _ (.tail _ (.tail _ (.head _)))) ?_ ?_ ?_
  · intro I9 oI9 C9 oC9 D9 oD9 m9 h9 tk9 E9 n9 x9 F9 N9 off9 ne9
    k_steps
    refine end_same (by assumption) (by assumption) (by assumption) rfl ?_
    rw [hxs]
  · intro I9 oI9 C9 oC9 D9 oD9 m9 h9 tk9 E9 n9 x9 F9 N9 off9 ne9
    k_steps
    refine end_same (by assumption) (by assumption) (by assumption) rfl ?_
    rw [hys]
  intro D7 h7 tk7 F7 N7 off7
  refine unpack_set rfl rfl F7 N7 (.head _) ?_
  clear F7 N7
  intro h7 F7 N7
  iterate 13 ((try (k_unfold; (try dsimp only))); walk1)
  refine LCt.CompSrcT.ledger (by rfl) (by assumption) (by assumption) (k := 0) (its := (strValues lx).toArray) (by k_mem) (sv_fit hlx hx) ?_
  intro g6
  refine restT_inv (fun i ys nw => nw = _ ∧ ys = strValues (compsOf (List.take i lx))) ⟨rfl, rfl⟩ ?_ ?_
  · intro i ys nw v I6 oI6 C6 oC6 D6 m6 h6 tk6 E6 hi6 hJ6 hv6 hC6 hx6 F6 N6 off6 ne6
    obtain ⟨rfl, rfl⟩ := hJ6
    obtain ⟨⟨c, tc⟩, hp, rfl⟩ := sv_at hv6
    dsimp only at hx6
    have hcl := part_le hlx hx hp
    k_steps
    · exact end_same off6 (by assumption) (by assumption) (.inr ⟨_, by k_mem, rfl, _, rfl⟩) ⟨rfl, take_keep (p := (c, tc)) hp (keep_yes (by assumption) (by assumption))⟩
    · exact end_same off6 (by assumption) (by assumption) (.inr ⟨_, by k_mem, rfl, _, rfl⟩) ⟨rfl, take_skip (p := (c, tc)) hp (keep_dot (by assumption))⟩
    · exact end_same off6 (by assumption) (by assumption) (.inr ⟨_, by k_mem, rfl, _, rfl⟩) ⟨rfl, take_skip (p := (c, tc)) hp (keep_nil (by assumption))⟩
  intro ys nw hJ6
  obtain ⟨rfl, rfl⟩ := hJ6
  rw [take_all]
  k_steps
  refine end_off (by assumption) (by assumption) (by assumption) (by assumption) (.inr ⟨_, .tail _ (.tail _ (.head _)), rfl, _, rfl⟩) ?_
  iterate 3 ((try (k_unfold; (try dsimp only))); walk1)
  refine LCt.CompSrcT.ledger (by rfl) (by assumption) (by assumption) (k := 0) (its := (strValues ly).toArray) (by k_mem) (sv_fit hly hx0) ?_
  intro g6
  refine restT_inv (fun i ys nw => nw = _ ∧ ys = strValues (compsOf (List.take i ly))) ⟨rfl, rfl⟩ ?_ ?_
  · intro i ys nw v I6 oI6 C6 oC6 D6 m6 h6 tk6 E6 hi6 hJ6 hv6 hC6 hx6 F6 N6 off6 ne6
    obtain ⟨rfl, rfl⟩ := hJ6
    obtain ⟨⟨c, tc⟩, hp, rfl⟩ := sv_at hv6
    dsimp only at hx6
    have hcl := part_le hly hx0 hp
    k_steps
    · exact end_same off6 (by assumption) (by assumption) (.inr ⟨_, by k_mem, rfl, _, rfl⟩) ⟨rfl, take_keep (p := (c, tc)) hp (keep_yes (by assumption) (by assumption))⟩
    · exact end_same off6 (by assumption) (by assumption) (.inr ⟨_, by k_mem, rfl, _, rfl⟩) ⟨rfl, take_skip (p := (c, tc)) hp (keep_dot (by assumption))⟩
    · exact end_same off6 (by assumption) (by assumption) (.inr ⟨_, by k_mem, rfl, _, rfl⟩) ⟨rfl, take_skip (p := (c, tc)) hp (keep_nil (by assumption))⟩
  intro ys nw hJ6
  obtain ⟨rfl, rfl⟩ := hJ6
  rw [take_all]
  k_steps
  refine end_off (by assumption) (by assumption) (by assumption) (by assumption) (.inr ⟨_, .tail _ (.tail _ (.tail _ (.head _))), rfl, _, rfl⟩) ?_
  k_with "my min" => (refine min_pick (la := compsOf lx) (lb := compsOf ly) rfl (by ktr_units) (by assumption) (by assumption) (.head _) (.tail _ (.tail _ (.head _))) (.tail _ (.head _)) ?_; intro V1 h5 tk5 F5 N5 v1; generalize hl1 : (if cmpS sLt (decide ((compsOf ly).length < (compsOf lx).length)) ((compsOf ly).map (·.1)) ((compsOf lx).map (·.1)) = true then compsOf ly else compsOf lx) = l1 at v1)
  k_with "my max" => (refine max_pick (la := compsOf lx) (lb := compsOf ly) rfl (by ktr_units) (by assumption) (by assumption) (.head _) (.tail _ (.tail _ (.head _))) (.tail _ (.head _)) ?_; intro V2 h4 tk4 F4 N4 v2; generalize hl2 : (if cmpS sGt (decide ((compsOf lx).length < (compsOf ly).length)) ((compsOf ly).map (·.1)) ((compsOf lx).map (·.1)) = true then compsOf ly else compsOf lx) = l2 at v2)
  k_steps
  obtain ⟨hlcp, hidx⟩ := pick_facts hl1 hl2
  have w1 := wt_pick hl1 (wt_comps hlx hx) (wt_comps hly hx0)
  rename Fr _ _ _ _ => FA
  rename News _ _ _ _ => NA
  refine enumL_at (CmJ V1 V2 l1 l2 _) rfl ⟨_, v1⟩ FA NA ⟨rfl, rfl, rfl, rfl, rfl, fun k hk => absurd hk (Nat.not_lt_zero _)⟩ ?_ ?_
  · intro i v ti m₁ nx h3 tk3 own hv hJ hadr F3 N3
    obtain ⟨rfl, e0, e1, e2, e3, e4⟩ := hJ
    obtain ⟨⟨c, tc⟩, hc, rfl⟩ := svl_at hv
    have hi1 : i < l1.length := (List.getElem?_eq_some_iff.mp hc).1
    have hi2 := hidx i hi1 e4
    obtain ⟨⟨d, td⟩, hd⟩ : ∃ q, l2[i]? = some q := ⟨_, List.getElem?_eq_getElem hi2⟩
    have hd2 : (strValues l2)[(i : Int).toNat]? = some (.str d td) := by simp [strValues, hd]
    have F3a := fr_know (x := Str.ofString "common") F3 (by rw [if_neg (by decide), if_neg (by decide)]; exact e0)
    have F3b := fr_know (x := Str.ofString "s1") F3a (by rw [if_neg (by decide), if_neg (by decide), if_neg (by decide)]; exact e1)
    have F3c := fr_know (x := Str.ofString "s2") F3b (by rw [if_neg (by decide), if_neg (by decide), if_neg (by decide), if_neg (by decide)]; exact e2)
    have F3d := fr_know (x := Str.ofString "isabs") F3c (by rw [if_neg (by decide), if_neg (by decide), if_neg (by decide), if_neg (by decide), if_neg (by decide)]; exact e3)
    clear F3 F3a F3b F3c
    iterate 7 ((try (k_unfold; (try dsimp only))); walk1)
    rename News _ _ _ _ => N2
    have hil := wt_len w1
    refine item_listL (l := strValues l2) ⟨_, (N2 _ (List.mem_append_left _ v2)).1, rfl, _, rfl⟩ (by omega) (by omega) hd2 ?_
    iterate 3 ((try (k_unfold; (try dsimp only))); walk1)
    · rename (c != d) = true => hne
      iterate 9 ((try (k_unfold; (try dsimp only))); walk1)
      rename News _ _ _ _ => N5
      rename Fr _ _ _ _ => F5
      refine slice_list (items := (strValues l1).toArray) F5 N5 ⟨_, (N5 _ (List.mem_append_left _ v1)).1, rfl, _, rfl⟩ .none (.int _ _) ?_ (hsz := w_fit w1)
      intro h6 F6 N6
      rw [slice_up hi1] at N6
      k_with "call builtin:str.join" => (rename News _ _ _ _ => N2; refine join_list ⟨_, (N2 _ (.head _)).1, rfl, _, rfl⟩ (sv_are (l1.take i)) (wt_sum (wt_take i w1)) ?_; have hjl := wt_join (wt_take i w1); intro t9 k9)
      k_steps
      rename News _ _ _ _ => kN9
      exact hret _ _ _ ⟨_, congrArg (Value.str · _) (common_cut hlx hly hlcp e4 hc hd hne)⟩ (by k_asm) (news_sub kN9 fun p hp => .tail _ (List.mem_append_left _ (.tail _ (.tail _ (.tail _ (.tail _ (.tail _ (.tail _ (.tail _ (.tail _ (.tail _ (.tail _ hp))))))))))))
    · iterate 3 ((try (k_unfold; (try dsimp only))); walk1)
      exact cm_end (by assumption) (by assumption) rfl rfl rfl rfl rfl (cm_more e4 hc hd (by assumption))
  · intro m₁ nx h3 tk3 hJ hadr F3 N3
    obtain ⟨rfl, e0, e1, e2, e3, e4⟩ := hJ
    have F3a := fr_know (x := Str.ofString "common") F3 e0
    have F3b := fr_know (x := Str.ofString "isabs") F3a (by rw [if_neg (by decide)]; exact e3)
    clear F3 F3a
    k_with "call builtin:str.join" => (rename News _ _ _ _ => N2; refine join_list ⟨_, (N2 _ v1).1, rfl, _, rfl⟩ (sv_are l1) (wt_sum w1) ?_; have hjl := wt_join w1; intro t9 k9)
    k_steps
    rename News _ _ _ _ => kN9
    exact hret _ _ _ ⟨_, congrArg (Value.str · _) (common_all hlx hly hlcp e4)⟩ (by k_asm) (news_sub kN9 fun p hp => (.tail _ (.tail _ (.tail _ (.tail _ (.tail _ (.tail _ (.tail _ (.tail _ (.tail _ (.tail _ hp)))))))))))
end
section
local macro_rules | `(tactic| walk_at "no key 0") => `(tactic| fail)
local macro_rules | `(tactic| walk_at "no key 1") => `(tactic| fail)
local macro_rules | `(tactic| walk_at "no key 2") => `(tactic| fail)
local macro_rules | `(tactic| walk_at "call ref") => `(tactic| k_extra "m14")
noncomputable def wstep (ab wh he : List Int) (hung : List Int) (k : Int) : List Int :=
  if he.any (· == k) = true then
    let v := hung.getD (k + 1).toNat 0
    let u := if wh.getD k.toNat 0 = 0 then stalk v else if wh.getD k.toNat 0 = 1 then -stalk (-v) else v
    hung.set (ab.getD k.toNat 0).toNat (hung.getD (ab.getD k.toNat 0).toNat 0 + u)
  else hung
noncomputable def hungTo (ab wh he : List Int) (pre : List Int) : List Int := pre.foldl (wstep ab wh he) (List.replicate (ab.length + 1) 0)
noncomputable def ksOf (n : Nat) : List Int := (List.range n).map fun i : Nat => ((n : Int) - 1) + (i : Int) * (-1)
noncomputable def hungAt (ab wh he : List Int) (i : Nat) : List Int := hungTo ab wh he ((ksOf ab.length).take i)
theorem range_down : ∀ n : Nat, n ≤ 6 → Builtin.Range.small ((n : Int) - 1) (-1) (-1) = true ∧ Builtin.Range.rangeSize ((n : Int) - 1) (-1) (-1) = (n : Int) := by decide
noncomputable def WJ (ab wh he : List Int) (la lw lh D : Addr) (rest : List (Addr × Obj)) (i : Nat) (m : Str → Option Value) (nx : List (Addr × Obj)) : Prop :=
  ∃ us k, nx = (D, listOf us.toArray k) :: rest ∧ IntsAre us (hungAt ab wh he i) ∧ m (Str.ofString "hung") = some (.ref D) ∧ m (Str.ofString "aboves") = some (.ref la) ∧ m (Str.ofString "whose") = some (.ref lw) ∧ m (Str.ofString "here") = some (.ref lh)
local macro_rules | `(tactic| walk_at "PostG") => `(tactic| k_extra "m15")
theorem hungAt_more {ab wh he : List Int} {i : Nat} (hi : i < ab.length) : hungAt ab wh he (i + 1) = wstep ab wh he (hungAt ab wh he i) (((ab.length : Int) - 1) + (i : Int) * (-1)) := by
  unfold hungAt hungTo ksOf
  rw [List.take_add_one]
  simp [hi]
theorem hungAt_len {ab wh he : List Int} : ∀ i : Nat, (hungAt ab wh he i).length = ab.length + 1
  | 0 => by simp [hungAt, hungTo]
  | i + 1 => by
    have ih := hungAt_len (ab := ab) (wh := wh) (he := he) i
    by_cases hi : i < ab.length
    · rw [hungAt_more hi]
      unfold wstep
      split
      · simp [ih]
      · exact ih
    · have : hungAt ab wh he (i + 1) = hungAt ab wh he i := by
        unfold hungAt ksOf
        rw [List.take_of_length_le (by simp; omega), List.take_of_length_le (by simp; omega)]
      rw [this]; exact ih
theorem all_off {l D : Addr} {o : Obj} {news : List (Addr × Obj)} (h : l < D) (hN : ∀ p : Addr × Obj, p ∈ news → p.1 < l) : ∀ p ∈ (l, o) :: news, p.1 ≠ D :=
  List.forall_mem_cons.mpr ⟨Nat.ne_of_lt h, fun p hp => Nat.ne_of_lt (Nat.lt_trans (hN p hp) h)⟩
theorem hung0 {n : Nat} : (List.replicate ((n : Int) + 1).toNat [(0 : Int)]).flatten = List.replicate (n + 1) 0 := by
  have e : ((n : Int) + 1).toNat = n + 1 := by omega
  rw [e]
  induction (n + 1) with
  | zero => rfl
  | succ k ih => rw [List.replicate_succ, List.flatten_cons, ih, List.replicate_succ]; rfl
theorem hoff2 {D I : Addr} {o o' : Obj} {rest : List (Addr × Obj)} (h : ∀ p ∈ (D, o) :: rest, p.1 ≠ I) : ∀ p ∈ (D, o') :: rest, p.1 ≠ I :=
  List.forall_mem_cons.mpr ⟨h (D, o) (.head _), fun p hp => h p (.tail _ hp)⟩
theorem wstep_0 {ab wh he H : List Int} {k : Int} (h : he.any (· == k) = true) (h0 : wh.getD k.toNat 0 = 0) :
    wstep ab wh he H k = H.set (ab.getD k.toNat 0).toNat (H.getD (ab.getD k.toNat 0).toNat 0 + stalk (H.getD (k + 1).toNat 0)) := by
  unfold wstep; rw [if_pos h]; dsimp only; rw [if_pos h0]
theorem wstep_1 {ab wh he H : List Int} {k : Int} (h : he.any (· == k) = true) (h0 : wh.getD k.toNat 0 ≠ 0) (h1 : wh.getD k.toNat 0 = 1) :
    wstep ab wh he H k = H.set (ab.getD k.toNat 0).toNat (H.getD (ab.getD k.toNat 0).toNat 0 + -stalk (-H.getD (k + 1).toNat 0)) := by
  unfold wstep; rw [if_pos h]; dsimp only; rw [if_neg h0, if_pos h1]
theorem wstep_2 {ab wh he H : List Int} {k : Int} (h : he.any (· == k) = true) (h0 : wh.getD k.toNat 0 ≠ 0) (h1 : wh.getD k.toNat 0 ≠ 1) :
    wstep ab wh he H k = H.set (ab.getD k.toNat 0).toNat (H.getD (ab.getD k.toNat 0).toNat 0 + H.getD (k + 1).toNat 0) := by
  unfold wstep; rw [if_pos h]; dsimp only; rw [if_neg h0, if_neg h1]
theorem wstep_n {ab wh he H : List Int} {k : Int} (h : he.any (· == k) = false) : wstep ab wh he H k = H := by
  unfold wstep; rw [if_neg (by rw [h]; decide)]
theorem stalk_bd (u : Int) : -128 ≤ stalk u ∧ (stalk u ≤ u + 64 ∨ stalk u ≤ 128) := by
  unfold stalk stalkN
  have hf := fdiv_fmod_facts (-u) 64
  split
  · rename_i h
    simp only [Int.sub_self, Int.toNat_zero, Int.pow_zero, Int.mul_one]
    rw [Int.fdiv_one]
    omega
  · rename_i h
    have h1 : 0 ≤ u + 64 * (Int.fdiv (-u) 64 + 2) := by omega
    have h2 : u + 64 * (Int.fdiv (-u) 64 + 2) ≤ 128 := by omega
    have hp : (0 : Int) < 2 ^ (Int.fdiv (-u) 64 + 2 - 1).toNat := Int.pow_pos (by decide)
    rw [Int.fdiv_eq_ediv_of_nonneg _ (Int.le_of_lt hp)]
    have h3 : 0 ≤ (u + 64 * (Int.fdiv (-u) 64 + 2)) / 2 ^ (Int.fdiv (-u) 64 + 2 - 1).toNat := Int.ediv_nonneg h1 (Int.le_of_lt hp)
    have h4 : (u + 64 * (Int.fdiv (-u) 64 + 2)) / 2 ^ (Int.fdiv (-u) 64 + 2 - 1).toNat ≤ u + 64 * (Int.fdiv (-u) 64 + 2) := Int.ediv_le_self _ h1
    omega
noncomputable def bdd (H : List Int) (M : Int) : Prop := ∀ j, -M ≤ H.getD j 0 ∧ H.getD j 0 ≤ M
theorem bdd_mono {H : List Int} {M M' : Int} (h : bdd H M) (hm : M ≤ M') : bdd H M' := fun j => ⟨by have := (h j).1; omega, by have := (h j).2; omega⟩
theorem bdd_set {H : List Int} {M : Int} {i : Nat} {v : Int} (h : bdd H M) (h1 : -M ≤ v) (h2 : v ≤ M) : bdd (H.set i v) M := by
  intro j
  rw [List.getD_eq_getElem?_getD, List.getElem?_set]
  have hj := h j
  rw [List.getD_eq_getElem?_getD] at hj
  split
  · split
    · exact ⟨h1, h2⟩
    · simp only [Option.getD_none]; omega
  · exact hj
theorem wstep_bd {ab wh he H : List Int} {k M : Int} (hM : 0 ≤ M) (h : bdd H M) : bdd (wstep ab wh he H k) (2 * M + 128) := by
  have hb := bdd_mono h (show M ≤ 2 * M + 128 by omega)
  have hv := h (k + 1).toNat
  have ht := h (ab.getD k.toNat 0).toNat
  have s1 := stalk_bd (H.getD (k + 1).toNat 0)
  have s2 := stalk_bd (-H.getD (k + 1).toNat 0)
  unfold wstep
  split
  · dsimp only
    split
    · exact bdd_set hb (by omega) (by omega)
    · split
      · exact bdd_set hb (by omega) (by omega)
      · exact bdd_set hb (by omega) (by omega)
  · exact hb
noncomputable def bdN : Nat → Int
  | 0 => 0
  | i + 1 => 2 * bdN i + 128
theorem bdN_pos : ∀ i, 0 ≤ bdN i
  | 0 => Int.le_refl _
  | i + 1 => by have := bdN_pos i; unfold bdN; omega
theorem hungAt_bd {ab wh he : List Int} : ∀ i : Nat, i ≤ ab.length → bdd (hungAt ab wh he i) (bdN i)
  | 0, _ => by
    intro j
    have e : (hungAt ab wh he 0).getD j 0 = 0 := by
      show (List.replicate (ab.length + 1) (0 : Int)).getD j 0 = 0
      rw [List.getD_eq_getElem?_getD, List.getElem?_replicate]
      split <;> rfl
    rw [e]; decide
  | i + 1, hi => by
    rw [hungAt_more (by omega)]
    exact wstep_bd (bdN_pos i) (hungAt_bd i (by omega))
theorem bdN_5 : ∀ i : Nat, i < 6 → bdN i < 5000 := by decide
theorem hung_fit {ab wh he : List Int} {i j : Nat} (h6 : ab.length ≤ 6) (hi : i < ab.length) : -5000 < (hungAt ab wh he i).getD j 0 ∧ (hungAt ab wh he i).getD j 0 < 5000 := by
  have h := hungAt_bd (ab := ab) (wh := wh) (he := he) i (Nat.le_of_lt hi) j
  have := bdN_5 i (by omega)
  omega
noncomputable def worthS (ab wh he : List Int) : Int := (hungAt ab wh he ab.length).getD 0 0
local macro_rules
  | `(tactic| walk_at "subscriptTail") => `(tactic| (k_here; k_dflt (k_extra "my sub")))
  | `(tactic| walk_at "subscriptTail Name Name ref int") => `(tactic| (k_here; k_dflt (k_extra "my sub")))
  | `(tactic| walk_at "subscriptTail Name Subscript ref int") => `(tactic| (k_here; k_dflt (k_extra "my sub")))
  | `(tactic| walk_at "subscriptTail Name BinOp ref int") => `(tactic| (k_here; k_dflt (k_extra "my sub")))
  | `(tactic| walk_at "subscriptTail Name Constant ref int") => `(tactic| (k_here; k_dflt (k_extra "my sub")))
  | `(tactic| walk_at "getItem ref int") => `(tactic| (k_here; k_dflt (k_extra "my get")))
  | `(tactic| walk_at "setItem ref int") => `(tactic| (k_here; k_dflt (k_extra "my set")))
  | `(tactic| walk_at "compareOp In int ref") => `(tactic| (k_here; k_dflt (k_extra "my in")))
theorem w_k {n i : Nat} (hi : i < n) (h6 : n ≤ 6) : 0 ≤ ((n : Int) - 1 + (i : Int) * -1) ∧ ((n : Int) - 1 + (i : Int) * -1) < 2 ^ 63 ∧ 0 ≤ ((n : Int) - 1 + (i : Int) * -1) + 1 ∧ ((n : Int) - 1 + (i : Int) * -1) + 1 < ((n + 1 : Nat) : Int) ∧ ((n : Int) - 1 + (i : Int) * -1) + 1 < 2 ^ 63 ∧ ((n : Int) - 1 + (i : Int) * -1) < (n : Int) ∧ ((n : Int) - 1 + (i : Int) * -1).toNat = n - 1 - i ∧ n - 1 - i < n := by
  refine ⟨?_, ?_, ?_, ?_, ?_, ?_, ?_, ?_⟩ <;> omega
theorem w_j {n i : Nat} {x : Int} (hi : i < n) (h6 : n ≤ 6) (h : 0 ≤ x ∧ x ≤ ((n - 1 - i : Nat) : Int)) : x < 2 ^ 63 ∧ x < ((n + 1 : Nat) : Int) := by
  constructor <;> omega
theorem w_v {x : Int} (h : -5000 < x ∧ x < 5000) : -5000 < -x ∧ -x < 5000 := by
  constructor <;> omega
theorem len_as {prog : Program} {w : World} {A : Around} {E : Value → Shared → Prop} {s : Shared} {h₀ : Heap} {L la : Addr} {news : List (Addr × Obj)} {as : List Value} {ab : List Int} {n : Nat} {Q : Value → Shared → Prop} (ha : IntsAre as ab)
    (N : News h₀ L s.heap news) (hm : (la, listOf as.toArray n) ∈ news) (hl : ab.length ≤ 100)
    (h : Q (.int ab.length (s.toks + 1)) { s with toks := s.toks + 1 + 1 }) : wpAny (model prog w) A (call (.builtin "len") [.ref la]) Q E s := by
  have e : as.toArray.size = ab.length := by rw [List.size_toArray, ha.length]
  refine len_list ⟨_, (N _ hm).1, rfl, _, rfl⟩ (by rw [e]; omega) ?_
  rw [e]; exact h
set_option maxRecDepth 100000 in
set_option maxHeartbeats 8000000 in
theorem worth_spec (w : World) (mean : ExcName → Option Value) (mg mb : Str → Option Value) (la lw lh : Addr) (as ws hs : List Value) (ab wh he : List Int) (ha : IntsAre as ab) (hw : IntsAre ws wh) (hh : IntsAre hs he) (n1 n2 n3 : Nat)
    (hlen : wh.length = ab.length) (h6 : ab.length ≤ 6) (hab : ∀ k, k < ab.length → 0 ≤ ab.getD k 0 ∧ ab.getD k 0 ≤ k) (hhe : he.length ≤ 6) :
    Claim w mean mg mb 242 2 16 0 [(la, listOf as.toArray n1), (lw, listOf ws.toArray n2), (lh, listOf hs.toArray n3)] [.ref la, .ref lw, .ref lh] (fun v => ∃ t', v = .int (worthS ab wh he) t') := by
  unfold Claim
  intro dp un gd cn cs a ccd cl outer A₀ base h₀ L m news s Q E B F X N T hk hn hdp hun htk hret
  have hna := hn _ (.head _)
  have hnw := hn _ (.tail _ (.head _))
  have hnh := hn _ (.tail _ (.tail _ (.head _)))
  w_top off
  k_with_none
  k_with "m1" => ((k_here; refine execs_cons_t (by first | exact Nat.succ_pos _ | assumption | (dsimp only; omega)) ?_; (try k_fold)))
  k_with "m2" => (first | (refine tnext_next ?_; intro tk9 htk9) | refine tnext_ret ?_ | refine tnext_brk ?_ | refine tnext_cont ?_)
  k_with "m14" => ((k_here; k_dflt (first | refine' claim_use (stalk_spec _ _ _ _ _ _ (by assumption) (by assumption)) ?k1 ?k2 ?k3 ?k4 ?k5 ?kK ?kn ?kd ?ku ?kt ?_); (case k1 => k_asm); (case k2 => k_asm); (case k3 => k_asm); (case k4 => k_asm); (case k5 => k_asm); (case kK => first | exact rfl | assumption); (case kn => first | exact fun _ h9 => nomatch h9 | assumption); (case kd => ktr_room); (case ku => ktr_units); (case kt => first | exact Nat.zero_le _ | (dsimp only; omega)); intro r9 h9 tk9 R9 F9 N9; (first | (obtain ⟨t9, e9⟩ := R9; subst e9) | subst R9 | skip); (try dsimp only); (try k_fold)))
  k_with "m15" => (first | refine postG_next ?_ | refine postG_cont ?_ | refine postG_ret ?_ | refine postG_brk ?_)
  have kf : PySem.Challenge.rw_il0079_01 = PySem.Challenge.rw_il0079_01 ∧ hd.heap_1 w.params = hd.heap_1 w.params := by (k_fill; exact ⟨rfl, rfl⟩)
  clear kf
  refine wpAny_call ?_
  k_dflt cell_enter
  have hla : as.length = ab.length := ha.length
  k_with "call builtin:len" => (rename News _ _ _ _ => N2; refine len_as ha N2 (by first | exact hna | exact .tail _ hna | exact .tail _ (.tail _ hna)) (by omega) ?_)
  iterate 46 ((try (k_unfold; (try dsimp only))); walk1)
  rename Fr _ _ _ _ => F1
  rename News _ _ _ _ => N1
  rename IsRange _ _ _ _ _ _ _ _ => R1
  rename IntsAre _ (List.flatten _) => I1
  refine rangeInv (WJ ab wh he la lw lh _ _) rfl R1 (range_down _ h6).1 (range_down _ h6).2 F1 N1 ⟨_, _, rfl, ?_, rfl, rfl, rfl, rfl⟩ ?_ ?_
  · rw [show hungAt ab wh he 0 = List.replicate (ab.length + 1) 0 from rfl]
    rw [hung0] at I1
    exact I1
  · intro i ti m₁ nx h3 tk3 I3 oI3 hi hJ hoff F3 N3
    obtain ⟨us, k3, rfl, hus, e0, e1, e2, e3⟩ := hJ
    have F3a := fr_know (x := Str.ofString "hung") F3 (by rw [if_neg (by decide)]; exact e0)
    have F3b := fr_know (x := Str.ofString "aboves") F3a (by rw [if_neg (by decide), if_neg (by decide)]; exact e1)
    have F3c := fr_know (x := Str.ofString "whose") F3b (by rw [if_neg (by decide), if_neg (by decide), if_neg (by decide)]; exact e2)
    have F3d := fr_know (x := Str.ofString "here") F3c (by rw [if_neg (by decide), if_neg (by decide), if_neg (by decide), if_neg (by decide)]; exact e3)
    clear F3 F3a F3b F3c
    have hul : us.length = ab.length + 1 := hus.length.trans (hungAt_len i)
    have hHl := hungAt_len (ab := ab) (wh := wh) (he := he) i
    obtain ⟨k0, k1, k2, k3, k3b, k4, eK, k5⟩ := w_k hi h6
    rw [← hHl] at k3
    have k4w := k4
    rw [← hlen] at k4w
    have habk : 0 ≤ ab.getD ((ab.length : Int) - 1 + (i : Int) * -1).toNat 0 ∧ ab.getD ((ab.length : Int) - 1 + (i : Int) * -1).toNat 0 ≤ ((ab.length - 1 - i : Nat) : Int) := by rw [eK]; exact hab _ k5
    obtain ⟨j1, j2⟩ := w_j hi h6 habk
    rw [← hHl] at j2
    have j0 := habk.1
    have hv : -5000 < (hungAt ab wh he i).getD ((ab.length : Int) - 1 + (i : Int) * -1 + 1).toNat 0 ∧ (hungAt ab wh he i).getD ((ab.length : Int) - 1 + (i : Int) * -1 + 1).toNat 0 < 5000 := hung_fit h6 hi
    have hv1 := hv.1
    have hv2 := hv.2
    obtain ⟨hv3, hv4⟩ := w_v hv
    have hDI : I3 ≠ _ := Ne.symm (hoff _ (.head _))
    rename (_ ∧ AllLt _ news) => lD
    rename (∀ p : Addr × Obj, p ∈ news → p.1 < _) => lN
    have hwl := hw.length
    k_with "my get" => (rename News _ _ _ _ => N2; refine ksa_get N2 (.tail _ (.head _)) hus (by first | assumption | omega) (by first | assumption | omega) (by first | assumption | omega) ?_; intro t8)
    k_with "my set" => (rename News _ _ _ _ => N2; rename Fr _ _ _ _ => F2; refine ksa_set F2 N2 (Upd.tail hDI (Upd.head (all_off lD.1 lN))) hus (by first | assumption | omega) (by first | assumption | omega) (by first | assumption | omega) ?_; clear F2 N2; intro h8 F8 N8 i8 l8 s8)
    k_with "my in" => (rename News _ _ _ _ => N2; refine in_list_ints ⟨_, (N2 _ (.tail _ (.tail _ (.tail _ hnh)))).1, rfl, _, rfl⟩ hh ?_)
    k_with "my sub" => (rename News _ _ _ _ => N2; first | refine item_list_ints ⟨_, (N2 _ (.tail _ (.head _))).1, rfl, _, rfl⟩ hus (by first | assumption | omega) (by first | assumption | omega) (by first | assumption | omega) ?_ | refine item_list_ints ⟨_, (N2 _ (.tail _ (.tail _ (.tail _ hnw)))).1, rfl, _, rfl⟩ hw (by first | assumption | omega) (by first | assumption | omega) (by first | assumption | omega) ?_ | refine item_list_ints ⟨_, (N2 _ (.tail _ (.tail _ (.tail _ hna)))).1, rfl, _, rfl⟩ ha (by first | assumption | omega) (by first | assumption | omega) (by first | assumption | omega) ?_)
    k_steps
    · refine ⟨_, _, _, _, rfl, by assumption, by assumption, hoff2 hoff, _, _, rfl, ?_, rfl, rfl, rfl, rfl⟩
      rw [hungAt_more hi, wstep_0 (by assumption) (by assumption)]
      assumption
    · refine ⟨_, _, _, _, rfl, by assumption, by assumption, hoff2 hoff, _, _, rfl, ?_, rfl, rfl, rfl, rfl⟩
      rw [hungAt_more hi, wstep_1 (by assumption) (by assumption) (by assumption)]
      assumption
    · refine ⟨_, _, _, _, rfl, by assumption, by assumption, hoff2 hoff, _, _, rfl, ?_, rfl, rfl, rfl, rfl⟩
      rw [hungAt_more hi, wstep_2 (by assumption) (by assumption) (by assumption)]
      assumption
    · refine ⟨_, _, _, _, rfl, by assumption, by assumption, hoff2 hoff, _, _, rfl, ?_, rfl, rfl, rfl, rfl⟩
      rw [hungAt_more hi, wstep_n (by assumption)]
      assumption
  · intro m₁ nx h3 tk3 hJ F3 N3
    obtain ⟨us, k3, rfl, hus, e0, e1, e2, e3⟩ := hJ
    have F3a := fr_know (x := Str.ofString "hung") F3 e0
    clear F3
    k_with "my sub" => (rename News _ _ _ _ => N2; refine item_list_ints ⟨_, (N2 _ (.head _)).1, rfl, _, rfl⟩ hus (by omega) (by rw [hungAt_len]; omega) (by omega) ?_)
    k_steps
    exact hret _ _ _ ⟨_, rfl⟩ (by k_asm) (News.tail' (News.tail' (by assumption)))
end
section
/-- what is left when i falls -/
noncomputable def fwLeft (fa : List (List Int)) (he : List Int) (i : Int) : List Int := he.filter fun j => !(fa.getD i.toNat []).any (· == j)
/-- the game as the program plays it; the fuel is the length of what is here -/
noncomputable def fw (cu : List Int) (fa : List (List Int)) : Nat → List Int → Int → Bool
  | 0, _, _ => false
  | f + 1, he, who => he.any fun i => cu.getD i.toNat 0 == who && !fw cu fa f (fwLeft fa he i) (1 - who)
noncomputable def fwB (cu : List Int) (fa : List (List Int)) (f : Nat) (he : List Int) (who : Int) (i : Int) : Bool := cu.getD i.toNat 0 == who && !fw cu fa (f - 1) (fwLeft fa he i) (1 - who)
theorem fw_any {cu : List Int} {fa : List (List Int)} {he : List Int} {who : Int} : ∀ {f : Nat}, he.length ≤ f → fw cu fa f he who = he.any (fwB cu fa f he who)
  | 0, h => by
    have : he = [] := List.length_eq_zero_iff.mp (by omega)
    subst this; rfl
  | f + 1, _ => rfl
theorem left_len {fa : List (List Int)} {he : List Int} {i : Int} (hi : i ∈ he) (hs : (fa.getD i.toNat []).any (· == i) = true) : (fwLeft fa he i).length < he.length := by
  unfold fwLeft
  rw [← List.countP_eq_length_filter]
  refine Nat.lt_of_le_of_ne List.countP_le_length fun e => ?_
  have := List.countP_eq_length.mp e i hi
  rw [hs] at this; cases this
local macro_rules | `(tactic| k_all) => `(tactic| k_extra "all")
local macro_rules
  | `(tactic| walk_at "eval ListComp") => `(tactic| k_extra "m16")
  | `(tactic| walk_at "CompSrcT") => `(tactic| k_extra "inner")
  | `(tactic| walk_at "call ref") => `(tactic| (k_here; k_extra "again"))
noncomputable def FJ (cu : List Int) (fa : List (List Int)) (he : List Int) (f : Nat) (who : Int) (tw : Tok) (lc lh ci cf : Addr) (oF : Obj) (news : List (Addr × Obj)) (i : Nat) (m : Str → Option Value) (nx : List (Addr × Obj)) : Prop :=
  ∃ oi v0, nx = (ci, oi) :: (cf, oF) :: news ∧ oi.data = .cell v0 ∧ m (Str.ofString "cuts") = some (.ref lc) ∧ m (Str.ofString "here") = some (.ref lh) ∧ m (Str.ofString "who") = some (.int who tw) ∧
    ∀ k ∈ he.take i, fwB cu fa f he who k = false
local macro_rules | `(tactic| walk_at "PostG") => `(tactic| k_extra "m17")
noncomputable def FwNeed (lc lf lh : Addr) (cs' fs hs : List Value) (n1 n2 n3 : Nat) (inner : List (Addr × Obj)) : List (Addr × Obj) := (lc, listOf cs'.toArray n1) :: (lf, listOf fs.toArray n2) :: (lh, listOf hs.toArray n3) :: inner
theorem int_at {hs : List Value} {he : List Int} : IntsAre hs he → ∀ {i : Nat} {v : Value}, hs[i]? = some v → ∃ (k : Int) (t : Tok), he[i]? = some k ∧ v = .int k t := by
  intro h
  induction h with
  | nil => intro i v e; simp at e
  | cons _ _ _ ih =>
    intro i v e
    cases i with
    | zero => simp at e; exact ⟨_, _, rfl, e.symm⟩
    | succ i => simp only [List.getElem?_cons_succ] at e ⊢; exact ih e
theorem ints_snoc {vs : List Value} {ns : List Int} (h : IntsAre vs ns) (k : Int) (t : Tok) : IntsAre (vs ++ [.int k t]) (ns ++ [k]) := by
  induction h with
  | nil => exact .cons _ _ .nil
  | cons n u _ ih => exact .cons n u ih
theorem filt_yes {p : Int → Bool} {he : List Int} {i : Nat} {j : Int} {ys : List Value} {t : Tok} (hj : he[i]? = some j) (hp : p j = true) (h : IntsAre ys ((he.take i).filter p)) : IntsAre (ys ++ [.int j t]) ((he.take (i + 1)).filter p) := by
  rw [List.take_add_one, hj, List.filter_append]
  simp only [Option.toList_some, List.filter_cons, hp, if_true, List.filter_nil]
  exact ints_snoc h j t
theorem filt_no {p : Int → Bool} {he : List Int} {i : Nat} {j : Int} {ys : List Value} (hj : he[i]? = some j) (hp : p j = false) (h : IntsAre ys ((he.take i).filter p)) : IntsAre ys ((he.take (i + 1)).filter p) := by
  rw [List.take_add_one, hj, List.filter_append]
  simp [hp]
  exact h
theorem fw_need {lc lf D I ci cf : Addr} {cs' fs ys : List Value} {n1 n2 : Nat} {oI oi oF : Obj} {inner news : List (Addr × Obj)} (hc : (lc, listOf cs'.toArray n1) ∈ news) (hf : (lf, listOf fs.toArray n2) ∈ news) (hi : ∀ p ∈ inner, p ∈ news) :
    ∀ p ∈ FwNeed lc lf D cs' fs ys n1 n2 ys.length inner, p ∈ (D, LCg.lst ys) :: (I, oI) :: (ci, oi) :: (cf, oF) :: news := by
  intro p hp
  have tl : ∀ p ∈ news, p ∈ (D, LCg.lst ys) :: (I, oI) :: (ci, oi) :: (cf, oF) :: news := fun p h => .tail _ (.tail _ (.tail _ (.tail _ h)))
  unfold FwNeed at hp
  rcases List.mem_cons.mp hp with rfl | hp
  · exact tl _ hc
  rcases List.mem_cons.mp hp with rfl | hp
  · exact tl _ hf
  rcases List.mem_cons.mp hp with rfl | hp
  · exact .head _
  · exact tl _ (hi _ hp)
theorem fwB_no {cu : List Int} {fa : List (List Int)} {f : Nat} {he : List Int} {w k : Int} (_h : cu.getD k.toNat 0 = w) (h : fw cu fa (f - 1) (fwLeft fa he k) (1 - w) = true) : fwB cu fa f he w k = false := by
  unfold fwB; rw [h]; simp
theorem fwB_yes {cu : List Int} {fa : List (List Int)} {f : Nat} {he : List Int} {w k : Int} (h0 : cu.getD k.toNat 0 = w) (h : fw cu fa (f - 1) (fwLeft fa he k) (1 - w) = false) : fwB cu fa f he w k = true := by
  unfold fwB; rw [h, h0]; simp
theorem fwB_not {cu : List Int} {fa : List (List Int)} {f : Nat} {he : List Int} {w k : Int} (h0 : cu.getD k.toNat 0 ≠ w) : fwB cu fa f he w k = false := by
  unfold fwB; rw [beq_false_of_ne h0]; rfl
theorem fj_more {g : Int → Bool} {he : List Int} {i : Nat} {k : Int} (h : ∀ j ∈ he.take i, g j = false) (hk : he[i]? = some k) (hb : g k = false) : ∀ j ∈ he.take (i + 1), g j = false := by
  intro j hj
  rw [List.take_add_one, hk] at hj
  rcases List.mem_append.mp hj with hj | hj
  · exact h j hj
  · rw [List.mem_singleton.mp hj]; exact hb
theorem all_off2 {I ci cf : Addr} {oi oi' oF : Obj} {news : List (Addr × Obj)} (h : ∀ p ∈ (ci, oi) :: (cf, oF) :: news, p.1 ≠ I) : ∀ p ∈ (ci, oi') :: (cf, oF) :: news, p.1 ≠ I :=
  List.forall_mem_cons.mpr ⟨h (ci, oi) (.head _), fun p hp => h p (.tail _ hp)⟩
theorem hnh2 {x a b : Addr × Obj} {news : List (Addr × Obj)} (h : x ∈ news) : x ∈ a :: b :: news := .tail _ (.tail _ h)
theorem f_dp {dp f N : Nat} (h : 0 < f) (hd : dp + (2 + 2 * f) < N) : dp + 1 + (2 + 2 * (f - 1)) < N := by omega
theorem f_un {un f N : Nat} (h : 0 < f) (hd : un + (16 + 16 * f) < N) : un + 3 + (16 + 16 * (f - 1)) < N := by omega
theorem f_len {f n m : Nat} (h : m < n) (hn : n ≤ f) : m ≤ f - 1 := by omega
set_option maxRecDepth 100000 in
set_option maxHeartbeats 8000000 in
theorem first_step (w : World) (mean : ExcName → Option Value) (mg mb : Str → Option Value) (lc lf : Addr) (cs' fs : List Value) (cu : List Int) (fa : List (List Int)) (hfl : fa.length = cu.length) (h6 : cu.length ≤ 6) (hc : IntsAre cs' cu) (n1 n2 : Nat) (inner : List (Addr × Obj)) (hfs : ∀ k : Int, 0 ≤ k → k < fa.length → ∃ D us n, fs[k.toNat]? = some (.ref D) ∧ (D, listOf us.toArray n) ∈ inner ∧ IntsAre us (fa.getD k.toNat []))
    (hself : ∀ k : Int, 0 ≤ k → k < fa.length → (fa.getD k.toNat []).any (· == k) = true) (f : Nat) (hf6 : f ≤ 6)
    (ih : ∀ f', f' < f → ∀ (lh : Addr) (hs : List Value) (he : List Int) (n3 : Nat) (who : Int) (tw : Tok), (∀ k ∈ he, 0 ≤ k ∧ k < cu.length) → IntsAre hs he → he.length ≤ f' → 0 ≤ who → who ≤ 1 → Claim w mean mg mb 228 (2 + 2 * f') (16 + 16 * f') 0 (FwNeed lc lf lh cs' fs hs n1 n2 n3 inner) [.ref lc, .ref lf, .ref lh, .int who tw] (fun v => v = .bool (fw cu fa f' he who)))
    (lh : Addr) (hs : List Value) (he : List Int) (n3 : Nat) (who : Int) (tw : Tok) (hr : ∀ k ∈ he, 0 ≤ k ∧ k < cu.length) (hh : IntsAre hs he) (hlen : he.length ≤ f) (hw0 : 0 ≤ who) (hw1 : who ≤ 1) :
    Claim w mean mg mb 228 (2 + 2 * f) (16 + 16 * f) 0 (FwNeed lc lf lh cs' fs hs n1 n2 n3 inner) [.ref lc, .ref lf, .ref lh, .int who tw] (fun v => v = .bool (fw cu fa f he who)) := by
  unfold Claim FwNeed
  intro dp un gd cn cs a ccd cl outer A₀ base h₀ L m news s Q E B F X N T hk hn hdp hun htk hret
  have hnc := hn _ (.head _)
  have hnf := hn _ (.tail _ (.head _))
  have hnh := hn _ (.tail _ (.tail _ (.head _)))
  w_top off
  k_with_none
  k_with "m1" => ((k_here; refine execs_cons_t (by first | exact Nat.succ_pos _ | assumption | (dsimp only; omega)) ?_))
  k_with "m2" => (first | (refine tnext_next ?_; intro tk9 htk9) | refine tnext_ret ?_ | refine tnext_brk ?_ | refine tnext_cont ?_)
  k_with "m16" => ((k_here; k_dflt (refine LCt.ListComp_T (F₀ := by assumption) (by with_unfolding_all rfl) (by decide) (by rfl) (by decide) (by rfl) ?_)))
  k_with "m17" => (first | refine postG_next ?_ | refine postG_cont ?_ | refine postG_ret ?_ | refine postG_brk ?_)
  have kf : PySem.Challenge.rw_il0079_01 = PySem.Challenge.rw_il0079_01 ∧ hd.heap_1 w.params = hd.heap_1 w.params := by (k_fill; exact ⟨rfl, rfl⟩)
  clear kf
  refine wpAny_call ?_
  k_dflt (refine' code_defC ?k1 ?k2 ?k3 ?k4 ?k5 ?kA ?kF ?kK ?k6 ?k7 ?k8 ?k9 ?kB ?kD ?_ ?c2 ?c3 ?c4; (case kA => exact rfl); (case kF => exact rfl); (case kK => assumption); (case k1 => k_asm); (case k2 => k_asm); (case k3 => k_asm); (case k4 => k_asm); (case k5 => k_asm); (case k6 => k_is); (case k7 => k_is); (case k8 => ktr_room); (case k9 => exact BindsTo.of_eq rfl); (case kB => exact rfl); (case kD => decide +kernel); (case c2 => exact rfl); (case c3 => exact rfl); (case c4 => exact rfl); k_whole; intro g' L' h' tk' cells' FG' F' N' Y' B' X' T' l1; (try k_lt l1); k_cells Y'; (try simp only [List.cons_append, List.nil_append] at N'); (try dsimp only); (try k_lift B'); (try k_fold))
  walk1
  refine wpAny_For ?_ (fun _ => rfl)
  iterate 1 walk1
  rename Fr _ _ _ _ => F1
  rename News _ _ _ _ => N1
  refine wpAny_mono (listTurns (FJ cu fa he f who tw lc lh _ _ _ news) rfl (fun _ _ => rfl) rfl F1 N1 (.tail _ (.tail _ hnh)) ⟨_, _, rfl, by assumption, rfl, rfl, rfl, fun k hk => by simp at hk⟩ ?_ ?_) (fun it s₂ h => turns_for (by passes_own) h) (fun _ _ e => e)
  · intro i v m₁ nx h3 tk3 I3 oI3 hv hJ hml hoff F3 N3
    obtain ⟨oi, v0, rfl, d0, e1, e2, e3, e4⟩ := hJ
    have F3a := fr_know (x := Str.ofString "cuts") F3 e1
    have F3b := fr_know (x := Str.ofString "who") F3a (by rw [if_neg (by decide)]; exact e3)
    have F3c := fr_know (x := Str.ofString "here") F3b (by rw [if_neg (by decide), if_neg (by decide)]; exact e2)
    clear F3 F3a F3b
    obtain ⟨k, t, hk', rfl⟩ := int_at hh hv
    have hI1 : I3 ≠ L' + 1 + 1 := Ne.symm (hoff _ (.head _))
    have hI2 : I3 ≠ L' + 1 := Ne.symm (hoff _ (.tail _ (.head _)))
    have hkr := hr k (List.mem_of_getElem? hk')
    obtain ⟨DI, usI, nI, hfk, hDI, husI⟩ := hfs k hkr.1 (by rw [hfl]; exact hkr.2)
    have hnI := hn _ (.tail _ (.tail _ (.tail _ hDI)))
    have hpos : 0 < f := Nat.lt_of_lt_of_le (List.length_pos_of_mem (List.mem_of_getElem? hk')) hlen
    have hsk := hself k hkr.1 (by rw [hfl]; exact hkr.2)
    have hll := left_len (List.mem_of_getElem? hk') hsk
    k_with "subscriptTail" => (rename News _ _ _ _ => N2; first | refine item_list_ints ⟨_, (N2 _ (.tail _ (.tail _ (.tail _ hnc)))).1, rfl, _, rfl⟩ hc (by omega) (by omega) (by omega) ?_ | refine item_listL (l := fs) ⟨_, (N2 _ (by repeat (first | exact hnf | apply List.Mem.tail))).1, rfl, _, rfl⟩ (by omega) (by omega) hfk ?_)
    k_with "compareOp NotIn int ref" => (rename News _ _ _ _ => N2; refine notin_list_ints ⟨_, (N2 _ (by repeat (first | exact hnI | apply List.Mem.tail))).1, rfl, _, rfl⟩ husI ?_)
    k_with "all" => first | exact fun p9 q9 => Nat.ne_of_lt (Nat.lt_succ_of_lt (l1 p9 q9)) | exact fun p9 q9 => Nat.ne_of_lt (Nat.lt_succ_of_lt (Nat.lt_succ_of_lt (l1 p9 q9)))
    k_steps
    · refine LCt.CompSrcT.ledger (by rfl) (by assumption) (by assumption) (k := n3) (its := hs.toArray) (.tail _ (.tail _ (.tail _ hnh))) (by rw [List.size_toArray, hh.length, sizeLine_eq]; omega) ?_
      intro g6
      refine restT_inv (fun i ys nw => nw = _ ∧ IntsAre ys ((he.take i).filter fun j => !(fa.getD k.toNat []).any (· == j))) ⟨rfl, .nil⟩ ?_ ?_
      · intro i6 ys nw v I6 oI6 C6 oC6 D6 m6 h6 tk6 E6 hi6 hJ6 hv6 hC6 hx6 F6 N6 off6 ne6
        obtain ⟨rfl, hJ6⟩ := hJ6
        obtain ⟨j, tj, hj, rfl⟩ := int_at hh (by simpa using hv6)
        k_steps
        · exact end_same off6 (by assumption) (by assumption) (.inr ⟨_, .tail _ (.tail _ (.tail _ hnh)), rfl, _, rfl⟩) ⟨rfl, filt_no hj (by rw [show ((fa.getD k.toNat []).any fun x => x == j) = true by assumption]; rfl) hJ6⟩
        · exact end_same off6 (by assumption) (by assumption) (.inr ⟨_, .tail _ (.tail _ (.tail _ hnh)), rfl, _, rfl⟩) ⟨rfl, filt_yes hj (by rw [show ((fa.getD k.toNat []).any fun x => x == j) = false by assumption]; rfl) hJ6⟩
      · intro ys nw hJ6
        obtain ⟨rfl, hys⟩ := hJ6
        rw [List.take_of_length_le (by rw [List.size_toArray, hh.length]; exact Nat.le_refl _)] at hys
        have hle : (fwLeft fa he k).length ≤ f - 1 := by omega
        have hrr : ∀ j ∈ fwLeft fa he k, 0 ≤ j ∧ j < cu.length := fun j hj => hr j (List.mem_filter.mp hj).1
        k_with "again" => (refine' claim_use (ih (f - 1) (Nat.sub_lt hpos Nat.one_pos) _ _ (fwLeft fa he k) _ _ _ hrr hys hle (by first | exact Int.sub_nonneg_of_le hw1 | omega) (by first | exact Int.sub_le_self 1 hw0 | omega)) ?k1 ?k2 ?k3 ?k4 ?k5 ?kK ?kn ?kd ?ku ?kt ?_; (case k1 => k_asm); (case k2 => k_asm); (case k3 => k_asm); (case k4 => k_asm); (case k5 => k_asm); (case kK => first | exact rfl | assumption); (case kn => exact fw_need hnc hnf (fun p hp => hn _ (.tail _ (.tail _ (.tail _ hp))))); (case kd => first | exact f_dp hpos hdp | ktr_room); (case ku => first | exact f_un hpos hun | ktr_units); (case kt => exact Nat.zero_le _); intro r9 h9 tk9 R9 F9 N9; subst R9; (try dsimp only); (try k_fold))
        k_steps
        · have hb := fwB_no (w := who) (he := he) (show cu.getD k.toNat 0 = who by assumption) (show fw cu fa (f - 1) (fwLeft fa he k) (1 - who) = true by assumption)
          rename News _ _ _ _ => NZ
          exact ⟨_, _, _, _, rfl, by assumption, news_sub NZ (fun p hp => .tail _ hp), all_off2 hoff, hnh2 hnh, _, _, rfl, by assumption, rfl, rfl, rfl, fj_more e4 hk' hb⟩
        · have hb := fwB_yes (w := who) (he := he) (show cu.getD k.toNat 0 = who by assumption) (show fw cu fa (f - 1) (fwLeft fa he k) (1 - who) = false by assumption)
          rename News _ _ _ _ => NZ
          refine hret _ _ _ ?_ (by k_asm) (News.tail' (News.tail' (News.tail' (News.tail' NZ))))
          show Value.bool true = Value.bool (fw cu fa f he who)
          rw [fw_any hlen, List.any_eq_true.mpr ⟨k, List.mem_of_getElem? hk', hb⟩]
    · have hb := fwB_not (fa := fa) (f := f) (he := he) (show cu.getD k.toNat 0 ≠ who by assumption)
      rename News _ _ _ _ => NZ
      exact ⟨_, _, _, _, rfl, by assumption, NZ, all_off2 hoff, hnh2 hnh, _, _, rfl, by assumption, rfl, rfl, rfl, fj_more e4 hk' hb⟩
  · intro m₁ nx h3 tk3 hJ hml F3 N3
    obtain ⟨oi, v0, rfl, d0, e1, e2, e3, e4⟩ := hJ
    dsimp only
    k_steps
    rename News _ _ _ _ => NZ
    refine hret _ _ _ ?_ (by k_asm) (News.tail' (News.tail' NZ))
    show Value.bool false = Value.bool (fw cu fa f he who)
    rw [hh.length, List.take_length] at e4
    rw [fw_any hlen, List.any_eq_false.mpr (fun k hk => by rw [e4 k hk]; decide)]
theorem first_spec (w : World) (mean : ExcName → Option Value) (mg mb : Str → Option Value) (lc lf : Addr) (cs' fs : List Value) (cu : List Int) (fa : List (List Int)) (hfl : fa.length = cu.length) (h6 : cu.length ≤ 6) (hc : IntsAre cs' cu) (n1 n2 : Nat) (inner : List (Addr × Obj)) (hfs : ∀ k : Int, 0 ≤ k → k < fa.length → ∃ D us n, fs[k.toNat]? = some (.ref D) ∧ (D, listOf us.toArray n) ∈ inner ∧ IntsAre us (fa.getD k.toNat []))
    (hself : ∀ k : Int, 0 ≤ k → k < fa.length → (fa.getD k.toNat []).any (· == k) = true) : ∀ f, f ≤ 6 →
    ∀ (lh : Addr) (hs : List Value) (he : List Int) (n3 : Nat) (who : Int) (tw : Tok), (∀ k ∈ he, 0 ≤ k ∧ k < cu.length) → IntsAre hs he → he.length ≤ f → 0 ≤ who → who ≤ 1 → Claim w mean mg mb 228 (2 + 2 * f) (16 + 16 * f) 0 (FwNeed lc lf lh cs' fs hs n1 n2 n3 inner) [.ref lc, .ref lf, .ref lh, .int who tw] (fun v => v = .bool (fw cu fa f he who)) := by
  intro f
  induction f using Nat.strongRecOn with
  | _ f ih =>
    intro hf6 lh hs he n3 who tw hr hh hlen hw0 hw1
    exact first_step w mean mg mb lc lf cs' fs cu fa hfl h6 hc n1 n2 inner hfs hself f hf6 (fun f' hf' => ih f' hf' (by omega)) lh hs he n3 who tw hr hh hlen hw0 hw1
end
section
noncomputable def rgI (n : Nat) : List Int := (List.range n).map fun j : Nat => (j : Int)
theorem ints_of_items {acc : Array Value} : ∀ {n : Nat}, acc.size = n → (∀ (j : Nat) (v : Value), acc[j]? = some v → ∃ t, v = .int ((0 : Int) + (j : Int) * 1) t) → IntsAre acc.toList (rgI n) := by
  have go : ∀ (l : List Value) (s : Nat), (∀ (j : Nat) (v : Value), l[j]? = some v → ∃ t, v = .int ((s + j : Nat) : Int) t) → IntsAre l ((List.range' s l.length).map fun j : Nat => (j : Int)) := by
    intro l
    induction l with
    | nil => intro s _; exact .nil
    | cons a r ih =>
      intro s h
      obtain ⟨t, ht⟩ := h 0 a rfl
      subst ht
      rw [List.length_cons, List.range'_succ, List.map_cons]
      refine .cons _ _ (ih (s + 1) fun j v hv => ?_)
      obtain ⟨t, ht⟩ := h (j + 1) v (by simpa using hv)
      exact ⟨t, by rw [ht]; congr 1; omega⟩
  intro n hn h
  have := go acc.toList 0 (fun j v hv => by
    obtain ⟨t, ht⟩ := h j v (by simpa using hv)
    exact ⟨t, by rw [ht]; congr 1; omega⟩)
  rw [Array.length_toList, hn, ← List.range_eq_range'] at this
  exact this
section
variable {prog : Program} {w : World} {A : Around} {E : Value → Shared → Prop} {s : Shared} {h₀ : Heap} {L : Addr} {m : Str → Option Value} {Q : Value → Shared → Prop}
theorem list_rangeN {r : Addr} {t u v : Tok} {n : Nat} {news : List (Addr × Obj)} (hh : A.handled = none) (F : Fr h₀ L s.heap m) (N : News h₀ L s.heap news)
    (hr : IsRange s.heap r 0 n 1 t u v) (hsmall : Builtin.Range.small 0 n 1 = true) (hn : Builtin.Range.rangeSize 0 n 1 = (n : Int)) (hlen : n ≤ 2 ^ 24)
    (h : ∀ D h' tk (ys : Array Value) c, Fr h₀ L h' m → News h₀ L h' ((D, listOf ys c) :: news) → (∀ p ∈ news, p.1 < D) → IntsAre ys.toList (rgI n) → Q (.ref D) { s with heap := h', toks := tk }) :
    wpAny (model prog w) A (call (.type "list") [.ref r]) Q E s := by
  refine call_list_range hh hr hsmall hn hlen fun h' tk acc' c' hk hS' hacc => ?_
  refine h _ h' tk acc' c' (F.keeps hk) (fun p hp => ?_) (fun p hp => Heap.lt_size (N p hp).1) (ints_of_items hacc.1 hacc.2)
  rcases List.mem_cons.mp hp with rfl | hp
  · exact ⟨hS', Ne.symm (Nat.ne_of_lt F.ns.lt), next_is_new F⟩
  · exact ⟨hk _ _ (N p hp).1, (N p hp).2⟩
end
noncomputable def goTo (ds : List Int) (i : Nat) : Nat → List Int
  | 0 => [(i : Int)]
  | q + 1 => if (goTo ds i q).any (· == abvS ds (i + 1 + q) - 1) = true then goTo ds i q ++ [((i + 1 + q : Nat) : Int)] else goTo ds i q
noncomputable def goS (ds : List Int) (i : Nat) : List Int := goTo ds i (ds.length - (i + 1))
noncomputable def leTo (ds : List Int) (i q : Nat) : List Int := (rgI q).filter fun j => !(goS ds i).any (· == j)
noncomputable def heS (ds : List Int) : Nat → List Int
  | 0 => rgI ds.length
  | i + 1 => leTo ds i ds.length
theorem rgI_more (q : Nat) : rgI (q + 1) = rgI q ++ [(q : Int)] := by simp [rgI, List.range_succ]
theorem leTo_yes {ds : List Int} {i q : Nat} (h : (goS ds i).any (· == (q : Int)) = false) : leTo ds i (q + 1) = leTo ds i q ++ [(q : Int)] := by
  unfold leTo; rw [rgI_more, List.filter_append]; simp [h]
theorem leTo_no {ds : List Int} {i q : Nat} (h : (goS ds i).any (· == (q : Int)) = true) : leTo ds i (q + 1) = leTo ds i q := by
  unfold leTo; rw [rgI_more, List.filter_append]; simp [h]
theorem goTo_len (ds : List Int) (i : Nat) : ∀ q, (goTo ds i q).length ≤ q + 1
  | 0 => Nat.le_refl _
  | q + 1 => by
    have ih := goTo_len ds i q
    unfold goTo
    split
    · rw [List.length_append]; simp; exact ih
    · omega
theorem range_ab : ∀ n : Nat, n ≤ 6 → ∀ i : Nat, i < n → Builtin.Range.small ((i : Int) + 1) (n : Int) 1 = true ∧ Builtin.Range.rangeSize ((i : Int) + 1) (n : Int) 1 = ((n - (i + 1) : Nat) : Int) := by decide
section
open PySem.SeqAt
variable {prog : Program} {w : World} {A : Around} {E : Value → Shared → Prop} {s : Shared}
theorem ne_ints_same {a b : Addr} {vs us : List Value} {ns ms : List Int} {Q : Value → Shared → Prop} (hl : s.heap.IsList a vs.toArray) (hi : IntsAre vs ns) (hl' : s.heap.IsList b us.toArray) (hi' : IntsAre us ms) (hu : A.units + 64 < cLine) (he : ns = ms)
    (h : Q (.bool false) s) : wpAny (model prog w) A (compareOp .NotEq (.ref a) (.ref b)) Q E s :=
  ne_intsK hl hi hl' hi' hu (by rw [decide_eq_true he]; exact h)
end
noncomputable def KJ (ds : List Int) (L : Nat) (inner : List (Addr × Obj)) (lH lF lC lW lA : Addr) (xF xC xW xA oC : Obj) (i : Nat) (m : Str → Option Value) (nx : List (Addr × Obj)) : Prop :=
  ∃ hv kh og vg tail, nx = (lH, listOf hv kh) :: (lF, xF) :: (lC, xC) :: (lW, xW) :: (lA, xA) :: (L + 1 + 1 + 1 + 1 + 1 + 1 + 1, og) :: (L + 1 + 1, oC) :: tail ∧ og.data = .cell vg ∧ hv.size = i + 1 ∧
    (∀ k, k ≤ i → ∃ D us n, hv.toList[k]? = some (.ref D) ∧ (D, listOf us n) ∈ tail ∧ IntsAre us.toList (heS ds k)) ∧ (∀ p ∈ inner, p ∈ tail) ∧ (∀ p ∈ tail, p.1 ≠ lH) ∧ (∀ p ∈ tail, p.1 ≠ L + 1 + 1 + 1 + 1 + 1 + 1 + 1) ∧
    m (Str.ofString "aboves") = some (.ref lA) ∧ m (Str.ofString "whose") = some (.ref lW) ∧ m (Str.ofString "cuts") = some (.ref lC) ∧ m (Str.ofString "falls") = some (.ref lF) ∧ m (Str.ofString "heres") = some (.ref lH)
theorem kj_start {h₀ : Heap} {L : Nat} {hp : Heap} {ds : List Int} {inner : List (Addr × Obj)} {m : Str → Option Value} {lH lE lF lC lW lA : Nat} {xF xC xW xA oC o7 : Obj} {v7 : Option Value} {ev : Array Value} {ke : Nat}
    (F : Fr h₀ L hp m) (N : News h₀ L hp ((lH, listOf #[.ref lE] 0) :: (lE, listOf ev ke) :: (lF, xF) :: (lC, xC) :: (lW, xW) :: (lA, xA) :: (L + 1 + 1 + 1 + 1 + 1 + 1 + 1, o7) :: (L + 1 + 1, oC) :: inner))
    (hlt : lE < lH ∧ lF < lH ∧ lC < lH ∧ lW < lH ∧ lA < lH ∧ L + 1 + 1 + 1 + 1 + 1 + 1 + 1 < lH ∧ L + 1 + 1 < lH ∧ AllLt lH inner) (hE : L + 1 + 1 + 1 + 1 + 1 + 1 + 1 < lE) (c7 : o7.data = .cell v7) (hev : IntsAre ev.toList (rgI ds.length)) (hig : ∀ p ∈ inner, p.1 ≠ L + 1 + 1 + 1 + 1 + 1 + 1 + 1)
    (q1 : m (Str.ofString "aboves") = some (.ref lA)) (q2 : m (Str.ofString "whose") = some (.ref lW)) (q3 : m (Str.ofString "cuts") = some (.ref lC)) (q4 : m (Str.ofString "falls") = some (.ref lF)) (q5 : m (Str.ofString "heres") = some (.ref lH)) :
    ∃ (m : Str → Option Value) (nx : List (Addr × Obj)) (lH : Nat), Fr h₀ L hp m ∧ News h₀ L hp nx ∧ lF < lH ∧ lC < lH ∧ lW < lH ∧ lA < lH ∧ L + 1 + 1 + 1 + 1 + 1 + 1 + 1 < lH ∧ L + 1 + 1 < lH ∧ KJ ds L inner lH lF lC lW lA xF xC xW xA oC 0 m nx := by
  obtain ⟨h1, h2, h3, h4, h5, h6, h7, h8⟩ := hlt
  have hal : ∀ {d : Nat} {l : List (Addr × Obj)}, AllLt d l → ∀ p ∈ l, p.1 < d := by
    intro d l
    induction l with
    | nil => intro _ p hp; exact absurd hp List.not_mem_nil
    | cons a r ih => intro h; exact List.forall_mem_cons.mpr ⟨h.1, ih h.2⟩
  refine ⟨m, (lH, listOf #[.ref lE] 0) :: (lF, xF) :: (lC, xC) :: (lW, xW) :: (lA, xA) :: (L + 1 + 1 + 1 + 1 + 1 + 1 + 1, o7) :: (L + 1 + 1, oC) :: (lE, listOf ev ke) :: inner, lH, F, fun p hp => N p ?_, h2, h3, h4, h5, h6, h7, _, _, _, _, _, rfl, c7, rfl, ?_, fun p hp => .tail _ hp, ?_, ?_, q1, q2, q3, q4, q5⟩
  · simp only [List.mem_cons] at hp ⊢
    rcases hp with h | h | h | h | h | h | h | h | h
    · exact .inl h
    · exact .inr (.inr (.inl h))
    · exact .inr (.inr (.inr (.inl h)))
    · exact .inr (.inr (.inr (.inr (.inl h))))
    · exact .inr (.inr (.inr (.inr (.inr (.inl h)))))
    · exact .inr (.inr (.inr (.inr (.inr (.inr (.inl h))))))
    · exact .inr (.inr (.inr (.inr (.inr (.inr (.inr (.inl h)))))))
    · exact .inr (.inl h)
    · exact .inr (.inr (.inr (.inr (.inr (.inr (.inr (.inr h)))))))
  · intro k hk
    have : k = 0 := by omega
    subst this
    exact ⟨lE, ev, ke, rfl, .head _, hev⟩
  · exact List.forall_mem_cons.mpr ⟨Nat.ne_of_lt h1, fun p hp => Nat.ne_of_lt (hal h8 p hp)⟩
  · exact List.forall_mem_cons.mpr ⟨Nat.ne_of_gt hE, hig⟩
noncomputable def GoJ (ds : List Int) (i : Nat) (ti : Tok) (lg lA lW lC lF lH : Addr) (rest : List (Addr × Obj)) (q : Nat) (m : Str → Option Value) (nx : List (Addr × Obj)) : Prop :=
  ∃ gv kg, nx = (lg, listOf gv kg) :: rest ∧ IntsAre gv.toList (goTo ds i q) ∧ m (Str.ofString "aboves") = some (.ref lA) ∧ m (Str.ofString "whose") = some (.ref lW) ∧ m (Str.ofString "cuts") = some (.ref lC) ∧ m (Str.ofString "falls") = some (.ref lF) ∧ m (Str.ofString "heres") = some (.ref lH) ∧ m (Str.ofString "i") = some (.int i ti)
theorem goTo_yes {ds : List Int} {i q : Nat} (h : (goTo ds i q).any (· == abvS ds (i + 1 + q) - 1) = true) : goTo ds i (q + 1) = goTo ds i q ++ [((i + 1 + q : Nat) : Int)] := by
  rw [goTo, if_pos h]
theorem goTo_no {ds : List Int} {i q : Nat} (h : (goTo ds i q).any (· == abvS ds (i + 1 + q) - 1) = false) : goTo ds i (q + 1) = goTo ds i q := by
  rw [goTo, if_neg (by rw [h]; decide)]
theorem kj_more {ds : List Int} {L : Nat} {inner tail : List (Addr × Obj)} {lH lF lC lW lA lX : Addr} {xF xC xW xA oC og : Obj} {vg : Option Value} {i : Nat} {m : Str → Option Value} {hv : Array Value} {kh : Nat} {xs : List Value}
    (cg : og.data = .cell vg) (hhs : hv.size = i + 1) (hhe : ∀ k, k ≤ i → ∃ D us n, hv.toList[k]? = some (.ref D) ∧ (D, listOf us n) ∈ tail ∧ IntsAre us.toList (heS ds k)) (hsub : ∀ p ∈ inner, p ∈ tail) (htH : ∀ p ∈ tail, p.1 ≠ lH) (htg : ∀ p ∈ tail, p.1 ≠ L + 1 + 1 + 1 + 1 + 1 + 1 + 1)
    (hX : lH ≠ lX) (hXg : L + 1 + 1 + 1 + 1 + 1 + 1 + 1 ≠ lX) (hxs : IntsAre xs (leTo ds i ds.length))
    (q1 : m (Str.ofString "aboves") = some (.ref lA)) (q2 : m (Str.ofString "whose") = some (.ref lW)) (q3 : m (Str.ofString "cuts") = some (.ref lC)) (q4 : m (Str.ofString "falls") = some (.ref lF)) (q5 : m (Str.ofString "heres") = some (.ref lH)) :
    KJ ds L inner lH lF lC lW lA xF xC xW xA oC (i + 1) m ((lH, listOf (hv.push (.ref lX)) (kh + 1)) :: (lF, xF) :: (lC, xC) :: (lW, xW) :: (lA, xA) :: (L + 1 + 1 + 1 + 1 + 1 + 1 + 1, og) :: (L + 1 + 1, oC) :: (lX, listOf xs.toArray xs.length) :: tail) := by
  refine ⟨_, _, _, _, _, rfl, cg, by simp [hhs], fun k hk => ?_, fun p hp => .tail _ (hsub p hp), List.forall_mem_cons.mpr ⟨Ne.symm hX, htH⟩, List.forall_mem_cons.mpr ⟨Ne.symm hXg, htg⟩, q1, q2, q3, q4, q5⟩
  by_cases hki : k ≤ i
  · obtain ⟨D, us, n, e, hm, hu⟩ := hhe k hki
    refine ⟨D, us, n, ?_, .tail _ hm, hu⟩
    rw [Array.toList_push, List.getElem?_append_left (by rw [Array.length_toList]; omega)]
    exact e
  · have : k = i + 1 := by omega
    subst this
    exact ⟨lX, xs.toArray, _, push_at hhs, .head _, hxs⟩
theorem closure_one {scope : Scope} {env : Env} {n0 n1 x : Str} {a : Addr} (hn : scope.names = [(n0, .local), (n1, .local), (x, .free)]) (hx : env.cells.lookup x = some a) :
    closureFor scope env = pure [(x, a)] := by
  unfold closureFor
  rw [hn]
  simp only [List.forIn_cons, List.forIn_nil]
  unfold cellOf
  rw [hx]
  rfl
end
section
noncomputable def dsc (a : Nat → Nat) (j : Nat) (k : Nat) : Bool :=
  if k = j then true else if _h : j < k ∧ 1 ≤ a k ∧ a k ≤ k then dsc a j (a k - 1) else false
termination_by k
decreasing_by omega
theorem dsc_self (a : Nat → Nat) (j : Nat) : dsc a j j = true := by rw [dsc, if_pos rfl]
theorem dsc_lt (a : Nat → Nat) (j k : Nat) (h : k < j) : dsc a j k = false := by rw [dsc, if_neg (by omega), dif_neg (by omega)]
theorem dsc_gt {a : Nat → Nat} (ha : ∀ k, a k ≤ k) (j k : Nat) (h : j < k) : dsc a j k = (decide (1 ≤ a k) && dsc a j (a k - 1)) := by
  have := ha k
  rw [dsc, if_neg (by omega)]
  by_cases h1 : 1 ≤ a k
  · rw [dif_pos ⟨h, h1, this⟩, decide_eq_true h1, Bool.true_and]
  · rw [dif_neg (fun z => h1 z.2.1), decide_eq_false h1, Bool.false_and]
noncomputable def aN (ds : List Int) (k : Nat) : Nat := (abvS ds k).toNat
theorem aN_le (ds : List Int) (k : Nat) : aN ds k ≤ k := by
  have := abv_bd ds k
  unfold aN; omega
theorem aN_eq (ds : List Int) (k : Nat) : ((aN ds k : Nat) : Int) = abvS ds k := by
  have := abv_bd ds k
  unfold aN; omega
noncomputable def castL (l : List Nat) : List Int := l.map fun j : Nat => (j : Int)
theorem any_cast {l : List Nat} {z : Int} : (castL l).any (· == z) = true ↔ ∃ j ∈ l, (j : Int) = z := by
  unfold castL
  simp
theorem goTo_is (ds : List Int) (i : Nat) : ∀ q, goTo ds i q = castL ((List.range (i + 1 + q)).filter (dsc (aN ds) i))
  | 0 => by
    have e : (List.range i).filter (dsc (aN ds) i) = [] := List.filter_eq_nil_iff.mpr fun j hj => by
      rw [dsc_lt _ _ _ (List.mem_range.mp hj)]; decide
    rw [Nat.add_zero, List.range_succ, List.filter_append, e]
    simp [dsc_self, goTo, castL]
  | q + 1 => by
    have ih := goTo_is ds i q
    have hb := aN_eq ds (i + 1 + q)
    have hl := aN_le ds (i + 1 + q)
    have hk := dsc_gt (aN_le ds) i (i + 1 + q) (by omega)
    have hi : (goTo ds i q).any (· == abvS ds (i + 1 + q) - 1) = true ↔ dsc (aN ds) i (i + 1 + q) = true := by
      rw [ih, any_cast, hk, Bool.and_eq_true, decide_eq_true_iff]
      constructor
      · rintro ⟨j, hj, e⟩
        obtain ⟨h1, h2⟩ := List.mem_filter.mp hj
        have : aN ds (i + 1 + q) - 1 = j := by omega
        rw [this]
        exact ⟨by omega, h2⟩
      · rintro ⟨h1, h2⟩
        exact ⟨_, List.mem_filter.mpr ⟨List.mem_range.mpr (by omega), h2⟩, by omega⟩
    rw [show i + 1 + (q + 1) = (i + 1 + q) + 1 by omega, List.range_succ, List.filter_append]
    by_cases h : dsc (aN ds) i (i + 1 + q) = true
    · rw [goTo_yes (hi.mpr h), ih]
      simp [castL, h]
    · rw [goTo_no (by rw [← Bool.not_eq_true]; exact fun z => h (hi.mp z)), ih]
      simp [castL, h]
theorem goS_is {ds : List Int} {i : Nat} (hi : i < ds.length) : goS ds i = castL ((List.range ds.length).filter (dsc (aN ds) i)) := by
  unfold goS
  rw [goTo_is, show i + 1 + (ds.length - (i + 1)) = ds.length by omega]
end
section
/-- the spelled names from the ground up to a slot -/
noncomputable def chn (a : Nat → Nat) (nm : Nat → Str) : Nat → List Str
  | 0 => []
  | k + 1 => if _h : a k ≤ k then chn a nm (a k) ++ [nm k] else []
termination_by p => p
decreasing_by omega
theorem chn_0 (a : Nat → Nat) (nm : Nat → Str) : chn a nm 0 = [] := by rw [chn]
theorem chn_more {a : Nat → Nat} (nm : Nat → Str) {k : Nat} (ha : a k ≤ k) : chn a nm (k + 1) = chn a nm (a k) ++ [nm k] := by rw [chn, dif_pos ha]
theorem chn_mem {a : Nat → Nat} {nm : Nat → Str} : ∀ p, ∀ x ∈ chn a nm p, ∃ k, k < p ∧ x = nm k
  | 0, x, h => by rw [chn_0] at h; cases h
  | k + 1, x, h => by
    by_cases ha : a k ≤ k
    · rw [chn_more nm ha] at h
      rcases List.mem_append.mp h with h | h
      · obtain ⟨j, hj, e⟩ := chn_mem (a k) x h
        exact ⟨j, by omega, e⟩
      · exact ⟨k, by omega, List.mem_singleton.mp h⟩
    · rw [chn, dif_neg ha] at h; cases h
theorem chn_ne {a : Nat → Nat} {nm : Nat → Str} (ha : ∀ k, a k ≤ k) (k : Nat) : chn a nm (k + 1) ≠ [] := by rw [chn_more nm (ha k)]; simp
theorem chn_pre {a : Nat → Nat} {nm : Nat → Str} {n : Nat} (ha : ∀ k, a k ≤ k) (hi : ∀ i j, i < n → j < n → nm i = nm j → i = j) (i : Nat) (hin : i < n) : ∀ j, j < n → (chn a nm (i + 1) <+: chn a nm (j + 1) ↔ dsc a i j = true) := by
  intro j
  induction j using Nat.strongRecOn with
  | ind j ih =>
    intro hj
    have haj := ha j
    rw [chn_more nm (ha j), List.prefix_concat_iff]
    by_cases e : i = j
    · subst e
      rw [dsc_self, chn_more nm (ha i)]
      simp
    · have h1 : ¬ chn a nm (i + 1) = chn a nm (a j) ++ [nm j] := by
        intro h
        rw [chn_more nm (ha i)] at h
        have := (List.append_inj' h rfl).2
        exact e (hi i j hin hj (List.singleton_inj.mp this))
      rw [or_iff_right h1]
      by_cases h0 : a j = 0
      · rw [h0, chn_0, List.prefix_nil]
        constructor
        · intro h; exact absurd h (chn_ne ha i)
        · intro h
          rw [dsc, if_neg (Ne.symm e), dif_neg (by omega)] at h
          cases h
      · obtain ⟨m, hm⟩ : ∃ m, a j = m + 1 := ⟨a j - 1, by omega⟩
        rw [hm, ih m (by omega) (by omega)]
        by_cases hl : i < j
        · rw [dsc_gt ha i j hl, hm]
          simp
        · rw [dsc_lt _ _ _ (by omega), dsc_lt _ _ _ (by omega)]
theorem lcp_pre : ∀ (x y : List Str), lcp x y = x ↔ x <+: y
  | [], y => by rw [lcp_nil_left]; simp
  | a :: x, [] => by rw [lcp_nil_right]; simp
  | a :: x, b :: y => by
    have ih := lcp_pre x y
    unfold lcp
    by_cases e : a = b
    · subst e
      rw [if_pos rfl, List.cons_prefix_cons, List.cons.injEq]
      simp [ih]
    · rw [if_neg e, List.cons_prefix_cons]
      simp [e]
theorem join1 (l : List Str) : (Txt.join (Str.ofString "/") l).cps.toList = jn 47 (l.map (·.cps.toList)) := by
  show (Builtin.Str.glued (Str.ofString "/") l).cps.toList = _
  rw [StrLaws.glued_eq_join]
  exact jn_join 47 l
theorem str_inj {x y : Str} (h : x.cps.toList = y.cps.toList) : x = y := Str.ext' (Array.ext' h)
theorem slash_list : (Str.ofString "/").cps.toList = [47] := rfl
/-- the text of a chain of names -/
noncomputable def wayS (l : List Str) : Str := Str.ofString "/" ++ Txt.join (Str.ofString "/") l
theorem way_list (l : List Str) : (wayS l).cps.toList = 47 :: jn 47 (l.map (·.cps.toList)) := by
  unfold wayS
  rw [Str.cps_append, Array.toList_append, slash_list, join1]; rfl
theorem way_more (l : List Str) (hl : l ≠ []) (x : Str) : wayS (l ++ [x]) = wayS l ++ Str.ofString "/" ++ x := by
  apply str_inj
  rw [Str.cps_append, Str.cps_append, Array.toList_append, Array.toList_append, way_list, way_list, slash_list]
  rcases List.eq_nil_or_concat l with rfl | ⟨r, y, rfl⟩
  · exact absurd rfl hl
  · have := jn_app 47 y.cps.toList x.cps.toList (r.map (·.cps.toList))
    simp only [List.concat_eq_append, List.map_append, List.map_cons, List.map_nil, List.append_assoc, List.cons_append, List.nil_append] at this ⊢
    rw [this]
theorem way_one (x : Str) : wayS [x] = Str.ofString "" ++ Str.ofString "/" ++ x := by
  apply str_inj
  rw [Str.cps_append, Str.cps_append, Array.toList_append, Array.toList_append, way_list, slash_list]
  rfl
/-- a spelled name: no slash in it, and it ends in no dot -/
noncomputable def Nm (x : Str) : Prop := 47 ∉ x.cps.toList ∧ ∃ l f, x.cps.toList = l ++ [f] ∧ f ≠ 46
theorem nm_keep {x : Str} (h : Nm x) : keepC x = true := by
  obtain ⟨_, l, f, e, hf⟩ := h
  refine keep_yes ?_ ?_
  · have : x.length = x.cps.toList.length := by rw [Array.length_toList]; rfl
    rw [this, e]; simp; omega
  · rw [bne_iff_ne]
    intro h
    rw [h] at e
    have e2 : (Str.ofString ".").cps.toList = [] ++ [46] := rfl
    rw [e2] at e
    exact hf (List.singleton_inj.mp (List.append_inj' e rfl).2).symm
theorem comps_way {l : List Str} (hl : l ≠ []) (h : ∀ x ∈ l, Nm x) : compsS (wayS l) = l := by
  unfold compsS
  have : Txt.split (wayS l) (Str.ofString "/") = Str.ofString "" :: l := by
    refine split_is (c := 47) (by simp) (fun p hp => ?_) ?_
    · rcases List.mem_cons.mp hp with rfl | hp
      · decide
      · exact (h p hp).1
    · rw [way_list]
      cases l with
      | nil => exact absurd rfl hl
      | cons a r => rfl
  rw [this, List.filter_cons, if_neg (by rw [keep_nil (by decide)]; decide)]
  exact List.filter_eq_self.mpr fun x hx => nm_keep (h x hx)
theorem lcp_mem : ∀ {x y : List Str}, ∀ s ∈ lcp x y, s ∈ x
  | [], y, s, h => by rw [lcp_nil_left] at h; exact h
  | a :: x, [], s, h => by rw [lcp_nil_right] at h; cases h
  | a :: x, b :: y, s, h => by
    unfold lcp at h
    split at h
    · rcases List.mem_cons.mp h with rfl | h
      · exact .head _
      · exact .tail _ (lcp_mem s h)
    · cases h
theorem way_inj {l m : List Str} (hl : ∀ x ∈ l, Nm x) (hm : ∀ x ∈ m, Nm x) (hn : m ≠ []) (e : wayS l = wayS m) : l = m := by
  have e1 : jn 47 (l.map (·.cps.toList)) = jn 47 (m.map (·.cps.toList)) := by
    have := congrArg (fun x : Str => x.cps.toList) e
    rw [way_list, way_list] at this
    exact (List.cons.inj this).2
  have hmj : jn 47 (m.map (·.cps.toList)) ≠ [] := by
    cases m with
    | nil => exact absurd rfl hn
    | cons a r =>
      obtain ⟨_, s, f, ea, _⟩ := hm a (.head _)
      cases r with
      | nil =>
        show a.cps.toList ≠ []
        rw [ea]; simp
      | cons b t => simp [jn]
  have hne : l ≠ [] := by
    rintro rfl
    exact hmj e1.symm
  have fr : ∀ k : List Str, (∀ x ∈ k, Nm x) → ∀ y ∈ k.map (·.cps.toList), 47 ∉ y := by
    intro k hk y hy
    obtain ⟨x, hx, rfl⟩ := List.mem_map.mp hy
    exact (hk x hx).1
  have := jn_inj (c := 47) (by simpa using hne) (by simpa using hn) (fr l hl) (fr m hm) e1
  exact (List.map_inj_right fun _ _ e => str_inj e).mp this
theorem common_pre {x y : List Str} (hx : x ≠ []) (hy : y ≠ []) (nx : ∀ s ∈ x, Nm s) (ny : ∀ s ∈ y, Nm s) : (commonS (wayS x) (wayS y) == wayS x) = true ↔ x <+: y := by
  rw [beq_iff_eq, ← lcp_pre]
  unfold commonS
  rw [comps_way hx nx, comps_way hy ny]
  constructor
  · exact fun e => way_inj (fun s hs => nx s (lcp_mem s hs)) nx hx e
  · intro e
    rw [e]; rfl
noncomputable def nmS (ds : List Int) (wh : Int) (k : Nat) : Str := spellS wh (namS ds k)
theorem nmS_nm {ds : List Int} {wh : Int} {k : Nat} (hk : k < 6) : Nm (nmS ds wh k) := by
  obtain ⟨l, hl⟩ := spell_nam_last wh ds hk
  exact ⟨spell_nam_no47 wh ds k, l, 48 + k, hl, by omega⟩
theorem nmS_inj {ds : List Int} {wh : Int} {i j : Nat} (hi : i < 6) (hj : j < 6) (e : nmS ds wh i = nmS ds wh j) : i = j := by
  obtain ⟨l, hl⟩ := spell_nam_last wh ds hi
  obtain ⟨m, hm⟩ := spell_nam_last wh ds hj
  unfold nmS at e
  rw [e, hm] at hl
  have := List.singleton_inj.mp (List.append_inj' hl rfl).2
  omega
theorem pl_chn {ds : List Int} {wh : Int} : ∀ p, 1 ≤ p → p ≤ ds.length → spellS wh ((plL ds ds.length).getD p (Str.ofString "")) = wayS (chn (aN ds) (nmS ds wh) p) := by
  intro p
  induction p using Nat.strongRecOn with
  | ind p ih =>
    intro h1 h2
    obtain ⟨k, rfl⟩ : ∃ k, p = k + 1 := ⟨p - 1, by omega⟩
    have ha := aN_le ds k
    rw [pl_get ds ds.length k (by omega), spell_app, spell_app, spell_slash, chn_more _ ha]
    show spellS wh ((plL ds ds.length).getD (aN ds k) (Str.ofString "")) ++ Str.ofString "/" ++ nmS ds wh k = _
    by_cases h0 : aN ds k = 0
    · rw [h0, chn_0, pl_0]
      exact (way_one _).symm
    · rw [ih (aN ds k) (by omega) (by omega) (by omega)]
      refine (way_more _ ?_ _).symm
      obtain ⟨m, hm⟩ : ∃ m, aN ds k = m + 1 := ⟨aN ds k - 1, by omega⟩
      rw [hm]
      exact chn_ne (aN_le ds) m
theorem wr_chn {ds : List Int} {wh : Int} (hn : ds.length ≤ 6) {k : Nat} (hk : k < ds.length) : wrS ds wh k = wayS (chn (aN ds) (nmS ds wh) (k + 1)) := by
  unfold wrS
  rw [(wy_pl ds ds.length hn (k + 1) (by omega) (by omega)).1]
  exact pl_chn (k + 1) (by omega) (by omega)
theorem cp_dsc {ds : List Int} {wh : Int} (hn : ds.length ≤ 6) {i j : Nat} (hi : i < ds.length) (hj : j < ds.length) : cpB ds wh i j = dsc (aN ds) i j := by
  have hm : ∀ p, p ≤ ds.length → ∀ s ∈ chn (aN ds) (nmS ds wh) p, Nm s := by
    intro p hp s hs
    obtain ⟨k, hk, rfl⟩ := chn_mem p s hs
    exact nmS_nm (by omega)
  have := (common_pre (chn_ne (aN_le ds) i) (chn_ne (aN_le ds) j) (hm (i + 1) (by omega)) (hm (j + 1) (by omega))).trans (chn_pre (n := ds.length) (aN_le ds) (fun i j hi hj e => nmS_inj (by omega) (by omega) e) i hi j hj)
  unfold cpB
  rw [wr_chn hn hi, wr_chn hn hj]
  exact Bool.eq_iff_iff.mpr this
theorem fa_gone {ds : List Int} {wh : Int} (_h : ∀ k, 0 ≤ ds.getD k 0 ∧ ds.getD k 0 < 96) (hn : ds.length ≤ 6) {i : Nat} (hi : i < ds.length) : faTo ds wh i ds.length = goS ds i := by
  rw [goS_is hi]
  unfold faTo castL
  rw [List.filter_congr (q := dsc (aN ds) i) fun j hj => cp_dsc hn hi (List.mem_range.mp hj)]
end
section
noncomputable def ed (c x : Int) : Int := if c = 0 then stalk x else if c = 1 then -stalk (-x) else x
noncomputable def g64 (x : Int) : Int := (Nat.gcd x.natAbs 64 : Nat)
noncomputable def bd (x : Int) : Nat := if x.natAbs % 64 = 0 then x.natAbs / 64 else x.natAbs / 64 + 1 + (6 - Nat.log2 (Nat.gcd x.natAbs 64))
/-! the numbers born by a day, in order, in 64ths -/
noncomputable def mids : List Int → List Int
  | x :: y :: r => x :: (x + y) / 2 :: mids (y :: r)
  | [x] => [x, x + 64]
  | [] => []
noncomputable def nxt : List Int → List Int
  | [] => []
  | x :: r => (x - 64) :: mids (x :: r)
noncomputable def LB : Nat → List Int
  | 0 => [0]
  | m + 1 => nxt (LB m)
theorem mids_sub : ∀ {l : List Int} {x : Int}, x ∈ l → x ∈ mids l
  | [a], x, h => by rw [List.mem_singleton.mp h]; exact .head _
  | a :: b :: r, x, h => by
    unfold mids
    rcases List.mem_cons.mp h with rfl | h
    · exact .head _
    · exact .tail _ (.tail _ (mids_sub h))
theorem LB_sub {m k : Nat} (h : m ≤ k) {x : Int} (hx : x ∈ LB m) : x ∈ LB k := by
  induction h with
  | refl => exact hx
  | @step k _ ih =>
    show x ∈ nxt (LB k)
    generalize LB k = l at ih
    cases l with
    | nil => cases ih
    | cons a r => exact .tail _ (mids_sub ih)
noncomputable def memB (x : Int) : List Int → Bool
  | [] => false
  | y :: r => x == y || memB x r
theorem memB_mem {x : Int} : ∀ {l : List Int}, memB x l = true → x ∈ l
  | [], h => by cases h
  | y :: r, h => by
    unfold memB at h
    rcases Bool.or_eq_true _ _ ▸ h with h | h
    · rw [eq_of_beq h]; exact .head _
    · exact .tail _ (memB_mem h)
/-- up to k and down to -k -/
noncomputable def bornB (x : Int) : Bool := Nat.blt 6 (bd x) || memB x (LB (bd x))
noncomputable def bornTo : Nat → Bool
  | 0 => bornB 0
  | k + 1 => bornB (k + 1 : Nat) && bornB (-((k + 1 : Nat) : Int)) && bornTo k
theorem born_all : bornTo 384 = true := by decide +kernel
theorem born_at : ∀ {n k : Nat}, bornTo n = true → k ≤ n → bornB (k : Int) = true ∧ bornB (-(k : Int)) = true
  | 0, k, h, hk => by
    have : k = 0 := by omega
    subst this
    exact ⟨h, h⟩
  | n + 1, k, h, hk => by
    unfold bornTo at h
    rw [Bool.and_eq_true, Bool.and_eq_true] at h
    by_cases e : k = n + 1
    · subst e; exact h.1
    · exact born_at h.2 (by omega)
theorem mem_LB {x : Int} {m : Nat} (hm : m ≤ 6) (h : bd x ≤ m) : x ∈ LB m := by
  have hx : bornB x = true := by
    have hk : x.natAbs ≤ 384 := by
      unfold bd at h
      split at h <;> omega
    have := born_at born_all hk
    rcases Int.natAbs_eq x with e | e
    · rw [e]; exact this.1
    · rw [e]; exact this.2
  unfold bornB at hx
  rcases Bool.or_eq_true _ _ ▸ hx with hx | hx
  · have : 6 < bd x := by
      have := Nat.ble_eq.mp (show Nat.ble 7 (bd x) = true from hx)
      omega
    omega
  · exact LB_sub h (memB_mem hx)
abbrev good (s x : Int) : Prop := 0 < s * x ∨ g64 x ≠ 64
theorem ed_bd_all : ∀ c ∈ [(0 : Int), 1, 2], ∀ x ∈ LB 5, bd (ed c x) ≤ bd x + 1 := by decide +kernel
noncomputable def upB (c : Int) : List Int → Bool
  | x :: y :: r => decide (x < y) && decide (ed c x < ed c y) && upB c (y :: r)
  | _ => true
theorem up_all : ∀ c ∈ [(0 : Int), 1, 2], upB c (LB 5) = true := by decide +kernel
theorem up_head {c : Int} : ∀ {l : List Int} {x y : Int}, upB c (x :: l) = true → y ∈ l → x < y ∧ ed c x < ed c y
  | z :: r, x, y, h, hy => by
    unfold upB at h
    rw [Bool.and_eq_true, Bool.and_eq_true, decide_eq_true_iff, decide_eq_true_iff] at h
    rcases List.mem_cons.mp hy with rfl | hy
    · exact h.1
    · have := up_head h.2 hy
      omega
theorem up_tail {c : Int} {x : Int} {l : List Int} (h : upB c (x :: l) = true) : upB c l = true := by
  cases l with
  | nil => rfl
  | cons z r => unfold upB at h; rw [Bool.and_eq_true] at h; exact h.2
theorem up_two {c : Int} : ∀ {l : List Int} {x y : Int}, upB c l = true → x ∈ l → y ∈ l → x < y → ed c x < ed c y
  | z :: r, x, y, h, hx, hy, hl => by
    rcases List.mem_cons.mp hx with rfl | hx1
    · rcases List.mem_cons.mp hy with rfl | hy1
      · omega
      · exact (up_head h hy1).2
    · rcases List.mem_cons.mp hy with rfl | hy1
      · have := (up_head h hx1).1; omega
      · exact up_two (up_tail h) hx1 hy1 hl
theorem ed_mono_all : ∀ c ∈ [(0 : Int), 1, 2], ∀ x ∈ LB 5, ∀ y ∈ LB 5, x < y → ed c x < ed c y :=
  fun c hc _ hx _ hy h => up_two (up_all c hc) hx hy h
theorem ed_le {c x y : Int} (hc : c ∈ [(0 : Int), 1, 2]) (hx : x ∈ LB 5) (hy : y ∈ LB 5) (h : x ≤ y) : ed c x ≤ ed c y := by
  by_cases e : x = y
  · rw [e]; exact Int.le_refl _
  · have := ed_mono_all c hc x hx y hy (by omega); omega
theorem ed_sign_all : ∀ x ∈ LB 5, 0 < ed 0 x ∧ ed 1 x < 0 := by decide +kernel
theorem sum_all : ∀ u ∈ LB 6, ∀ e ∈ LB (6 - bd u), bd (u + e) ≤ bd u + bd e ∧ (g64 (u + e) < 64 → g64 u ≤ g64 (u + e) ∨ g64 e ≤ g64 (u + e)) := by decide +kernel
theorem sum_bd_all : ∀ u ∈ LB 6, ∀ e ∈ LB (6 - bd u), bd (u + e) ≤ bd u + bd e := fun u hu e he => (sum_all u hu e he).1
theorem keep_0 : ∀ c ∈ [(0 : Int), 1, 2], ∀ x ∈ LB 5, good 1 (ed c x) → (c = 0 ∧ 1 * ed c x ≤ g64 (ed c x)) ∨ (good 1 x ∧ bd (x - g64 x) ≤ 5 ∧ ed c x - g64 (ed c x) ≤ ed c (x - g64 x)) := by decide +kernel
theorem keep_1 : ∀ c ∈ [(0 : Int), 1, 2], ∀ x ∈ LB 5, good (-1) (ed c x) → (c = 1 ∧ -1 * ed c x ≤ g64 (ed c x)) ∨ (good (-1) x ∧ bd (x + g64 x) ≤ 5 ∧ ed c (x + g64 x) ≤ ed c x + g64 (ed c x)) := by decide +kernel
theorem g64_le (x : Int) : g64 x ≤ 64 := by
  unfold g64
  have := Nat.gcd_le_right (m := x.natAbs) (n := 64) (by decide)
  omega
end
section
noncomputable def wst (a : Nat → Nat) (c : Nat → Int) (S : Nat → Bool) (k : Nat) (H : Nat → Int) (p : Nat) : Int :=
  if S k = true ∧ p = a k then H p + ed (c k) (H (k + 1)) else H p
noncomputable def hv (a : Nat → Nat) (c : Nat → Int) (n : Nat) (S : Nat → Bool) : Nat → Nat → Int
  | 0 => fun _ => 0
  | i + 1 => wst a c S (n - 1 - i) (hv a c n S i)
noncomputable def bsum (H : Nat → Int) : Nat → Nat
  | 0 => 0
  | m + 1 => bsum H m + bd (H m)
theorem bsum_at {H : Nat → Int} : ∀ {m p : Nat}, p < m → bd (H p) ≤ bsum H m
  | m + 1, p, h => by
    by_cases e : p = m
    · subst e; unfold bsum; omega
    · have := bsum_at (H := H) (m := m) (p := p) (by omega)
      unfold bsum; omega
theorem bsum_two {H : Nat → Int} {m p : Nat} (h : p < m) : bd (H p) + bd (H m) ≤ bsum H (m + 1) := by
  have := bsum_at (H := H) h
  unfold bsum; omega
theorem bsum_same {H H' : Nat → Int} : ∀ {m : Nat}, (∀ p, p < m → H' p = H p) → bsum H' m = bsum H m
  | 0, _ => rfl
  | m + 1, h => by
    unfold bsum
    rw [bsum_same (m := m) fun p hp => h p (by omega), h m (by omega)]
theorem bsum_upd {H H' : Nat → Int} {t b : Nat} (hb : bd (H' t) ≤ bd (H t) + b) : ∀ {m : Nat}, t < m → (∀ p, p < m → p ≠ t → H' p = H p) → bsum H' m ≤ bsum H m + b
  | m + 1, ht, h => by
    unfold bsum
    by_cases e : t = m
    · subst e
      rw [bsum_same (m := t) (H := H) (H' := H') fun p hp => h p (by omega) (by omega)]
      omega
    · have := bsum_upd hb (m := m) (by omega) fun p hp => h p (by omega)
      rw [h m (by omega) (by omega)]
      omega
section
variable {a : Nat → Nat} {c : Nat → Int} {n : Nat} (ha : ∀ k, a k ≤ k) (hc : ∀ k, c k ∈ [(0 : Int), 1, 2]) (hn : n ≤ 6)
theorem wst_hit {S : Nat → Bool} {k : Nat} {H : Nat → Int} {p : Nat} (h : S k = true) (e : p = a k) : wst a c S k H p = H p + ed (c k) (H (k + 1)) := if_pos ⟨h, e⟩
theorem wst_miss {S : Nat → Bool} {k : Nat} {H : Nat → Int} {p : Nat} (h : ¬ (S k = true ∧ p = a k)) : wst a c S k H p = H p := if_neg h
include ha hc in
theorem step_bd {S : Nat → Bool} {k i : Nat} {H : Nat → Int} (hi : i < 6) (h : bsum H (k + 2) ≤ i) : bsum (wst a c S k H) (k + 1) ≤ i + 1 := by
  have hk := ha k
  have e1 : bd (H (a k)) + bd (H (k + 1)) ≤ bsum H (k + 2) := bsum_two (H := H) (m := k + 1) (p := a k) (by omega)
  have e2 := ed_bd_all _ (hc k) (H (k + 1)) (mem_LB (by omega) (by omega))
  have e3 : bsum H (k + 2) = bsum H (k + 1) + bd (H (k + 1)) := rfl
  by_cases hS : S k = true
  · have := bsum_upd (H := H) (H' := wst a c S k H) (t := a k) (b := bd (H (k + 1)) + 1) (by
      rw [wst_hit hS rfl]
      have := sum_bd_all (H (a k)) (mem_LB (by omega) (by omega)) (ed (c k) (H (k + 1))) (mem_LB (by omega) (by omega))
      omega) (m := k + 1) (by omega) (fun p _ hp => wst_miss fun q => hp q.2)
    omega
  · have := bsum_same (H := H) (H' := wst a c S k H) (m := k + 1) (fun p _ => wst_miss fun q => hS q.1)
    omega
include ha hc hn in
theorem hv_bd {S : Nat → Bool} : ∀ {i k : Nat}, k + i = n → bsum (hv a c n S i) (k + 1) ≤ i
  | 0, k, _ => by
    have : ∀ m, bsum (hv a c n S 0) m = 0 := by
      intro m
      induction m with
      | zero => rfl
      | succ m ih =>
        unfold bsum; rw [ih]
        show 0 + bd 0 = 0
        decide
    rw [this]; exact Nat.le_refl _
  | i + 1, k, h => by
    have ih := hv_bd (S := S) (i := i) (k := k + 1) (by omega)
    rw [show hv a c n S (i + 1) = wst a c S (n - 1 - i) (hv a c n S i) from rfl, show n - 1 - i = k by omega]
    exact step_bd ha hc (by omega) ih
theorem hv_more {S : Nat → Bool} {i k : Nat} (h : k + (i + 1) = n) : hv a c n S (i + 1) = wst a c S k (hv a c n S i) := by
  rw [show hv a c n S (i + 1) = wst a c S (n - 1 - i) (hv a c n S i) from rfl, show n - 1 - i = k by omega]
variable {D : Nat → Nat → Bool} (hD : ∀ j, D j j = true) (hlt : ∀ j k, k < j → D j k = false) (hgt : ∀ j k, j < k → D j k = (decide (1 ≤ a k) && D j (a k - 1)))
/-- what is left of S when j falls -/
noncomputable def fallS (D : Nat → Nat → Bool) (S : Nat → Bool) (j : Nat) (k : Nat) : Bool := S k && !D j k
include ha hgt in
theorem off_same {S : Nat → Bool} {j : Nat} : ∀ {i k : Nat}, k + i = n → j < k → ∀ q, q ≤ k → (q = 0 ∨ D j (q - 1) = false) → hv a c n (fallS D S j) i q = hv a c n S i q
  | 0, _, _, _, _, _, _ => rfl
  | i + 1, k, h, hj, q, hq, ho => by
    have ih := off_same (S := S) (j := j) (i := i) (k := k + 1) (by omega) (by omega)
    have ih0 := ih q (by omega) ho
    have hk := ha k
    rw [hv_more h, hv_more h]
    by_cases hS : S k = true ∧ q = a k
    · have hDk : D j k = false := by
        rw [hgt j k hj, ← hS.2]
        rcases ho with h0 | h0
        · rw [h0]; rfl
        · rw [h0, Bool.and_false]
      have hS' : fallS D S j k = true := by unfold fallS; rw [hS.1, hDk]; rfl
      rw [wst_hit hS.1 hS.2, wst_hit hS' hS.2, ih0, ih (k + 1) (by omega) (.inr (by simpa using hDk))]
    · rw [wst_miss hS, wst_miss (fun q => hS ⟨?_, q.2⟩), ih0]
      have := q.1
      unfold fallS at this
      rw [Bool.and_eq_true] at this
      exact this.1
include ha hgt hlt hD in
/-- just behind the folder's own step: its slot has lost the folder's worth -/
theorem own_cut {S : Nat → Bool} {i j : Nat} (h : j + (i + 1) = n) (hS : S j = true) {q : Nat} (hq : q ≤ j) :
    hv a c n (fallS D S j) (i + 1) q = hv a c n S i q ∧ hv a c n S (i + 1) q = if q = a j then hv a c n S i q + ed (c j) (hv a c n S i (j + 1)) else hv a c n S i q := by
  have e := off_same ha hgt (c := c) (n := n) (S := S) (j := j) (i := i) (k := j + 1) (by omega) (by omega) q (by omega) (by
    by_cases h0 : q = 0
    · exact .inl h0
    · exact .inr (hlt _ _ (by omega)))
  rw [hv_more h, hv_more h]
  constructor
  · rw [wst_miss, e]
    intro q
    have := q.1
    unfold fallS at this
    rw [hD, Bool.and_eq_true] at this
    exact absurd this.2 (by decide)
  · by_cases hq : q = a j
    · rw [if_pos hq, wst_hit hS hq]
    · rw [if_neg hq, wst_miss (fun z => hq z.2)]
end
end
section
theorem le5 {B b i k n : Nat} (b1 : B ≤ i) (c1 : b ≤ B) (h : k + (i + 1) = n) (hn : n ≤ 6) : b ≤ 5 := by omega
noncomputable def Sided (who s : Int) : Prop := (who = 0 ∧ s = 1) ∨ (who = 1 ∧ s = -1)
theorem own_sign {who s x : Int} (h : Sided who s) (hx : bd x ≤ 5) : 0 < s * ed who x := by
  have := ed_sign_all x (mem_LB (by omega) hx)
  rcases h with ⟨rfl, rfl⟩ | ⟨rfl, rfl⟩ <;> omega
theorem ed_mono {c s x y : Int} (hc : c ∈ [(0 : Int), 1, 2]) (hs : s = 1 ∨ s = -1) (hx : bd x ≤ 5) (hy : bd y ≤ 5) (h : s * x < s * y) : s * ed c x < s * ed c y := by
  rcases hs with rfl | rfl
  · have := ed_mono_all c hc x (mem_LB (by omega) hx) y (mem_LB (by omega) hy) (by omega)
    omega
  · have := ed_mono_all c hc y (mem_LB (by omega) hy) x (mem_LB (by omega) hx) (by omega)
    omega
theorem sided_s {who s : Int} (h : Sided who s) : s = 1 ∨ s = -1 := h.imp (·.2) (·.2)
theorem ed_keep {who s c x : Int} (h : Sided who s) (hc : c ∈ [(0 : Int), 1, 2]) (hx : bd x ≤ 5) (hg : good s (ed c x)) :
    (c = who ∧ s * ed c x ≤ g64 (ed c x)) ∨ (good s x ∧ ∀ y, bd y ≤ 5 → s * x - g64 x ≤ s * y → s * ed c x - g64 (ed c x) ≤ s * ed c y) := by
  have hm := mem_LB (by omega) hx
  rcases h with ⟨rfl, rfl⟩ | ⟨rfl, rfl⟩
  · refine (keep_0 c hc x hm hg).imp id fun h => ⟨h.1, fun y hy hl => ?_⟩
    have := ed_le hc (mem_LB (by omega) h.2.1) (mem_LB (by omega) hy) (by omega)
    have := h.2.2
    omega
  · refine (keep_1 c hc x hm hg).imp id fun h => ⟨h.1, fun y hy hl => ?_⟩
    have := ed_le hc (mem_LB (by omega) hy) (mem_LB (by omega) h.2.1) (by omega)
    have := h.2.2
    omega
theorem sum_good {s u e : Int} (hs : s = 1 ∨ s = -1) (hb : bd u + bd e ≤ 6) (hg : good s (u + e)) : (good s u ∧ g64 u ≤ g64 (u + e)) ∨ (good s e ∧ g64 e ≤ g64 (u + e)) := by
  have h2 := (sum_all u (mem_LB (by omega) (by omega)) e (mem_LB (by omega) (by omega))).2
  have l0 := g64_le (u + e)
  have l1 := g64_le u
  have l2 := g64_le e
  by_cases h : g64 (u + e) < 64
  · rcases h2 h with h2 | h2
    · exact .inl ⟨.inr (by omega), h2⟩
    · exact .inr ⟨.inr (by omega), h2⟩
  · by_cases hu : g64 u = 64
    · by_cases he : g64 e = 64
      · have hp : 0 < s * (u + e) := hg.resolve_right (fun z => z (by omega))
        rw [Int.mul_add] at hp
        by_cases hpu : 0 < s * u
        · exact .inl ⟨.inl hpu, by omega⟩
        · exact .inr ⟨.inl (by omega), by omega⟩
      · exact .inr ⟨.inr he, by omega⟩
    · exact .inl ⟨.inr hu, by omega⟩
theorem not_good0 {s : Int} (h : good s 0) : False := by
  rcases h with h | h
  · rw [Int.mul_zero] at h; exact absurd h (by decide)
  · exact h (by decide)
theorem fallS_at {D : Nat → Nat → Bool} {S : Nat → Bool} {j k : Nat} (h : D j k = false) : fallS D S j k = S k := by unfold fallS; rw [h]; simp
section
variable {a : Nat → Nat} {c : Nat → Int} {n : Nat} (ha : ∀ k, a k ≤ k) (hc : ∀ k, c k ∈ [(0 : Int), 1, 2]) (hn : n ≤ 6)
variable {D : Nat → Nat → Bool} (hD : ∀ j, D j j = true) (hlt : ∀ j k, k < j → D j k = false) (hgt : ∀ j k, j < k → D j k = (decide (1 ≤ a k) && D j (a k - 1)))
include ha hc hn hD hlt hgt in
theorem cut_moves {S : Nat → Bool} (hcl : ∀ k, S k = true → 1 ≤ a k → S (a k - 1) = true) {j : Nat} (hS : S j = true) {s : Int} (hs : Sided (c j) s) (hj : j < n) :
    ∀ {i k : Nat}, k + i = n → k ≤ j → ∃ p, p ≤ k ∧ (p = 0 ∨ S (p - 1) = true) ∧ (∀ q, q ≤ k → q ≠ p → hv a c n (fallS D S j) i q = hv a c n S i q) ∧ s * hv a c n (fallS D S j) i p < s * hv a c n S i p
  | 0, k, h, hk => by omega
  | i + 1, k, h, hk => by
    have hak := ha k
    have b1 : bsum (hv a c n S i) (k + 2) ≤ i := hv_bd ha hc hn (S := S) (i := i) (k := k + 1) (by omega)
    have b2 : bsum (hv a c n (fallS D S j) i) (k + 2) ≤ i := hv_bd ha hc hn (S := fallS D S j) (i := i) (k := k + 1) (by omega)
    have c1 := bsum_at (H := hv a c n S i) (m := k + 2) (p := k + 1) (by omega)
    have c15 : bd (hv a c n S i (k + 1)) ≤ 5 := le5 b1 c1 h hn
    have c2 := bsum_at (H := hv a c n (fallS D S j) i) (m := k + 2) (p := k + 1) (by omega)
    have c25 : bd (hv a c n (fallS D S j) i (k + 1)) ≤ 5 := le5 b2 c2 h hn
    by_cases e : k = j
    · subst e
      refine ⟨a k, ha k, ?_, fun q hq hne => ?_, ?_⟩
      · by_cases h0 : a k = 0
        · exact .inl h0
        · exact .inr (hcl k hS (by omega))
      · have := own_cut ha hD hlt hgt (c := c) h hS hq
        rw [this.1, this.2, if_neg hne]
      · have := own_cut ha hD hlt hgt (c := c) h hS (q := a k) (ha k)
        rw [this.1, this.2, if_pos rfl, Int.mul_add]
        have := own_sign hs (x := hv a c n S i (k + 1)) (by omega)
        omega
    · obtain ⟨p, hp, hpS, hne, hl⟩ := cut_moves hcl hS hs hj (i := i) (k := k + 1) (by omega) (by omega)
      have hSk : fallS D S j k = S k := fallS_at (hlt _ _ (by omega))
      rw [hv_more h, hv_more h]
      by_cases hpk : p = k + 1
      · subst hpk
        have hSk1 : S k = true := by simpa using hpS
        have hSk2 := hSk.trans hSk1
        refine ⟨a k, ha k, ?_, fun q hq hqn => ?_, ?_⟩
        · by_cases h0 : a k = 0
          · exact .inl h0
          · exact .inr (hcl k hSk1 (by omega))
        · rw [wst_miss (fun z => hqn z.2), wst_miss (fun z => hqn z.2)]
          exact hne q (by omega) (by omega)
        · rw [wst_hit hSk1 rfl, wst_hit hSk2 rfl, hne (a k) (by omega) (by omega), Int.mul_add, Int.mul_add]
          have := ed_mono (hc k) (sided_s hs) (by omega) (by omega) hl
          omega
      · refine ⟨p, by omega, hpS, fun q hq hqn => ?_, ?_⟩
        · have e1 := hne q (by omega) hqn
          have e2 := hne (k + 1) (by omega) (by omega)
          unfold wst
          rw [hSk, e1, e2]
        · have e2 := hne (k + 1) (by omega) (by omega)
          unfold wst
          rw [hSk, e2]
          split
          · rw [Int.mul_add, Int.mul_add]; omega
          · exact hl
include ha hc hn hD hlt hgt in
theorem good_cut {S : Nat → Bool} {who s : Int} (hs : Sided who s) :
    ∀ {i k : Nat}, k + i = n → ∀ p, p ≤ k → good s (hv a c n S i p) → ∃ j, k ≤ j ∧ j < n ∧ S j = true ∧ c j = who ∧ (∀ q, q ≤ k → q ≠ p → hv a c n (fallS D S j) i q = hv a c n S i q) ∧
      s * hv a c n S i p - g64 (hv a c n S i p) ≤ s * hv a c n (fallS D S j) i p ∧ s * hv a c n (fallS D S j) i p < s * hv a c n S i p
  | 0, k, h, p, hp, hg => absurd hg not_good0
  | i + 1, k, h, p, hp, hg => by
    have hak := ha k
    have ih := good_cut hs (S := S) (i := i) (k := k + 1) (by omega)
    have b1 : bsum (hv a c n S i) (k + 2) ≤ i := hv_bd ha hc hn (S := S) (i := i) (k := k + 1) (by omega)
    have c1 := bsum_at (H := hv a c n S i) (m := k + 2) (p := k + 1) (by omega)
    have c15 : bd (hv a c n S i (k + 1)) ≤ 5 := le5 b1 c1 h hn
    have c2 : bd (hv a c n S i (a k)) + bd (hv a c n S i (k + 1)) ≤ bsum (hv a c n S i) (k + 2) := bsum_two (by omega)
    have c3 := ed_bd_all _ (hc k) (hv a c n S i (k + 1)) (mem_LB (by omega) (by omega))
    rw [hv_more h] at hg ⊢
    by_cases hh : S k = true ∧ p = a k
    · obtain ⟨hSk, rfl⟩ := hh
      rw [wst_hit hSk rfl] at hg ⊢
      rcases sum_good (sided_s hs) (by omega) hg with ⟨g1, g2⟩ | ⟨g1, g2⟩
      · obtain ⟨j, hj, hjn, hSj, hcj, hne, hl, hm⟩ := ih (a k) (by omega) g1
        have hSk2 : fallS D S j k = S k := fallS_at (hlt _ _ (by omega))
        have e2 := hne (k + 1) (by omega) (by omega)
        refine ⟨j, by omega, hjn, hSj, hcj, fun q hq hqn => ?_, ?_⟩
        · rw [hv_more h, wst_miss (fun z => hqn z.2), wst_miss (fun z => hqn z.2)]
          exact hne q (by omega) hqn
        · rw [hv_more h, wst_hit (hSk2.trans hSk) rfl, e2]
          simp only [Int.mul_add]
          omega
      · rcases ed_keep hs (hc k) (by omega) g1 with ⟨k1, k2⟩ | ⟨k1, k2⟩
        · refine ⟨k, Nat.le_refl _, by omega, hSk, k1, fun q hq hqn => ?_, ?_⟩
          · have := own_cut ha hD hlt hgt (c := c) h hSk hq
            rw [this.1, wst_miss (fun z => hqn z.2)]
          · have := own_cut ha hD hlt hgt (c := c) h hSk (q := a k) (ha k)
            rw [this.1]
            have := own_sign hs (x := hv a c n S i (k + 1)) (by omega)
            rw [← k1] at this
            simp only [Int.mul_add]
            omega
        · obtain ⟨j, hj, hjn, hSj, hcj, hne, hl, hm⟩ := ih (k + 1) (by omega) k1
          have hSk2 : fallS D S j k = S k := fallS_at (hlt _ _ (by omega))
          have b2 : bsum (hv a c n (fallS D S j) i) (k + 2) ≤ i := hv_bd ha hc hn (S := fallS D S j) (i := i) (k := k + 1) (by omega)
          have d2 := bsum_at (H := hv a c n (fallS D S j) i) (m := k + 2) (p := k + 1) (by omega)
          have d25 : bd (hv a c n (fallS D S j) i (k + 1)) ≤ 5 := le5 b2 d2 h hn
          have e1 := k2 _ (by omega) hl
          have e2 := ed_mono (hc k) (sided_s hs) (by omega) (by omega) hm
          refine ⟨j, by omega, hjn, hSj, hcj, fun q hq hqn => ?_, ?_⟩
          · rw [hv_more h, wst_miss (fun z => hqn z.2), wst_miss (fun z => hqn z.2)]
            exact hne q (by omega) (by omega)
          · rw [hv_more h, wst_hit (hSk2.trans hSk) rfl, hne (a k) (by omega) (by omega)]
            simp only [Int.mul_add]
            omega
    · rw [wst_miss hh] at hg ⊢
      obtain ⟨j, hj, hjn, hSj, hcj, hne, hl, hm⟩ := ih p (by omega) hg
      have hSk2 : fallS D S j k = S k := fallS_at (hlt _ _ (by omega))
      have e2 := hne (k + 1) (by omega) (by omega)
      refine ⟨j, by omega, hjn, hSj, hcj, fun q hq hqn => ?_, ?_⟩
      · have e1 := hne q (by omega) hqn
        rw [hv_more h]
        unfold wst
        rw [hSk2, e1, e2]
      · rw [hv_more h, wst_miss (fun z => hh ⟨hSk2.symm.trans z.1, z.2⟩)]
        exact ⟨hl, hm⟩
/-- the worth of what stands: what hangs from the ground -/
noncomputable def wor (a : Nat → Nat) (c : Nat → Int) (n : Nat) (S : Nat → Bool) : Int := hv a c n S n 0
include ha hc hn hD hlt hgt in
theorem own_lowers {S : Nat → Bool} (hcl : ∀ k, S k = true → 1 ≤ a k → S (a k - 1) = true) {j : Nat} (hS : S j = true) {s : Int} (hs : Sided (c j) s) (hj : j < n) :
    s * wor a c n (fallS D S j) < s * wor a c n S := by
  obtain ⟨p, hp, _, _, h⟩ := cut_moves ha hc hn hD hlt hgt hcl hS hs hj (i := n) (k := 0) (by omega) (by omega)
  have : p = 0 := by omega
  subst this
  exact h
include ha hc hn hD hlt hgt in
theorem own_good {S : Nat → Bool} {who s : Int} (hs : Sided who s) (h : 0 < s * wor a c n S) : ∃ j, j < n ∧ S j = true ∧ c j = who ∧ 0 ≤ s * wor a c n (fallS D S j) := by
  obtain ⟨j, _, hj, hS, hc, _, h1, _⟩ := good_cut ha hc hn hD hlt hgt (S := S) hs (i := n) (k := 0) (by omega) 0 (Nat.le_refl _) (.inl h)
  refine ⟨j, hj, hS, hc, ?_⟩
  have hg : ∀ x : Int, 0 < s * x → g64 x ≤ s * x := by
    intro x hx
    have hx0 : x.natAbs ≠ 0 := by
      intro e
      rw [Int.natAbs_eq_zero.mp e, Int.mul_zero] at hx
      omega
    have := Nat.gcd_le_left 64 (Nat.pos_of_ne_zero hx0)
    unfold g64
    rcases sided_s hs with rfl | rfl <;> omega
  have := hg _ h
  unfold wor at this ⊢
  omega
end
end
section
noncomputable def faLL (ds : List Int) (wh : Int) : List (List Int) := (List.range ds.length).map fun i => faTo ds wh i ds.length
theorem faLL_len (ds : List Int) (wh : Int) : (faLL ds wh).length = ds.length := by simp [faLL]
theorem faLL_get {ds : List Int} {wh : Int} {k : Nat} (hk : k < ds.length) : (faLL ds wh).getD k [] = faTo ds wh k ds.length := by
  rw [List.getD_eq_getElem?_getD]; simp [faLL, hk]
theorem cuL_len (ds : List Int) (i : Nat) : (cuL ds i).length = i := by simp [cuL]
theorem heS_len {ds : List Int} (k : Nat) : (heS ds k).length ≤ ds.length := by
  cases k with
  | zero => simp [heS, rgI]
  | succ k =>
    refine Nat.le_trans (List.length_filter_le _ _) ?_
    simp [rgI]
theorem heS_in {ds : List Int} (k : Nat) : ∀ j ∈ heS ds k, 0 ≤ j ∧ j < ds.length := by
  have h0 : ∀ j ∈ rgI ds.length, 0 ≤ j ∧ j < ds.length := by
    intro j hj
    obtain ⟨a, ha, rfl⟩ := List.mem_map.mp hj
    have := List.mem_range.mp ha
    omega
  cases k with
  | zero => exact h0
  | succ k => exact fun j hj => h0 j (List.mem_filter.mp hj).1
theorem go_self (ds : List Int) (i : Nat) : ∀ q, ((i : Int)) ∈ goTo ds i q
  | 0 => .head _
  | q + 1 => by
    have ih := go_self ds i q
    unfold goTo
    split
    · exact List.mem_append_left _ ih
    · exact ih
theorem whL_get {ds : List Int} {n k : Nat} (hk : k < n) : (whL ds n).getD k 0 = whsS ds k := by
  rw [List.getD_eq_getElem?_getD]; simp [whL, hk]
theorem whs_in (ds : List Int) (k : Nat) : whsS ds k ∈ [(0 : Int), 1, 2] := by
  have := whs_bd ds k
  simp only [List.mem_cons, List.not_mem_nil, or_false]
  omega
/-- the folders of S as a list -/
noncomputable def heL (n : Nat) (S : Nat → Bool) : List Int := castL ((List.range n).filter S)
theorem mem_heL {n : Nat} {S : Nat → Bool} {z : Int} : z ∈ heL n S ↔ ∃ k, k < n ∧ S k = true ∧ (k : Int) = z := by
  unfold heL castL
  rw [List.mem_map]
  constructor
  · rintro ⟨k, hk, e⟩
    obtain ⟨h1, h2⟩ := List.mem_filter.mp hk
    exact ⟨k, List.mem_range.mp h1, h2, e⟩
  · rintro ⟨k, h1, h2, e⟩
    exact ⟨k, List.mem_filter.mpr ⟨List.mem_range.mpr h1, h2⟩, e⟩
theorem any_heL {n : Nat} {S : Nat → Bool} {k : Nat} (hk : k < n) : (heL n S).any (· == (k : Int)) = S k := by
  rw [Bool.eq_iff_iff, List.any_eq_true]
  constructor
  · rintro ⟨z, hz, e⟩
    obtain ⟨j, _, h2, e2⟩ := mem_heL.mp hz
    have e3 : z = (k : Int) := by simpa using e
    have : j = k := by omega
    rw [← this]; exact h2
  · intro h
    exact ⟨_, mem_heL.mpr ⟨k, hk, h, rfl⟩, by simp⟩
theorem filt_heL {n : Nat} {S : Nat → Bool} {P : Int → Bool} : (heL n S).filter P = heL n fun k => S k && P k := by
  unfold heL castL
  rw [List.filter_map, List.filter_filter]
  congr 1
  exact List.filter_congr fun x _ => Bool.and_comm _ _
theorem heL_congr {n : Nat} {S T : Nat → Bool} (h : ∀ k, k < n → S k = T k) : heL n S = heL n T := by
  unfold heL
  rw [List.filter_congr fun x hx => h x (List.mem_range.mp hx)]
theorem go_any {ds : List Int} {i j : Nat} (hi : i < ds.length) (hj : j < ds.length) : (goS ds i).any (· == (j : Int)) = dsc (aN ds) i j := by
  rw [goS_is hi]
  exact any_heL hj
theorem heL_all {n : Nat} : heL n (fun _ => true) = rgI n := by
  unfold heL castL rgI
  rw [List.filter_eq_self.mpr fun _ _ => rfl]
theorem heS_0 (ds : List Int) : heS ds 0 = heL ds.length fun _ => true := heL_all.symm
theorem heS_cut {ds : List Int} {i : Nat} (hi : i < ds.length) : heS ds (i + 1) = heL ds.length (fallS (dsc (aN ds)) (fun _ => true) i) := by
  show (rgI ds.length).filter _ = _
  rw [← heL_all, filt_heL]
  refine heL_congr fun k hk => ?_
  rw [go_any hi hk]
  rfl
theorem left_heL {ds : List Int} {wh : Int} (h : ∀ k, 0 ≤ ds.getD k 0 ∧ ds.getD k 0 < 96) (hn : ds.length ≤ 6) {S : Nat → Bool} {j : Nat} (hj : j < ds.length) : fwLeft (faLL ds wh) (heL ds.length S) (j : Int) = heL ds.length (fallS (dsc (aN ds)) S j) := by
  unfold fwLeft
  rw [filt_heL]
  refine heL_congr fun k hk => ?_
  rw [Int.toNat_natCast, faLL_get hj, fa_gone h hn hj]
  rw [go_any hj hk]
  rfl
theorem getD_set (H : List Int) (i : Nat) (v : Int) (hi : i < H.length) (p : Nat) : (H.set i v).getD p 0 = if p = i then v else H.getD p 0 := by
  rw [List.getD_eq_getElem?_getD, List.getElem?_set, List.getD_eq_getElem?_getD]
  by_cases e : i = p
  · subst e; simp [hi]
  · rw [if_neg e, if_neg (Ne.symm e)]
theorem hung_hv {ds : List Int} {S : Nat → Bool} : ∀ i, i ≤ ds.length → ∀ p, (hungAt (abL ds ds.length) (whL ds ds.length) (heL ds.length S) i).getD p 0 = hv (aN ds) (whsS ds) ds.length S i p
  | 0, _, p => by
    show (List.replicate ((abL ds ds.length).length + 1) (0 : Int)).getD p 0 = 0
    rw [List.getD_eq_getElem?_getD, List.getElem?_replicate]
    split <;> rfl
  | i + 1, hi, p => by
    have ih := hung_hv (ds := ds) (S := S) i (by omega)
    have hl := hungAt_len (ab := abL ds ds.length) (wh := whL ds ds.length) (he := heL ds.length S) i
    rw [abL_len] at hl
    rw [hungAt_more (by rw [abL_len]; omega), abL_len]
    obtain ⟨k, hk⟩ : ∃ k, k = ds.length - 1 - i := ⟨_, rfl⟩
    rw [show ((ds.length : Int) - 1 + (i : Int) * (-1)) = (k : Int) by omega, hv_more (a := aN ds) (c := whsS ds) (n := ds.length) (S := S) (i := i) (k := k) (by omega)]
    have ha := aN_le ds k
    unfold wstep
    rw [any_heL (by omega)]
    by_cases hS : S k = true
    · rw [if_pos hS]
      dsimp only
      rw [Int.toNat_natCast, abL_get (by omega), whL_get (by omega), show ((k : Int) + 1).toNat = k + 1 by omega]
      show ((hungAt _ _ _ i).set (aN ds k) ((hungAt _ _ _ i).getD (aN ds k) 0 + ed (whsS ds k) ((hungAt _ _ _ i).getD (k + 1) 0))).getD p 0 = _
      rw [getD_set _ _ _ (by omega), ih, ih, ih]
      by_cases e : p = aN ds k
      · subst e
        rw [if_pos rfl, wst_hit hS rfl]
      · rw [if_neg e, wst_miss (fun z => e z.2)]
    · rw [if_neg hS, wst_miss (fun z => hS z.1), ih]
theorem worth_wor {ds : List Int} {S : Nat → Bool} : worthS (abL ds ds.length) (whL ds ds.length) (heL ds.length S) = wor (aN ds) (whsS ds) ds.length S := by
  unfold worthS
  rw [abL_len]
  exact hung_hv _ (Nat.le_refl _) 0
noncomputable def Closed (a : Nat → Nat) (S : Nat → Bool) : Prop := ∀ k, S k = true → 1 ≤ a k → S (a k - 1) = true
theorem closed_cut {a : Nat → Nat} (ha : ∀ k, a k ≤ k) {S : Nat → Bool} (h : Closed a S) (j : Nat) : Closed a (fallS (dsc a) S j) := by
  intro k hk h1
  have hak := ha k
  unfold fallS at hk ⊢
  rw [Bool.and_eq_true] at hk ⊢
  refine ⟨h k hk.1 h1, ?_⟩
  cases hd : dsc a j (a k - 1) with
  | false => rfl
  | true =>
    exfalso
    have hjk : j < k := by
      by_cases z : j < k
      · exact z
      · rw [dsc_lt _ _ _ (by omega)] at hd; cases hd
    have := dsc_gt ha j k hjk
    rw [hd, decide_eq_true h1] at this
    rw [this] at hk
    exact absurd hk.2 (by decide)
theorem sided_not {who s : Int} (h : Sided who s) : Sided (1 - who) (-s) := by
  unfold Sided at h ⊢; omega
theorem game {ds : List Int} {wh : Int} (h : ∀ k, 0 ≤ ds.getD k 0 ∧ ds.getD k 0 < 96) (hn : ds.length ≤ 6) : ∀ (f : Nat) (S : Nat → Bool), Closed (aN ds) S → (heL ds.length S).length ≤ f → ∀ who s, Sided who s →
    fw (cuL ds ds.length) (faLL ds wh) f (heL ds.length S) who = decide (0 < s * wor (aN ds) (whsS ds) ds.length S) := by
  intro f
  induction f with
  | zero =>
    intro S hcl hlen who s hs
    have he : heL ds.length S = [] := List.length_eq_zero_iff.mp (by omega)
    show false = _
    refine (decide_eq_false fun hpos => ?_).symm
    obtain ⟨j, hj, hS, _⟩ := own_good (aN_le ds) (whs_in ds) hn (dsc_self _) (dsc_lt _) (dsc_gt (aN_le ds)) hs hpos
    have : ((j : Nat) : Int) ∈ heL ds.length S := mem_heL.mpr ⟨j, hj, hS, rfl⟩
    rw [he] at this
    cases this
  | succ f ih =>
    intro S hcl hlen who s hs
    have left : ∀ j, j < ds.length → S j = true → fw (cuL ds ds.length) (faLL ds wh) f (fwLeft (faLL ds wh) (heL ds.length S) (j : Int)) (1 - who) = decide (0 < -s * wor (aN ds) (whsS ds) ds.length (fallS (dsc (aN ds)) S j)) := by
      intro j hj hS
      have hlt := left_len (fa := faLL ds wh) (he := heL ds.length S) (i := (j : Int)) (mem_heL.mpr ⟨j, hj, hS, rfl⟩) (by
        rw [Int.toNat_natCast, faLL_get hj, fa_gone h hn hj, go_any hj hj, dsc_self])
      rw [left_heL h hn hj] at hlt ⊢
      exact ih _ (closed_cut (aN_le ds) hcl j) (by omega) _ _ (sided_not hs)
    show (heL ds.length S).any _ = _
    rw [Bool.eq_iff_iff, List.any_eq_true, decide_eq_true_iff]
    constructor
    · rintro ⟨z, hz, e⟩
      obtain ⟨j, hj, hS, rfl⟩ := mem_heL.mp hz
      rw [Bool.and_eq_true, left j hj hS, Int.toNat_natCast, cu_wh h, whL_get hj, beq_iff_eq] at e
      obtain ⟨e1, e2⟩ := e
      have e3 : ¬ 0 < -s * wor (aN ds) (whsS ds) ds.length (fallS (dsc (aN ds)) S j) := by simpa using e2
      have := own_lowers (aN_le ds) (whs_in ds) hn (dsc_self _) (dsc_lt _) (dsc_gt (aN_le ds)) hcl hS (s := s) (by rw [e1]; exact hs) hj
      rw [Int.neg_mul] at e3
      omega
    · intro hpos
      obtain ⟨j, hj, hS, hc, h0⟩ := own_good (aN_le ds) (whs_in ds) hn (dsc_self _) (dsc_lt _) (dsc_gt (aN_le ds)) hs hpos
      refine ⟨_, mem_heL.mpr ⟨j, hj, hS, rfl⟩, ?_⟩
      rw [Bool.and_eq_true, left j hj hS, Int.toNat_natCast, cu_wh h, whL_get hj, beq_iff_eq]
      refine ⟨hc, ?_⟩
      rw [decide_eq_false (by rw [Int.neg_mul]; omega)]
      rfl
theorem heS_is {ds : List Int} {k : Nat} (hk : k ≤ ds.length) : ∃ S, heS ds k = heL ds.length S ∧ Closed (aN ds) S := by
  cases k with
  | zero => exact ⟨_, heS_0 ds, fun _ _ _ => rfl⟩
  | succ i => exact ⟨_, heS_cut (by omega), closed_cut (aN_le ds) (fun _ _ _ => rfl) i⟩
theorem heL_len {n : Nat} {S : Nat → Bool} : (heL n S).length ≤ n := by
  unfold heL castL
  rw [List.length_map]
  exact Nat.le_trans (List.length_filter_le _ _) (by simp)
theorem game_0 {ds : List Int} {wh : Int} (h : ∀ k, 0 ≤ ds.getD k 0 ∧ ds.getD k 0 < 96) (hn : ds.length ≤ 6) {k : Nat} (hk : k ≤ ds.length) :
    fw (cuL ds ds.length) (faLL ds wh) 6 (heS ds k) 0 = decide (0 < worthS (abL ds ds.length) (whL ds ds.length) (heS ds k)) := by
  obtain ⟨S, e, hcl⟩ := heS_is hk
  rw [e, worth_wor, game h hn 6 S hcl (Nat.le_trans heL_len hn) 0 1 (.inl ⟨rfl, rfl⟩), Int.one_mul]
theorem game_1 {ds : List Int} {wh : Int} (h : ∀ k, 0 ≤ ds.getD k 0 ∧ ds.getD k 0 < 96) (hn : ds.length ≤ 6) {k : Nat} (hk : k ≤ ds.length) :
    fw (cuL ds ds.length) (faLL ds wh) 6 (heS ds k) 1 = decide (worthS (abL ds ds.length) (whL ds ds.length) (heS ds k) < 0) := by
  obtain ⟨S, e, hcl⟩ := heS_is hk
  rw [e, worth_wor, game h hn 6 S hcl (Nat.le_trans heL_len hn) 1 (-1) (.inr ⟨rfl, rfl⟩)]
  congr 1
  rw [eq_iff_iff]
  omega
noncomputable def MJ (NX : List (Addr × Obj)) (lH lF lC lW lA : Addr) (_i : Nat) (m : Str → Option Value) (nx : List (Addr × Obj)) : Prop :=
  nx = NX ∧ m (Str.ofString "aboves") = some (.ref lA) ∧ m (Str.ofString "whose") = some (.ref lW) ∧ m (Str.ofString "cuts") = some (.ref lC) ∧ m (Str.ofString "falls") = some (.ref lF) ∧ m (Str.ofString "heres") = some (.ref lH)
end
section
local macro_rules | `(tactic| walk_at "call ref") => `(tactic| k_extra "m18")
set_option maxRecDepth 100000 in
set_option maxHeartbeats 8000000 in
theorem written_spec (w : World) (mean : ExcName → Option Value) (mg mb : Str → Option Value) (i : Int) (u : Tok) (x : Str) (t : Tok) (hi : i = 0 ∨ i = 1 ∨ i = 2) (hx : x.length ≤ 20) (htm : Tame x) :
    Claim w mean mg mb 209 3 24 1 [] [.int i u, .str x t] (fun v => ∃ t', v = .str (spellS i x) t') := by
  unfold Claim
  intro dp un gd cn cs a ccd cl outer A₀ base h₀ L m news s Q E B F X N T hk hn hdp hun htk hret
  w_top off
  k_with_none
  k_with "m1" => ((k_here; refine execs_cons_t (by first | exact Nat.succ_pos _ | assumption | (dsimp only; omega)) ?_))
  k_with "m2" => (first | (refine tnext_next ?_; intro tk9 htk9) | refine tnext_ret ?_ | refine tnext_brk ?_ | refine tnext_cont ?_)
  k_with "m18" => ((k_here; k_dflt (first | refine' claim_use (esc_spec _ _ _ _ _ _ (by assumption) (by assumption)) ?k1 ?k2 ?k3 ?k4 ?k5 ?kK ?kn ?kd ?ku ?kt ?_ | refine' claim_use (escH_spec _ _ _ _ _ _ (by assumption) (by assumption)) ?k1 ?k2 ?k3 ?k4 ?k5 ?kK ?kn ?kd ?ku ?kt ?_ | refine' claim_use (escC_spec _ _ _ _ _ _ (by assumption) (by assumption)) ?k1 ?k2 ?k3 ?k4 ?k5 ?kK ?kn ?kd ?ku ?kt ?_); (case k1 => k_asm); (case k2 => k_asm); (case k3 => k_asm); (case k4 => k_asm); (case k5 => k_asm); (case kK => first | exact rfl | assumption); (case kn => first | exact fun _ h9 => nomatch h9 | assumption); (case kd => ktr_room); (case ku => ktr_units); (case kt => first | exact Nat.zero_le _ | (dsimp only; omega)); intro r9 h9 tk9 R9 F9 N9; (first | (obtain ⟨t9, e9⟩ := R9; subst e9) | subst R9 | skip); (try dsimp only); (try k_fold)))
  have kf : PySem.Challenge.rw_il0079_01 = PySem.Challenge.rw_il0079_01 ∧ hd.heap_1 w.params = hd.heap_1 w.params := by (k_fill; exact ⟨rfl, rfl⟩)
  clear kf
  refine wpAny_call ?_
  k_dflt cell_enter
  k_steps
  all_goals (refine hret _ _ _ ⟨_, congrArg (fun j => Value.str (spellS j x) _) ?_⟩ (by k_asm) (by k_asm); omega)
end
section
local macro_rules
  | `(tactic| walk_at "PostG") => `(tactic| k_extra "m19")
  | `(tactic| walk_at "StS") => `(tactic| first | refine sts_next ?_ | refine sts_ret ?_ | refine sts_brk ?_ | refine sts_cont ?_)
  | `(tactic| walk_at "exec For Name Call cons nil") => `(tactic| k_extra "m20")
  | `(tactic| walk_at "pyIter ref") => `(tactic| k_extra "my pyIter")
local macro_rules | `(tactic| k_all) => `(tactic| k_extra "all")
local macro_rules
  | `(tactic| walk_at "call ref") => `(tactic| (k_here; k_dflt (k_extra "my call")))
  | `(tactic| walk_at "call type:range") => `(tactic| k_extra "m21")
  | `(tactic| walk_at "call builtin:list.append") => `(tactic| (k_here; k_dflt (k_extra "my append")))
  | `(tactic| walk_at "subscriptTail") => `(tactic| (k_here; k_dflt (k_extra "my sub")))
  | `(tactic| walk_at "subscriptTail Name Name ref int") => `(tactic| (k_here; k_dflt (k_extra "my sub")))
  | `(tactic| walk_at "subscriptTail Name Subscript ref int") => `(tactic| (k_here; k_dflt (k_extra "my sub")))
  | `(tactic| walk_at "subscriptTail List Subscript ref int") => `(tactic| (k_here; k_dflt (k_extra "my sub")))
  | `(tactic| walk_at "eval ListComp") => `(tactic| k_extra "m22")
  | `(tactic| walk_at "CompSrc") => `(tactic| k_extra "my src")
  | `(tactic| walk_at "CompSrcT") => `(tactic| k_extra "my src")
  | `(tactic| walk_at "call builtin:str.join") => `(tactic| (k_here; k_dflt (k_extra "my join")))
  | `(tactic| walk_at "exec Assign cons ListComp") => `(tactic| k_extra "m23")
  | `(tactic| walk_at "subscriptTail Name BinOp ref int") => `(tactic| (k_here; k_dflt (k_extra "my sub")))
  | `(tactic| walk_at "subscriptTail Name Constant ref int") => `(tactic| (k_here; k_dflt (k_extra "my sub")))
  | `(tactic| walk_at "compareOp NotEq ref ref") => `(tactic| (k_here; k_dflt (k_extra "my ne")))
local macro_rules
  | `(tactic| walk_at "exec Assign cons ListComp") => `(tactic| k_extra "m24")
  | `(tactic| walk_at "call type:list") => `(tactic| (k_here; k_dflt (k_extra "my list")))
  | `(tactic| walk_at "compareOp In int ref") => `(tactic| (k_here; k_dflt (k_extra "my in")))
  | `(tactic| walk_at "compareOp NotIn int ref") => `(tactic| (k_here; k_dflt (k_extra "my in")))
local macro_rules | `(tactic| k_ne) => `(tactic| k_dflt (k_extra "ne"))
local macro_rules | `(tactic| k_qdec) => `(tactic| decide +kernel)
set_option maxRecDepth 100000 in
set_option maxHeartbeats 0 in
theorem law_holds : PySem.Challenge.rw_il0079_01.Holds := hd.2 <| And.intro hd_left <| by
  conv => whnf
  w_top off
  k_with_none
  k_with "m1" => ((k_here; refine execs_cons_t (by first | exact Nat.succ_pos _ | assumption | (dsimp only; omega)) ?_))
  k_with "m2" => (first | (refine tnext_next ?_; intro tk9 htk9) | refine tnext_ret ?_ | refine tnext_brk ?_ | refine tnext_cont ?_)
  k_with "m19" => (first | refine postG_next ?_ | refine postG_cont ?_ | refine postG_ret ?_ | refine postG_brk ?_)
  k_with "m20" => ((k_here; (rename Fr _ _ _ _ => lF'); (with_unfolding_all refine' For_invVF lF' ?k1 ?k2 ?_; (case k1 => exact rfl); (case k2 => exact rfl); k_whole)))
  k_with "m21" => ((k_here; (rename Fr _ _ _ _ => F7); (rename News _ _ _ _ => N7); first | (with_unfolding_all refine range1_rows F7 N7 ?_; clear F7 N7; intro h7 tk7 t7 u7 v7 R7 F7 N7 K7; clear K7) | (with_unfolding_all refine range2_rows F7 N7 ?_; clear F7 N7; intro h7 tk7 t7 u7 v7 R7 F7 N7 K7; clear K7)))
  k_with "m22" => ((k_here; k_dflt (first | refine LCg.ListComp_U (F₀ := by assumption) (by with_unfolding_all rfl) (by decide) (by rfl) (by decide) (by rfl) ?_ | refine LCt.ListComp_T (F₀ := by assumption) (by with_unfolding_all rfl) (by decide) (by rfl) (by decide) (by rfl) ?_)))
  k_with "m23" => ((k_here; k_dflt (first | refine LCg.Assign_ListComp_U (F₀ := by assumption) rfl (by with_unfolding_all rfl) (by with_unfolding_all rfl) (by decide) (by rfl) (by decide) (by rfl) (by rfl) (by rfl) ?_)))
  k_with "m24" => ((k_here; k_dflt (refine Assign_C (by assumption) rfl (by with_unfolding_all rfl) (by with_unfolding_all rfl) (fun _ => by rfl) (fun _ => by rfl) (by rfl) (by decide) (by rfl) (by rfl) (by rfl) ?_)))
  k_go0
  k_with "ne" => (refine neN ?_; (try dsimp only); first | (with_reducible first | assumption | (refine Ne.symm ?_; assumption)) | (with_reducible first | exact cd1 _ | exact (cd1 _).symm | exact cd2 _ | exact (cd2 _).symm | exact cd3 _ | exact (cd3 _).symm | exact cd4 _ | exact (cd4 _).symm | exact cd5 _ | exact (cd5 _).symm | exact cd6 _ | exact (cd6 _).symm) | (with_reducible first | exact (And.left (by assumption)) | exact Ne.symm (And.left (by assumption)) | exact (And.left (And.right (by assumption))) | exact Ne.symm (And.left (And.right (by assumption))) | exact (And.left (And.right (And.right (by assumption)))) | exact Ne.symm (And.left (And.right (And.right (by assumption)))) | exact (And.left (And.right (And.right (And.right (by assumption))))) | exact Ne.symm (And.left (And.right (And.right (And.right (by assumption))))) | exact (And.left (And.right (And.right (And.right (And.right (by assumption)))))) | exact Ne.symm (And.left (And.right (And.right (And.right (And.right (by assumption)))))) | exact (And.left (And.right (And.right (And.right (And.right (And.right (by assumption))))))) | exact Ne.symm (And.left (And.right (And.right (And.right (And.right (And.right (by assumption))))))) | exact (And.left (And.right (And.right (And.right (And.right (And.right (And.right (by assumption)))))))) | exact Ne.symm (And.left (And.right (And.right (And.right (And.right (And.right (And.right (by assumption)))))))) | exact (And.left (And.right (And.right (And.right (And.right (And.right (And.right (And.right (by assumption))))))))) | exact Ne.symm (And.left (And.right (And.right (And.right (And.right (And.right (And.right (And.right (by assumption))))))))) | exact (And.left (And.right (And.right (And.right (And.right (And.right (And.right (And.right (And.right (by assumption)))))))))) | exact Ne.symm (And.left (And.right (And.right (And.right (And.right (And.right (And.right (And.right (And.right (by assumption)))))))))) | exact cne1 (And.left (by assumption)) | exact Ne.symm (cne1 (And.left (by assumption))) | exact cne2 (And.left (by assumption)) | exact Ne.symm (cne2 (And.left (by assumption))) | exact cne3 (And.left (by assumption)) | exact Ne.symm (cne3 (And.left (by assumption))) | exact cne4 (And.left (by assumption)) | exact Ne.symm (cne4 (And.left (by assumption))) | exact cne5 (And.left (by assumption)) | exact Ne.symm (cne5 (And.left (by assumption))) | exact cne6 (And.left (by assumption)) | exact Ne.symm (cne6 (And.left (by assumption))) | exact cne7 (And.left (by assumption)) | exact Ne.symm (cne7 (And.left (by assumption))) | exact cne1 (And.left (And.right (by assumption))) | exact Ne.symm (cne1 (And.left (And.right (by assumption)))) | exact cne2 (And.left (And.right (by assumption))) | exact Ne.symm (cne2 (And.left (And.right (by assumption)))) | exact cne3 (And.left (And.right (by assumption))) | exact Ne.symm (cne3 (And.left (And.right (by assumption)))) | exact cne4 (And.left (And.right (by assumption))) | exact Ne.symm (cne4 (And.left (And.right (by assumption)))) | exact cne5 (And.left (And.right (by assumption))) | exact Ne.symm (cne5 (And.left (And.right (by assumption)))) | exact cne6 (And.left (And.right (by assumption))) | exact Ne.symm (cne6 (And.left (And.right (by assumption)))) | exact cne7 (And.left (And.right (by assumption))) | exact Ne.symm (cne7 (And.left (And.right (by assumption)))) | exact cne1 (And.left (And.right (And.right (by assumption)))) | exact Ne.symm (cne1 (And.left (And.right (And.right (by assumption))))) | exact cne2 (And.left (And.right (And.right (by assumption)))) | exact Ne.symm (cne2 (And.left (And.right (And.right (by assumption))))) | exact cne3 (And.left (And.right (And.right (by assumption)))) | exact Ne.symm (cne3 (And.left (And.right (And.right (by assumption))))) | exact cne4 (And.left (And.right (And.right (by assumption)))) | exact Ne.symm (cne4 (And.left (And.right (And.right (by assumption))))) | exact cne5 (And.left (And.right (And.right (by assumption)))) | exact Ne.symm (cne5 (And.left (And.right (And.right (by assumption))))) | exact cne6 (And.left (And.right (And.right (by assumption)))) | exact Ne.symm (cne6 (And.left (And.right (And.right (by assumption))))) | exact cne7 (And.left (And.right (And.right (by assumption)))) | exact Ne.symm (cne7 (And.left (And.right (And.right (by assumption))))) | exact cne1 (And.left (And.right (And.right (And.right (by assumption))))) | exact Ne.symm (cne1 (And.left (And.right (And.right (And.right (by assumption)))))) | exact cne2 (And.left (And.right (And.right (And.right (by assumption))))) | exact Ne.symm (cne2 (And.left (And.right (And.right (And.right (by assumption)))))) | exact cne3 (And.left (And.right (And.right (And.right (by assumption))))) | exact Ne.symm (cne3 (And.left (And.right (And.right (And.right (by assumption)))))) | exact cne4 (And.left (And.right (And.right (And.right (by assumption))))) | exact Ne.symm (cne4 (And.left (And.right (And.right (And.right (by assumption)))))) | exact cne5 (And.left (And.right (And.right (And.right (by assumption))))) | exact Ne.symm (cne5 (And.left (And.right (And.right (And.right (by assumption)))))) | exact cne6 (And.left (And.right (And.right (And.right (by assumption))))) | exact Ne.symm (cne6 (And.left (And.right (And.right (And.right (by assumption)))))) | exact cne7 (And.left (And.right (And.right (And.right (by assumption))))) | exact Ne.symm (cne7 (And.left (And.right (And.right (And.right (by assumption)))))) | exact cne1 (And.left (And.right (And.right (And.right (And.right (by assumption)))))) | exact Ne.symm (cne1 (And.left (And.right (And.right (And.right (And.right (by assumption))))))) | exact cne2 (And.left (And.right (And.right (And.right (And.right (by assumption)))))) | exact Ne.symm (cne2 (And.left (And.right (And.right (And.right (And.right (by assumption))))))) | exact cne3 (And.left (And.right (And.right (And.right (And.right (by assumption)))))) | exact Ne.symm (cne3 (And.left (And.right (And.right (And.right (And.right (by assumption))))))) | exact cne4 (And.left (And.right (And.right (And.right (And.right (by assumption)))))) | exact Ne.symm (cne4 (And.left (And.right (And.right (And.right (And.right (by assumption))))))) | exact cne5 (And.left (And.right (And.right (And.right (And.right (by assumption)))))) | exact Ne.symm (cne5 (And.left (And.right (And.right (And.right (And.right (by assumption))))))) | exact cne6 (And.left (And.right (And.right (And.right (And.right (by assumption)))))) | exact Ne.symm (cne6 (And.left (And.right (And.right (And.right (And.right (by assumption))))))) | exact cne7 (And.left (And.right (And.right (And.right (And.right (by assumption)))))) | exact Ne.symm (cne7 (And.left (And.right (And.right (And.right (And.right (by assumption))))))) | exact cne1 (And.left (And.right (And.right (And.right (And.right (And.right (by assumption))))))) | exact Ne.symm (cne1 (And.left (And.right (And.right (And.right (And.right (And.right (by assumption)))))))) | exact cne2 (And.left (And.right (And.right (And.right (And.right (And.right (by assumption))))))) | exact Ne.symm (cne2 (And.left (And.right (And.right (And.right (And.right (And.right (by assumption)))))))) | exact cne3 (And.left (And.right (And.right (And.right (And.right (And.right (by assumption))))))) | exact Ne.symm (cne3 (And.left (And.right (And.right (And.right (And.right (And.right (by assumption)))))))) | exact cne4 (And.left (And.right (And.right (And.right (And.right (And.right (by assumption))))))) | exact Ne.symm (cne4 (And.left (And.right (And.right (And.right (And.right (And.right (by assumption)))))))) | exact cne5 (And.left (And.right (And.right (And.right (And.right (And.right (by assumption))))))) | exact Ne.symm (cne5 (And.left (And.right (And.right (And.right (And.right (And.right (by assumption)))))))) | exact cne6 (And.left (And.right (And.right (And.right (And.right (And.right (by assumption))))))) | exact Ne.symm (cne6 (And.left (And.right (And.right (And.right (And.right (And.right (by assumption)))))))) | exact cne7 (And.left (And.right (And.right (And.right (And.right (And.right (by assumption))))))) | exact Ne.symm (cne7 (And.left (And.right (And.right (And.right (And.right (And.right (by assumption)))))))) | exact cne1 (And.left (And.right (And.right (And.right (And.right (And.right (And.right (by assumption)))))))) | exact Ne.symm (cne1 (And.left (And.right (And.right (And.right (And.right (And.right (And.right (by assumption))))))))) | exact cne2 (And.left (And.right (And.right (And.right (And.right (And.right (And.right (by assumption)))))))) | exact Ne.symm (cne2 (And.left (And.right (And.right (And.right (And.right (And.right (And.right (by assumption))))))))) | exact cne3 (And.left (And.right (And.right (And.right (And.right (And.right (And.right (by assumption)))))))) | exact Ne.symm (cne3 (And.left (And.right (And.right (And.right (And.right (And.right (And.right (by assumption))))))))) | exact cne4 (And.left (And.right (And.right (And.right (And.right (And.right (And.right (by assumption)))))))) | exact Ne.symm (cne4 (And.left (And.right (And.right (And.right (And.right (And.right (And.right (by assumption))))))))) | exact cne5 (And.left (And.right (And.right (And.right (And.right (And.right (And.right (by assumption)))))))) | exact Ne.symm (cne5 (And.left (And.right (And.right (And.right (And.right (And.right (And.right (by assumption))))))))) | exact cne6 (And.left (And.right (And.right (And.right (And.right (And.right (And.right (by assumption)))))))) | exact Ne.symm (cne6 (And.left (And.right (And.right (And.right (And.right (And.right (And.right (by assumption))))))))) | exact cne7 (And.left (And.right (And.right (And.right (And.right (And.right (And.right (by assumption)))))))) | exact Ne.symm (cne7 (And.left (And.right (And.right (And.right (And.right (And.right (And.right (by assumption))))))))) | exact cne1 (And.left (And.right (And.right (And.right (And.right (And.right (And.right (And.right (by assumption))))))))) | exact Ne.symm (cne1 (And.left (And.right (And.right (And.right (And.right (And.right (And.right (And.right (by assumption)))))))))) | exact cne2 (And.left (And.right (And.right (And.right (And.right (And.right (And.right (And.right (by assumption))))))))) | exact Ne.symm (cne2 (And.left (And.right (And.right (And.right (And.right (And.right (And.right (And.right (by assumption)))))))))) | exact cne3 (And.left (And.right (And.right (And.right (And.right (And.right (And.right (And.right (by assumption))))))))) | exact Ne.symm (cne3 (And.left (And.right (And.right (And.right (And.right (And.right (And.right (And.right (by assumption)))))))))) | exact cne4 (And.left (And.right (And.right (And.right (And.right (And.right (And.right (And.right (by assumption))))))))) | exact Ne.symm (cne4 (And.left (And.right (And.right (And.right (And.right (And.right (And.right (And.right (by assumption)))))))))) | exact cne5 (And.left (And.right (And.right (And.right (And.right (And.right (And.right (And.right (by assumption))))))))) | exact Ne.symm (cne5 (And.left (And.right (And.right (And.right (And.right (And.right (And.right (And.right (by assumption)))))))))) | exact cne6 (And.left (And.right (And.right (And.right (And.right (And.right (And.right (And.right (by assumption))))))))) | exact Ne.symm (cne6 (And.left (And.right (And.right (And.right (And.right (And.right (And.right (And.right (by assumption)))))))))) | exact cne7 (And.left (And.right (And.right (And.right (And.right (And.right (And.right (And.right (by assumption))))))))) | exact Ne.symm (cne7 (And.left (And.right (And.right (And.right (And.right (And.right (And.right (And.right (by assumption)))))))))) | fail "ne") | fail "ne")
  all_goals try k_fold
  iterate 94 walk1
  rename News _ _ _ _ => N1
  rename Fr _ _ _ _ => F1
  rename IntsAre _ (_ ++ [3, 3]) => hDs
  rename List Int => script
  generalize hds : List.map (fun k' : Int => k'.fmod 96) (List.take 4 script) ++ [3, 3] = ds at hDs
  rename (¬ (63 : Int) < _) => hlen63
  rename (0 < _) => htk
  rename Shared => s1
  dsimp only
  have hS := start_of (n := ds.length) F1 N1 (by assumption) (by assumption) (by assumption) (by assumption) (by assumption) (by assumption) (by assumption) (by rw [← hds]; simp) hDs rfl rfl rfl rfl (by refine ⟨?_, ?_, ?_, ?_, ?_, ?_⟩ <;> with_reducible first | exact (And.left (by assumption)) | exact (And.left (And.right (by assumption))) | exact (And.left (And.right (And.right (by assumption)))) | exact (And.left (And.right (And.right (And.right (by assumption))))) | exact (And.left (And.right (And.right (And.right (And.right (by assumption)))))) | exact (And.left (And.right (And.right (And.right (And.right (And.right (by assumption))))))) | exact (And.left (And.right (And.right (And.right (And.right (And.right (And.right (by assumption)))))))) | exact (And.left (And.right (And.right (And.right (And.right (And.right (And.right (And.right (by assumption))))))))) | fail "lt")
  clear F1 N1 hDs
  obtain ⟨⟨hn2, hn6⟩, hdb⟩ := ds_facts hds
  obtain ⟨m0, nx0, lD, lA, lW, lN, lY, lP, dv, kd, o7, o6, o5, oY, oN, oC, oW, tc, tw, v7, v6, v5, F1, N1, hJ0, eY, eN, eC, eW, c7, c6, c5, hdv, hl1, hl2, hl3, hl4, hl5, hl6⟩ := hS
  rename World => w
  have hC := chn_of hl1 hl2 hl3 hl4 hl5 hl6
  have hA7 := Nat.lt_trans hl1 hl2
  have hW7 := Nat.lt_trans hA7 hl3
  have hN7 := Nat.lt_trans hW7 hl4
  have hY7 := Nat.lt_trans hN7 hl5
  have hP7 := Nat.lt_trans hY7 hl6
  refine stage (LJ ds lD lA lW lN lY lP (listOf dv kd) (cells7 s1.heap.objs.size o7 o6 o5 oY oN oC oW) ds.length) F1 htk ?_ ?_
  · k_with_none
    k_with "m1" => ((k_here; refine execs_cons_t (by first | exact Nat.succ_pos _ | assumption | (dsimp only; omega)) ?_))
    k_with "m2" => (first | (refine tnext_next ?_; intro tk9 htk9) | refine tnext_ret ?_ | refine tnext_brk ?_ | refine tnext_cont ?_)
    k_with "m19" => (first | refine postG_next ?_ | refine postG_cont ?_ | refine postG_ret ?_ | refine postG_brk ?_)
    k_with "m20" => ((k_here; (rename Fr _ _ _ _ => lF'); (with_unfolding_all refine' For_invVF lF' ?k1 ?k2 ?_; (case k1 => exact rfl); (case k2 => exact rfl); k_whole)))
    k_with "m21" => ((k_here; (rename Fr _ _ _ _ => F7); (rename News _ _ _ _ => N7); first | (with_unfolding_all refine range1_rows F7 N7 ?_; clear F7 N7; intro h7 tk7 t7 u7 v7 R7 F7 N7 K7; clear K7) | (with_unfolding_all refine range2_rows F7 N7 ?_; clear F7 N7; intro h7 tk7 t7 u7 v7 R7 F7 N7 K7; clear K7)))
    k_with "m22" => ((k_here; k_dflt (first | refine LCg.ListComp_U (F₀ := by assumption) (by with_unfolding_all rfl) (by decide) (by rfl) (by decide) (by rfl) ?_ | refine LCt.ListComp_T (F₀ := by assumption) (by with_unfolding_all rfl) (by decide) (by rfl) (by decide) (by rfl) ?_)))
    k_with "m23" => ((k_here; k_dflt (first | refine LCg.Assign_ListComp_U (F₀ := by assumption) rfl (by with_unfolding_all rfl) (by with_unfolding_all rfl) (by decide) (by rfl) (by decide) (by rfl) (by rfl) (by rfl) ?_)))
    k_with "m24" => ((k_here; k_dflt (refine Assign_C (by assumption) rfl (by with_unfolding_all rfl) (by with_unfolding_all rfl) (fun _ => by rfl) (fun _ => by rfl) (by rfl) (by decide) (by rfl) (by rfl) (by rfl) ?_)))
    have hJ1 := hJ0
    obtain ⟨as0, ws0, ns0, ys0, ps0, ka0, kw0, kn0, ky0, kp0, rfl, b1, b2, b3, b4, b5, e1, e2, e3, e4⟩ := hJ0
    iterate 8 walk1
    rename Fr _ _ _ _ => F1
    rename News _ _ _ _ => N1
    rename IsRange _ _ _ _ _ _ _ _ => R1
    refine rangeInv (LJ ds lD lA lW lN lY lP (listOf dv kd) (cells7 s1.heap.objs.size o7 o6 o5 oY oN oC oW)) rfl R1 (range_up _ hn6).1 (range_up _ hn6).2 F1 N1 hJ1 ?_ ?_
    · clear hJ1 R1 F1 N1 b1 b2 b3 b4 b5 e1 e2 e3 e4
      intro i ti m₁ nx h3 tk3 I3 oI3 hi hJ hoff F3 N3
      obtain ⟨as, ws, ns, ys, ps, ka, kw, kn, ky, kp, rfl, b1, b2, b3, b4, b5, e1, e2, e3, e4⟩ := hJ
      rw [show (0 : Int) + (i : Int) * 1 = (i : Int) from a_one i] at F3
      have F3a := fr_know (x := Str.ofString "draws") F3 (by rw [if_neg (by decide)]; exact e1)
      have F3b := fr_know (x := Str.ofString "aboves") F3a (by rw [if_neg (by decide), if_neg (by decide)]; exact e2)
      have F3c := fr_know (x := Str.ofString "whose") F3b (by rw [if_neg (by decide), if_neg (by decide), if_neg (by decide)]; exact e3)
      have F3d := fr_know (x := Str.ofString "plain") F3c (by rw [if_neg (by decide), if_neg (by decide), if_neg (by decide), if_neg (by decide)]; exact e4)
      clear F3 F3a F3b F3c
      have hoffN := offN_of hoff
      k_with "ne" => (refine neN ?_; (try dsimp only); first | (with_reducible first | assumption | (refine Ne.symm ?_; assumption)) | (with_reducible first | exact cd1 _ | exact (cd1 _).symm | exact cd2 _ | exact (cd2 _).symm | exact cd3 _ | exact (cd3 _).symm | exact cd4 _ | exact (cd4 _).symm | exact cd5 _ | exact (cd5 _).symm | exact cd6 _ | exact (cd6 _).symm) | (with_reducible first | exact cne7 hl1 | exact (cne7 hl1).symm | exact cne6 hl1 | exact (cne6 hl1).symm | exact cne5 hl1 | exact (cne5 hl1).symm | exact cne4 hl1 | exact (cne4 hl1).symm | exact cne3 hl1 | exact (cne3 hl1).symm | exact cne2 hl1 | exact (cne2 hl1).symm | exact cne1 hl1 | exact (cne1 hl1).symm | exact cne7 hA7 | exact (cne7 hA7).symm | exact cne6 hA7 | exact (cne6 hA7).symm | exact cne5 hA7 | exact (cne5 hA7).symm | exact cne4 hA7 | exact (cne4 hA7).symm | exact cne3 hA7 | exact (cne3 hA7).symm | exact cne2 hA7 | exact (cne2 hA7).symm | exact cne1 hA7 | exact (cne1 hA7).symm | exact cne7 hW7 | exact (cne7 hW7).symm | exact cne6 hW7 | exact (cne6 hW7).symm | exact cne5 hW7 | exact (cne5 hW7).symm | exact cne4 hW7 | exact (cne4 hW7).symm | exact cne3 hW7 | exact (cne3 hW7).symm | exact cne2 hW7 | exact (cne2 hW7).symm | exact cne1 hW7 | exact (cne1 hW7).symm | exact cne7 hN7 | exact (cne7 hN7).symm | exact cne6 hN7 | exact (cne6 hN7).symm | exact cne5 hN7 | exact (cne5 hN7).symm | exact cne4 hN7 | exact (cne4 hN7).symm | exact cne3 hN7 | exact (cne3 hN7).symm | exact cne2 hN7 | exact (cne2 hN7).symm | exact cne1 hN7 | exact (cne1 hN7).symm | exact cne7 hY7 | exact (cne7 hY7).symm | exact cne6 hY7 | exact (cne6 hY7).symm | exact cne5 hY7 | exact (cne5 hY7).symm | exact cne4 hY7 | exact (cne4 hY7).symm | exact cne3 hY7 | exact (cne3 hY7).symm | exact cne2 hY7 | exact (cne2 hY7).symm | exact cne1 hY7 | exact (cne1 hY7).symm | exact cne7 hP7 | exact (cne7 hP7).symm | exact cne6 hP7 | exact (cne6 hP7).symm | exact cne5 hP7 | exact (cne5 hP7).symm | exact cne4 hP7 | exact (cne4 hP7).symm | exact cne3 hP7 | exact (cne3 hP7).symm | exact cne2 hP7 | exact (cne2 hP7).symm | exact cne1 hP7 | exact (cne1 hP7).symm) | exact hoffN.1 | exact (hoffN.1).symm | exact hoffN.2.1 | exact (hoffN.2.1).symm | exact hoffN.2.2.1 | exact (hoffN.2.2.1).symm | exact hoffN.2.2.2.1 | exact (hoffN.2.2.2.1).symm | exact hoffN.2.2.2.2.1 | exact (hoffN.2.2.2.2.1).symm | exact hoffN.2.2.2.2.2.1 | exact (hoffN.2.2.2.2.2.1).symm | exact hoffN.2.2.2.2.2.2.1 | exact (hoffN.2.2.2.2.2.2.1).symm | exact hoffN.2.2.2.2.2.2.2.1 | exact (hoffN.2.2.2.2.2.2.2.1).symm | exact hoffN.2.2.2.2.2.2.2.2.1 | exact (hoffN.2.2.2.2.2.2.2.2.1).symm | exact hoffN.2.2.2.2.2.2.2.2.2.1 | exact (hoffN.2.2.2.2.2.2.2.2.2.1).symm | exact hoffN.2.2.2.2.2.2.2.2.2.2.1 | exact (hoffN.2.2.2.2.2.2.2.2.2.2.1).symm | exact hoffN.2.2.2.2.2.2.2.2.2.2.2.1 | exact (hoffN.2.2.2.2.2.2.2.2.2.2.2.1).symm | exact hoffN.2.2.2.2.2.2.2.2.2.2.2.2.1 | exact (hoffN.2.2.2.2.2.2.2.2.2.2.2.2.1).symm | exact Nat.ne_of_lt hC.1.1 | exact Nat.ne_of_gt hC.1.1 | exact Nat.ne_of_lt hC.1.2.1 | exact Nat.ne_of_gt hC.1.2.1 | exact Nat.ne_of_lt hC.1.2.2.1 | exact Nat.ne_of_gt hC.1.2.2.1 | exact Nat.ne_of_lt hC.1.2.2.2.1 | exact Nat.ne_of_gt hC.1.2.2.2.1 | exact Nat.ne_of_lt hC.1.2.2.2.2.1 | exact Nat.ne_of_gt hC.1.2.2.2.2.1 | exact Nat.ne_of_lt hC.2.1.1 | exact Nat.ne_of_gt hC.2.1.1 | exact Nat.ne_of_lt hC.2.1.2.1 | exact Nat.ne_of_gt hC.2.1.2.1 | exact Nat.ne_of_lt hC.2.1.2.2.1 | exact Nat.ne_of_gt hC.2.1.2.2.1 | exact Nat.ne_of_lt hC.2.1.2.2.2.1 | exact Nat.ne_of_gt hC.2.1.2.2.2.1 | exact Nat.ne_of_lt hC.2.2.1.1 | exact Nat.ne_of_gt hC.2.2.1.1 | exact Nat.ne_of_lt hC.2.2.1.2.1 | exact Nat.ne_of_gt hC.2.2.1.2.1 | exact Nat.ne_of_lt hC.2.2.1.2.2.1 | exact Nat.ne_of_gt hC.2.2.1.2.2.1 | exact Nat.ne_of_lt hC.2.2.2.1.1 | exact Nat.ne_of_gt hC.2.2.2.1.1 | exact Nat.ne_of_lt hC.2.2.2.1.2.1 | exact Nat.ne_of_gt hC.2.2.2.1.2.1 | exact Nat.ne_of_lt hC.2.2.2.2.1.1 | exact Nat.ne_of_gt hC.2.2.2.2.1.1 | (with_reducible first | exact Nat.ne_of_lt (by assumption) | exact Nat.ne_of_gt (by assumption) | fail "ne") | (with_reducible first | exact Nat.ne_of_gt (And.left (by assumption)) | exact Nat.ne_of_lt (And.left (by assumption)) | exact Nat.ne_of_gt (And.left (And.right (by assumption))) | exact Nat.ne_of_lt (And.left (And.right (by assumption))) | exact Nat.ne_of_gt (And.left (And.right (And.right (by assumption)))) | exact Nat.ne_of_lt (And.left (And.right (And.right (by assumption)))) | exact Nat.ne_of_gt (And.left (And.right (And.right (And.right (by assumption))))) | exact Nat.ne_of_lt (And.left (And.right (And.right (And.right (by assumption))))) | exact Nat.ne_of_gt (And.left (And.right (And.right (And.right (And.right (by assumption)))))) | exact Nat.ne_of_lt (And.left (And.right (And.right (And.right (And.right (by assumption)))))) | exact Nat.ne_of_gt (And.left (And.right (And.right (And.right (And.right (And.right (by assumption))))))) | exact Nat.ne_of_lt (And.left (And.right (And.right (And.right (And.right (And.right (by assumption))))))) | exact Nat.ne_of_gt (And.left (And.right (And.right (And.right (And.right (And.right (And.right (by assumption)))))))) | exact Nat.ne_of_lt (And.left (And.right (And.right (And.right (And.right (And.right (And.right (by assumption)))))))) | exact Nat.ne_of_gt (And.left (And.right (And.right (And.right (And.right (And.right (And.right (And.right (by assumption))))))))) | exact Nat.ne_of_lt (And.left (And.right (And.right (And.right (And.right (And.right (And.right (And.right (by assumption))))))))) | exact Nat.ne_of_gt (And.left (And.right (And.right (And.right (And.right (And.right (And.right (And.right (And.right (by assumption)))))))))) | exact Nat.ne_of_lt (And.left (And.right (And.right (And.right (And.right (And.right (And.right (And.right (And.right (by assumption)))))))))) | exact Nat.ne_of_gt (And.left (And.right (And.right (And.right (And.right (And.right (And.right (And.right (And.right (And.right (by assumption))))))))))) | exact Nat.ne_of_lt (And.left (And.right (And.right (And.right (And.right (And.right (And.right (And.right (And.right (And.right (by assumption))))))))))) | exact Nat.ne_of_gt (And.left (And.right (And.right (And.right (And.right (And.right (And.right (And.right (And.right (And.right (And.right (by assumption)))))))))))) | exact Nat.ne_of_lt (And.left (And.right (And.right (And.right (And.right (And.right (And.right (And.right (And.right (And.right (And.right (by assumption)))))))))))) | exact Nat.ne_of_gt (And.left (And.right (And.right (And.right (And.right (And.right (And.right (And.right (And.right (And.right (And.right (And.right (by assumption))))))))))))) | exact Nat.ne_of_lt (And.left (And.right (And.right (And.right (And.right (And.right (And.right (And.right (And.right (And.right (And.right (And.right (by assumption))))))))))))) | exact Nat.ne_of_gt (And.left (And.right (And.right (And.right (And.right (And.right (And.right (And.right (And.right (And.right (And.right (And.right (And.right (by assumption)))))))))))))) | exact Nat.ne_of_lt (And.left (And.right (And.right (And.right (And.right (And.right (And.right (And.right (And.right (And.right (And.right (And.right (And.right (by assumption)))))))))))))) | exact Nat.ne_of_gt (And.left (And.right (And.right (And.right (And.right (And.right (And.right (And.right (And.right (And.right (And.right (And.right (And.right (And.right (by assumption))))))))))))))) | exact Nat.ne_of_lt (And.left (And.right (And.right (And.right (And.right (And.right (And.right (And.right (And.right (And.right (And.right (And.right (And.right (And.right (by assumption))))))))))))))) | exact cne1 (And.left (by assumption)) | exact Ne.symm (cne1 (And.left (by assumption))) | exact cne2 (And.left (by assumption)) | exact Ne.symm (cne2 (And.left (by assumption))) | exact cne3 (And.left (by assumption)) | exact Ne.symm (cne3 (And.left (by assumption))) | exact cne4 (And.left (by assumption)) | exact Ne.symm (cne4 (And.left (by assumption))) | exact cne5 (And.left (by assumption)) | exact Ne.symm (cne5 (And.left (by assumption))) | exact cne6 (And.left (by assumption)) | exact Ne.symm (cne6 (And.left (by assumption))) | exact cne7 (And.left (by assumption)) | exact Ne.symm (cne7 (And.left (by assumption))) | exact cne1 (And.left (And.right (by assumption))) | exact Ne.symm (cne1 (And.left (And.right (by assumption)))) | exact cne2 (And.left (And.right (by assumption))) | exact Ne.symm (cne2 (And.left (And.right (by assumption)))) | exact cne3 (And.left (And.right (by assumption))) | exact Ne.symm (cne3 (And.left (And.right (by assumption)))) | exact cne4 (And.left (And.right (by assumption))) | exact Ne.symm (cne4 (And.left (And.right (by assumption)))) | exact cne5 (And.left (And.right (by assumption))) | exact Ne.symm (cne5 (And.left (And.right (by assumption)))) | exact cne6 (And.left (And.right (by assumption))) | exact Ne.symm (cne6 (And.left (And.right (by assumption)))) | exact cne7 (And.left (And.right (by assumption))) | exact Ne.symm (cne7 (And.left (And.right (by assumption)))) | exact cne1 (And.left (And.right (And.right (by assumption)))) | exact Ne.symm (cne1 (And.left (And.right (And.right (by assumption))))) | exact cne2 (And.left (And.right (And.right (by assumption)))) | exact Ne.symm (cne2 (And.left (And.right (And.right (by assumption))))) | exact cne3 (And.left (And.right (And.right (by assumption)))) | exact Ne.symm (cne3 (And.left (And.right (And.right (by assumption))))) | exact cne4 (And.left (And.right (And.right (by assumption)))) | exact Ne.symm (cne4 (And.left (And.right (And.right (by assumption))))) | exact cne5 (And.left (And.right (And.right (by assumption)))) | exact Ne.symm (cne5 (And.left (And.right (And.right (by assumption))))) | exact cne6 (And.left (And.right (And.right (by assumption)))) | exact Ne.symm (cne6 (And.left (And.right (And.right (by assumption))))) | exact cne7 (And.left (And.right (And.right (by assumption)))) | exact Ne.symm (cne7 (And.left (And.right (And.right (by assumption))))) | exact cne1 (And.left (And.right (And.right (And.right (by assumption))))) | exact Ne.symm (cne1 (And.left (And.right (And.right (And.right (by assumption)))))) | exact cne2 (And.left (And.right (And.right (And.right (by assumption))))) | exact Ne.symm (cne2 (And.left (And.right (And.right (And.right (by assumption)))))) | exact cne3 (And.left (And.right (And.right (And.right (by assumption))))) | exact Ne.symm (cne3 (And.left (And.right (And.right (And.right (by assumption)))))) | exact cne4 (And.left (And.right (And.right (And.right (by assumption))))) | exact Ne.symm (cne4 (And.left (And.right (And.right (And.right (by assumption)))))) | exact cne5 (And.left (And.right (And.right (And.right (by assumption))))) | exact Ne.symm (cne5 (And.left (And.right (And.right (And.right (by assumption)))))) | exact cne6 (And.left (And.right (And.right (And.right (by assumption))))) | exact Ne.symm (cne6 (And.left (And.right (And.right (And.right (by assumption)))))) | exact cne7 (And.left (And.right (And.right (And.right (by assumption))))) | exact Ne.symm (cne7 (And.left (And.right (And.right (And.right (by assumption)))))) | exact cne1 (And.left (And.right (And.right (And.right (And.right (by assumption)))))) | exact Ne.symm (cne1 (And.left (And.right (And.right (And.right (And.right (by assumption))))))) | exact cne2 (And.left (And.right (And.right (And.right (And.right (by assumption)))))) | exact Ne.symm (cne2 (And.left (And.right (And.right (And.right (And.right (by assumption))))))) | exact cne3 (And.left (And.right (And.right (And.right (And.right (by assumption)))))) | exact Ne.symm (cne3 (And.left (And.right (And.right (And.right (And.right (by assumption))))))) | exact cne4 (And.left (And.right (And.right (And.right (And.right (by assumption)))))) | exact Ne.symm (cne4 (And.left (And.right (And.right (And.right (And.right (by assumption))))))) | exact cne5 (And.left (And.right (And.right (And.right (And.right (by assumption)))))) | exact Ne.symm (cne5 (And.left (And.right (And.right (And.right (And.right (by assumption))))))) | exact cne6 (And.left (And.right (And.right (And.right (And.right (by assumption)))))) | exact Ne.symm (cne6 (And.left (And.right (And.right (And.right (And.right (by assumption))))))) | exact cne7 (And.left (And.right (And.right (And.right (And.right (by assumption)))))) | exact Ne.symm (cne7 (And.left (And.right (And.right (And.right (And.right (by assumption))))))) | exact cne1 (And.left (And.right (And.right (And.right (And.right (And.right (by assumption))))))) | exact Ne.symm (cne1 (And.left (And.right (And.right (And.right (And.right (And.right (by assumption)))))))) | exact cne2 (And.left (And.right (And.right (And.right (And.right (And.right (by assumption))))))) | exact Ne.symm (cne2 (And.left (And.right (And.right (And.right (And.right (And.right (by assumption)))))))) | exact cne3 (And.left (And.right (And.right (And.right (And.right (And.right (by assumption))))))) | exact Ne.symm (cne3 (And.left (And.right (And.right (And.right (And.right (And.right (by assumption)))))))) | exact cne4 (And.left (And.right (And.right (And.right (And.right (And.right (by assumption))))))) | exact Ne.symm (cne4 (And.left (And.right (And.right (And.right (And.right (And.right (by assumption)))))))) | exact cne5 (And.left (And.right (And.right (And.right (And.right (And.right (by assumption))))))) | exact Ne.symm (cne5 (And.left (And.right (And.right (And.right (And.right (And.right (by assumption)))))))) | exact cne6 (And.left (And.right (And.right (And.right (And.right (And.right (by assumption))))))) | exact Ne.symm (cne6 (And.left (And.right (And.right (And.right (And.right (And.right (by assumption)))))))) | exact cne7 (And.left (And.right (And.right (And.right (And.right (And.right (by assumption))))))) | exact Ne.symm (cne7 (And.left (And.right (And.right (And.right (And.right (And.right (by assumption)))))))) | exact cne1 (And.left (And.right (And.right (And.right (And.right (And.right (And.right (by assumption)))))))) | exact Ne.symm (cne1 (And.left (And.right (And.right (And.right (And.right (And.right (And.right (by assumption))))))))) | exact cne2 (And.left (And.right (And.right (And.right (And.right (And.right (And.right (by assumption)))))))) | exact Ne.symm (cne2 (And.left (And.right (And.right (And.right (And.right (And.right (And.right (by assumption))))))))) | exact cne3 (And.left (And.right (And.right (And.right (And.right (And.right (And.right (by assumption)))))))) | exact Ne.symm (cne3 (And.left (And.right (And.right (And.right (And.right (And.right (And.right (by assumption))))))))) | exact cne4 (And.left (And.right (And.right (And.right (And.right (And.right (And.right (by assumption)))))))) | exact Ne.symm (cne4 (And.left (And.right (And.right (And.right (And.right (And.right (And.right (by assumption))))))))) | exact cne5 (And.left (And.right (And.right (And.right (And.right (And.right (And.right (by assumption)))))))) | exact Ne.symm (cne5 (And.left (And.right (And.right (And.right (And.right (And.right (And.right (by assumption))))))))) | exact cne6 (And.left (And.right (And.right (And.right (And.right (And.right (And.right (by assumption)))))))) | exact Ne.symm (cne6 (And.left (And.right (And.right (And.right (And.right (And.right (And.right (by assumption))))))))) | exact cne7 (And.left (And.right (And.right (And.right (And.right (And.right (And.right (by assumption)))))))) | exact Ne.symm (cne7 (And.left (And.right (And.right (And.right (And.right (And.right (And.right (by assumption))))))))) | exact cne1 (And.left (And.right (And.right (And.right (And.right (And.right (And.right (And.right (by assumption))))))))) | exact Ne.symm (cne1 (And.left (And.right (And.right (And.right (And.right (And.right (And.right (And.right (by assumption)))))))))) | exact cne2 (And.left (And.right (And.right (And.right (And.right (And.right (And.right (And.right (by assumption))))))))) | exact Ne.symm (cne2 (And.left (And.right (And.right (And.right (And.right (And.right (And.right (And.right (by assumption)))))))))) | exact cne3 (And.left (And.right (And.right (And.right (And.right (And.right (And.right (And.right (by assumption))))))))) | exact Ne.symm (cne3 (And.left (And.right (And.right (And.right (And.right (And.right (And.right (And.right (by assumption)))))))))) | exact cne4 (And.left (And.right (And.right (And.right (And.right (And.right (And.right (And.right (by assumption))))))))) | exact Ne.symm (cne4 (And.left (And.right (And.right (And.right (And.right (And.right (And.right (And.right (by assumption)))))))))) | exact cne5 (And.left (And.right (And.right (And.right (And.right (And.right (And.right (And.right (by assumption))))))))) | exact Ne.symm (cne5 (And.left (And.right (And.right (And.right (And.right (And.right (And.right (And.right (by assumption)))))))))) | exact cne6 (And.left (And.right (And.right (And.right (And.right (And.right (And.right (And.right (by assumption))))))))) | exact Ne.symm (cne6 (And.left (And.right (And.right (And.right (And.right (And.right (And.right (And.right (by assumption)))))))))) | exact cne7 (And.left (And.right (And.right (And.right (And.right (And.right (And.right (And.right (by assumption))))))))) | exact Ne.symm (cne7 (And.left (And.right (And.right (And.right (And.right (And.right (And.right (And.right (by assumption)))))))))) | exact cne1 (And.left (And.right (And.right (And.right (And.right (And.right (And.right (And.right (And.right (by assumption)))))))))) | exact Ne.symm (cne1 (And.left (And.right (And.right (And.right (And.right (And.right (And.right (And.right (And.right (by assumption))))))))))) | exact cne2 (And.left (And.right (And.right (And.right (And.right (And.right (And.right (And.right (And.right (by assumption)))))))))) | exact Ne.symm (cne2 (And.left (And.right (And.right (And.right (And.right (And.right (And.right (And.right (And.right (by assumption))))))))))) | exact cne3 (And.left (And.right (And.right (And.right (And.right (And.right (And.right (And.right (And.right (by assumption)))))))))) | exact Ne.symm (cne3 (And.left (And.right (And.right (And.right (And.right (And.right (And.right (And.right (And.right (by assumption))))))))))) | exact cne4 (And.left (And.right (And.right (And.right (And.right (And.right (And.right (And.right (And.right (by assumption)))))))))) | exact Ne.symm (cne4 (And.left (And.right (And.right (And.right (And.right (And.right (And.right (And.right (And.right (by assumption))))))))))) | exact cne5 (And.left (And.right (And.right (And.right (And.right (And.right (And.right (And.right (And.right (by assumption)))))))))) | exact Ne.symm (cne5 (And.left (And.right (And.right (And.right (And.right (And.right (And.right (And.right (And.right (by assumption))))))))))) | exact cne6 (And.left (And.right (And.right (And.right (And.right (And.right (And.right (And.right (And.right (by assumption)))))))))) | exact Ne.symm (cne6 (And.left (And.right (And.right (And.right (And.right (And.right (And.right (And.right (And.right (by assumption))))))))))) | exact cne7 (And.left (And.right (And.right (And.right (And.right (And.right (And.right (And.right (And.right (by assumption)))))))))) | exact Ne.symm (cne7 (And.left (And.right (And.right (And.right (And.right (And.right (And.right (And.right (And.right (by assumption))))))))))) | exact cne1 (And.left (And.right (And.right (And.right (And.right (And.right (And.right (And.right (And.right (And.right (by assumption))))))))))) | exact Ne.symm (cne1 (And.left (And.right (And.right (And.right (And.right (And.right (And.right (And.right (And.right (And.right (by assumption)))))))))))) | exact cne2 (And.left (And.right (And.right (And.right (And.right (And.right (And.right (And.right (And.right (And.right (by assumption))))))))))) | exact Ne.symm (cne2 (And.left (And.right (And.right (And.right (And.right (And.right (And.right (And.right (And.right (And.right (by assumption)))))))))))) | exact cne3 (And.left (And.right (And.right (And.right (And.right (And.right (And.right (And.right (And.right (And.right (by assumption))))))))))) | exact Ne.symm (cne3 (And.left (And.right (And.right (And.right (And.right (And.right (And.right (And.right (And.right (And.right (by assumption)))))))))))) | exact cne4 (And.left (And.right (And.right (And.right (And.right (And.right (And.right (And.right (And.right (And.right (by assumption))))))))))) | exact Ne.symm (cne4 (And.left (And.right (And.right (And.right (And.right (And.right (And.right (And.right (And.right (And.right (by assumption)))))))))))) | exact cne5 (And.left (And.right (And.right (And.right (And.right (And.right (And.right (And.right (And.right (And.right (by assumption))))))))))) | exact Ne.symm (cne5 (And.left (And.right (And.right (And.right (And.right (And.right (And.right (And.right (And.right (And.right (by assumption)))))))))))) | exact cne6 (And.left (And.right (And.right (And.right (And.right (And.right (And.right (And.right (And.right (And.right (by assumption))))))))))) | exact Ne.symm (cne6 (And.left (And.right (And.right (And.right (And.right (And.right (And.right (And.right (And.right (And.right (by assumption)))))))))))) | exact cne7 (And.left (And.right (And.right (And.right (And.right (And.right (And.right (And.right (And.right (And.right (by assumption))))))))))) | exact Ne.symm (cne7 (And.left (And.right (And.right (And.right (And.right (And.right (And.right (And.right (And.right (And.right (by assumption)))))))))))) | fail "ne") | fail "ne")
      have hoff2 := hoff
      clear hoff
      have hi6 : i < 6 := by omega
      have hd0 := (hdb i).1
      have hd1 := (hdb i).2
      have la1 : Sz as i := (ints_size b1).trans (abL_len ds i)
      have lw1 : Sz ws i := (ints_size b2).trans (whL_len ds i)
      have ln1 : Sz ns i := (ints_size b3).trans (nuL_len ds i)
      have ly1 : Sz ys (i + 1) := (strs_size b4).trans (wy_len ds i)
      have lp1 : Sz ps (i + 1) := (strs_size b5).trans (pl_len ds i)
      obtain ⟨td, hdk⟩ : ∃ t, dv.toList[(i : Int).toNat]? = some (.int (ds.getD i 0) t) := ints_at hdv (k := i) 0 hi
      have haB : 0 ≤ (ds.getD i 0).fmod ((i : Int) + 1) ∧ (ds.getD i 0).fmod ((i : Int) + 1) ≤ i := abv_bd ds i
      have hwB : 0 ≤ ((ds.getD i 0).fdiv ((i : Int) + 1)).fmod 3 ∧ ((ds.getD i 0).fdiv ((i : Int) + 1)).fmod 3 < 3 := whs_bd ds i
      have hsB : 0 ≤ ((ds.getD i 0).fdiv (3 * (i : Int) + 3)).fmod 4 ∧ ((ds.getD i 0).fdiv (3 * (i : Int) + 3)).fmod 4 < 4 := sgn_bd ds i
      obtain ⟨ty, hyk⟩ : ∃ t, ys.toList[((ds.getD i 0).fmod ((i : Int) + 1)).toNat]? = some (.str ((wyL ds i).getD (abvS ds i).toNat (Str.ofString "/")) t) := strs_at b4 (k := (abvS ds i).toNat) (Str.ofString "/") (by rw [wy_len]; have := abv_bd ds i; omega)
      obtain ⟨tp, hpk⟩ : ∃ t, ps.toList[((ds.getD i 0).fmod ((i : Int) + 1)).toNat]? = some (.str ((plL ds i).getD (abvS ds i).toNat (Str.ofString "")) t) := strs_at b5 (k := (abvS ds i).toNat) (Str.ofString "") (by rw [pl_len]; have := abv_bd ds i; omega)
      k_with "my append" => (k_dflt (refine' append_K ?k1 ?k2 ?k3 ?_ ?z; (case k1 => k_asm); (case k2 => k_asm); (case k3 => k_upd); (case z => (rw [sizeLine_eq]; first | exact sz_le la1 hi6 | exact sz_le lw1 hi6 | exact sz_le ln1 hi6 | exact sz_le2 ly1 hi6 | exact sz_le2 lp1 hi6 | omega | (dsimp only; omega))); k_whole); intro h8 F8 N8; (try k_sweep))
      k_with "my sub" => (rename News _ _ _ _ => N2; first
        | ((with_reducible show wpAny _ _ (subscriptTail _ _ (Value.ref lD) _) _ _ _); refine item_news (l := lD) N2 (by k_mem) (by first | (with_reducible first | exact a_nn _ | exact a_nn0 _ | exact a_nn1 _ | exact a_nn41 _ | exact a_nn43 _) | omega) (by first | (with_reducible first | exact a_lt (by assumption) hn6 | exact a_lt0 (by assumption) hn6 | exact a_lt1 (by assumption) hn6 | exact a_lt41 (by assumption) hn6 | exact a_lt43 (by assumption) hn6 | fail "no") | omega) hdk ?_)
        | ((with_reducible show wpAny _ _ (subscriptTail _ _ (Value.ref lW) _) _ _ _); refine item_news (l := lW) N2 (by k_mem) (by first | (with_reducible first | exact a_nn _ | exact a_nn0 _ | exact a_nn1 _ | exact a_nn41 _ | exact a_nn43 _) | omega) (by first | (with_reducible first | exact a_lt (by assumption) hn6 | exact a_lt0 (by assumption) hn6 | exact a_lt1 (by assumption) hn6 | exact a_lt41 (by assumption) hn6 | exact a_lt43 (by assumption) hn6 | fail "no") | omega) (push_atI lw1) ?_)
        | ((with_reducible show wpAny _ _ (subscriptTail _ _ (Value.ref lA) _) _ _ _); refine item_news (l := lA) N2 (by k_mem) (by first | (with_reducible first | exact a_nn _ | exact a_nn0 _ | exact a_nn1 _ | exact a_nn41 _ | exact a_nn43 _) | omega) (by first | (with_reducible first | exact a_lt (by assumption) hn6 | exact a_lt0 (by assumption) hn6 | exact a_lt1 (by assumption) hn6 | exact a_lt41 (by assumption) hn6 | exact a_lt43 (by assumption) hn6 | fail "no") | omega) (push_atI la1) ?_)
        | ((with_reducible show wpAny _ _ (subscriptTail _ _ (Value.ref lY) _) _ _ _); refine item_news (l := lY) N2 (by k_mem) (by first | (with_reducible first | exact a_nn _ | exact a_nn0 _ | exact a_nn1 _ | exact a_nn41 _ | exact a_nn43 _) | omega) (by first | (with_reducible first | exact a_lt (by assumption) hn6 | exact a_lt0 (by assumption) hn6 | exact a_lt1 (by assumption) hn6 | exact a_lt41 (by assumption) hn6 | exact a_lt43 (by assumption) hn6 | fail "no") | omega) hyk ?_)
        | ((with_reducible show wpAny _ _ (subscriptTail _ _ (Value.ref lP) _) _ _ _); refine item_news (l := lP) N2 (by k_mem) (by first | (with_reducible first | exact a_nn _ | exact a_nn0 _ | exact a_nn1 _ | exact a_nn41 _ | exact a_nn43 _) | omega) (by first | (with_reducible first | exact a_lt (by assumption) hn6 | exact a_lt0 (by assumption) hn6 | exact a_lt1 (by assumption) hn6 | exact a_lt41 (by assumption) hn6 | exact a_lt43 (by assumption) hn6 | fail "no") | omega) hpk ?_)
        | (refine item_menu N2 (by omega) (by omega) ?_; intro l8))
      have hwl := wy_bd ds i ((wyL ds i).getD (abvS ds i).toNat (Str.ofString "/")) (by
        rw [List.getD_eq_getElem?_getD, List.getElem?_eq_getElem (by rw [wy_len]; have := abv_bd ds i; omega)]; exact List.getElem_mem _)
      have hns := nam_starts ds i hi6
      have hpl : ((plL ds i).getD (abvS ds i).toNat (Str.ofString "")).length ≤ 18 := by
        have := pl_bd ds i ((plL ds i).getD (abvS ds i).toNat (Str.ofString "")) (by
          rw [List.getD_eq_getElem?_getD, List.getElem?_eq_getElem (by rw [pl_len]; have := abv_bd ds i; omega)]; exact List.getElem_mem _)
        omega
      have hnl : (Txt.item (Str.ofString "&<>\"") (((ds.getD i 0).fdiv (3 * (i : Int) + 3)).fmod 4) ++ Str.ofString (toString (i : Int))).length ≤ 2 := by rw [nam_raw hi6, nam_len]; omega
      have hsl : (Str.ofString "/").length = 1 := by decide
      have hx20 : ((wyL ds i).getD (abvS ds i).toNat (Str.ofString "/")).length ≤ 20 := by omega
      have hx00 : (((wyL ds i).getD (abvS ds i).toNat (Str.ofString "/")).length : Int) ≠ 0 := by omega
      k_with "my call" => (rw [nam_raw hi6]; refine' claim_use (join_spec _ _ _ _ ((wyL ds i).getD (abvS ds i).toNat (Str.ofString "/")) (namS ds i) _ _ hx20 hx00 (by rw [nam_len]; omega) hns) ?k1 ?k2 ?k3 ?k4 ?k5 ?kK ?kn ?kd ?ku ?kt ?_; (case k1 => k_asm); (case k2 => k_asm); (case k3 => k_asm); (case k4 => k_asm); (case k5 => k_asm); (case kK => first | exact rfl | assumption); (case kn => exact fun _ h9 => nomatch h9); (case kd => ktr_room); (case ku => ktr_units); (case kt => exact Nat.zero_le _); intro r9 h9 tk9 R9 F9 N9; obtain ⟨t9, e9⟩ := R9; subst e9; (try dsimp only); (try k_fold))
      k_steps
      rename News _ _ _ _ => N9
      refine ⟨_, _, _, _, rfl, by assumption, news_sub N9 (fun p hp => .tail _ hp), offN_to hoffN, _, _, _, _, _, _, _, _, _, _, rfl, ints_push b1 (abL_more ds i), ints_push b2 (whL_more ds i), ints_push b3 (nuL_more ds i), strs_push b4 rfl, strs_push b5 ?_, rfl, rfl, rfl, rfl⟩
      rw [nam_raw hi6]
      rfl
    · clear hJ1 R1 F1 N1 b1 b2 b3 b4 b5 e1 e2 e3 e4
      intro m₁ nx h3 tk3 hJ F3 N3
      exact ⟨_, _, _, _, rfl, F3, N3, hJ⟩
  · clear F1 N1 hJ0 htk
    intro h' tk' m' nx htk F1 N1 hJ0
    k_with_none
    k_with "m1" => ((k_here; refine execs_cons_t (by first | exact Nat.succ_pos _ | assumption | (dsimp only; omega)) ?_))
    k_with "m2" => (first | (refine tnext_next ?_; intro tk9 htk9) | refine tnext_ret ?_ | refine tnext_brk ?_ | refine tnext_cont ?_)
    k_with "m19" => (first | refine postG_next ?_ | refine postG_cont ?_ | refine postG_ret ?_ | refine postG_brk ?_)
    k_with "m20" => ((k_here; (rename Fr _ _ _ _ => lF'); (with_unfolding_all refine' For_invVF lF' ?k1 ?k2 ?_; (case k1 => exact rfl); (case k2 => exact rfl); k_whole)))
    k_with "m21" => ((k_here; (rename Fr _ _ _ _ => F7); (rename News _ _ _ _ => N7); first | (with_unfolding_all refine range1_rows F7 N7 ?_; clear F7 N7; intro h7 tk7 t7 u7 v7 R7 F7 N7 K7; clear K7) | (with_unfolding_all refine range2_rows F7 N7 ?_; clear F7 N7; intro h7 tk7 t7 u7 v7 R7 F7 N7 K7; clear K7)))
    k_with "m22" => ((k_here; k_dflt (first | refine LCg.ListComp_U (F₀ := by assumption) (by with_unfolding_all rfl) (by decide) (by rfl) (by decide) (by rfl) ?_ | refine LCt.ListComp_T (F₀ := by assumption) (by with_unfolding_all rfl) (by decide) (by rfl) (by decide) (by rfl) ?_)))
    k_with "m23" => ((k_here; k_dflt (first | refine LCg.Assign_ListComp_U (F₀ := by assumption) rfl (by with_unfolding_all rfl) (by with_unfolding_all rfl) (by decide) (by rfl) (by decide) (by rfl) (by rfl) (by rfl) ?_)))
    k_with "m24" => ((k_here; k_dflt (refine Assign_C (by assumption) rfl (by with_unfolding_all rfl) (by with_unfolding_all rfl) (fun _ => by rfl) (fun _ => by rfl) (by rfl) (by decide) (by rfl) (by rfl) (by rfl) ?_)))
    have hJ1 := hJ0
    obtain ⟨as, ws, ns, ys, ps, ka, kw, kn, ky, kp, rfl, b1, b2, b3, b4, b5, e1, e2, e3, e4⟩ := hJ0
    have hwh : script.sum.fmod 3 = 0 ∨ script.sum.fmod 3 = 1 ∨ script.sum.fmod 3 = 2 := mod3 _
    generalize script.sum.fmod 3 = wh at hwh eW
    refine stage (fun m nx => LJ ds lD lA lW lN lY lP (listOf dv kd) (cells7 s1.heap.objs.size o7 o6 o5 oY oN oC oW) ds.length m nx ∧ ∃ t, m (Str.ofString "page") = some (.str (pageS ds wh) t)) F1 htk ?_ ?_
    · iterate 14 walk1
      rename Fr _ _ _ _ => F2
      rename News _ _ _ _ => N2
      rename IsRange _ _ _ _ _ _ _ _ => R2
      refine LCg.CompSrc.range (by rfl) F2 N2 R2 (range_up _ hn6).1 (range_up _ hn6).2 (by rw [sizeLine_eq]; omega) ?_
      intro g6
      refine rest_inv (fun i ys nw => nw = _ ∧ StrsAre ys (pageL ds wh ds.length i)) ⟨rfl, .nil⟩ ?_ ?_
      · intro i yl nw v I6 oI6 C6 oC6 D6 m6 h6 tk6 E6 hi6 hJ6 hv6 hC6 hx6 F6 N6 off6 ne6
        obtain ⟨rfl, hys⟩ := hJ6
        obtain ⟨tv, rfl⟩ := hv6
        have hnb := num_bd hdb i
        obtain ⟨tn, hnk⟩ : ∃ t, ns.toList[((0 : Int) + (i : Int)).toNat]? = some (.int (numS ds i) t) := by
          have := ints_at b3 (k := i) 0 (by rw [nuL_len]; omega)
          rw [show (0 + (i : Int)).toNat = i from a_0i i]
          rw [show (nuL ds ds.length).getD i 0 = numS ds i by rw [List.getD_eq_getElem?_getD]; simp [nuL, hi6]] at this
          exact this
        obtain ⟨ty, hyk⟩ : ∃ t, ys.toList[((0 : Int) + (i : Int) + 1).toNat]? = some (.str ((wyL ds ds.length).getD (i + 1) (Str.ofString "/")) t) := by
          rw [show (0 + (i : Int) + 1).toNat = i + 1 from a_0i1 i]
          exact strs_at b4 _ (by rw [wy_len]; omega)
        have hmem : (wyL ds ds.length).getD (i + 1) (Str.ofString "/") ∈ wyL ds ds.length := by
          rw [List.getD_eq_getElem?_getD, List.getElem?_eq_getElem (by rw [wy_len]; omega)]; exact List.getElem_mem _
        have hyb := wy_bd ds ds.length _ hmem
        have hyt := plain_tame (plain_wy ds ds.length hn6 _ hmem)
        have hy20 : ((wyL ds ds.length).getD (i + 1) (Str.ofString "/")).length ≤ 20 := by omega
        have hfm : (Txt.join (Str.ofString "") (picksTo (numS ds i) 10)).length ≤ 10 := fm_len _
        have hsp : (spellS wh ((wyL ds ds.length).getD (i + 1) (Str.ofString "/"))).length ≤ 120 := Nat.le_trans spell_len (by omega)
        k_with "my sub" => (rename News _ _ _ _ => N2; first
          | ((with_reducible show wpAny _ _ (subscriptTail _ _ (Value.ref lN) _) _ _ _); refine item_news (l := lN) N2 (by k_mem) (by first | (with_reducible first | exact a_nn _ | exact a_nn0 _ | exact a_nn1 _ | exact a_nn41 _ | exact a_nn43 _) | omega) (by first | (with_reducible first | exact a_lt (by assumption) hn6 | exact a_lt0 (by assumption) hn6 | exact a_lt1 (by assumption) hn6 | exact a_lt41 (by assumption) hn6 | exact a_lt43 (by assumption) hn6 | fail "no") | omega) hnk ?_)
          | ((with_reducible show wpAny _ _ (subscriptTail _ _ (Value.ref lY) _) _ _ _); refine item_news (l := lY) N2 (by k_mem) (by first | (with_reducible first | exact a_nn _ | exact a_nn0 _ | exact a_nn1 _ | exact a_nn41 _ | exact a_nn43 _) | omega) (by first | (with_reducible first | exact a_lt (by assumption) hn6 | exact a_lt0 (by assumption) hn6 | exact a_lt1 (by assumption) hn6 | exact a_lt41 (by assumption) hn6 | exact a_lt43 (by assumption) hn6 | fail "no") | omega) hyk ?_))
        k_with "my call" => ((first | (with_reducible show wpAny _ _ (call _ [_]) _ _ _); refine' claim_use (filemode_spec _ _ _ _ (numS ds i) _ hnb.1 hnb.2) ?k1 ?k2 ?k3 ?k4 ?k5 ?kK ?kn ?kd ?ku ?kt ?_ | (with_reducible show wpAny _ _ (call _ [_, _]) _ _ _); refine' claim_use (written_spec _ _ _ _ wh _ ((wyL ds ds.length).getD (i + 1) (Str.ofString "/")) _ hwh hy20 hyt) ?k1 ?k2 ?k3 ?k4 ?k5 ?kK ?kn ?kd ?ku ?kt ?_); (case k1 => k_asm); (case k2 => k_asm); (case k3 => k_asm); (case k4 => k_asm); (case k5 => k_asm); (case kK => first | exact rfl | assumption); (case kn => exact fun _ h9 => nomatch h9); (case kd => ktr_room); (case ku => ktr_units); (case kt => first | exact Nat.zero_le _ | (dsimp only; omega)); intro r9 h9 tk9 R9 F9 N9; obtain ⟨t9, e9⟩ := R9; subst e9; (try dsimp only); (try k_fold))
        k_steps
        exact end_same off6 (by assumption) (by assumption) trivial ⟨rfl, strs_more hys (pageL_more ds wh ds.length i)⟩
      · intro yl nw hJ6
        obtain ⟨rfl, hys⟩ := hJ6
        k_with "my join" => (rename News _ _ _ _ => N2; refine join_list ⟨_, (N2 _ (.head _)).1, rfl, _, rfl⟩ hys (page_sum ds wh ds.length hn6) ?_; intro t9 k9)
        k_steps
        rename News _ _ _ _ => N9
        rename Fr _ _ _ _ => F9
        exact ⟨_, _, _, _, rfl, F9, news_sub N9 (fun p hp => .tail _ hp), ⟨_, _, _, _, _, _, _, _, _, _, rfl, b1, b2, b3, b4, b5, e1, e2, e3, e4⟩, _, rfl⟩
    · clear F1 N1 hJ1 htk b1 b2 b3 b4 b5 e1 e2 e3 e4
      clear as ws ns ys ps ka kw kn ky kp
      intro h2 tk2 m2 nx2 htk F1 N1 hJ0
      dsimp only
      clear h' m' tk'
      k_with_none
      k_with "m1" => ((k_here; refine execs_cons_t (by first | exact Nat.succ_pos _ | assumption | (dsimp only; omega)) ?_))
      k_with "m2" => (first | (refine tnext_next ?_; intro tk9 htk9) | refine tnext_ret ?_ | refine tnext_brk ?_ | refine tnext_cont ?_)
      k_with "m19" => (first | refine postG_next ?_ | refine postG_cont ?_ | refine postG_ret ?_ | refine postG_brk ?_)
      k_with "m20" => ((k_here; (rename Fr _ _ _ _ => lF'); (with_unfolding_all refine' For_invVF lF' ?k1 ?k2 ?_; (case k1 => exact rfl); (case k2 => exact rfl); k_whole)))
      k_with "m21" => ((k_here; (rename Fr _ _ _ _ => F7); (rename News _ _ _ _ => N7); first | (with_unfolding_all refine range1_rows F7 N7 ?_; clear F7 N7; intro h7 tk7 t7 u7 v7 R7 F7 N7 K7; clear K7) | (with_unfolding_all refine range2_rows F7 N7 ?_; clear F7 N7; intro h7 tk7 t7 u7 v7 R7 F7 N7 K7; clear K7)))
      k_with "m22" => ((k_here; k_dflt (first | refine LCg.ListComp_U (F₀ := by assumption) (by with_unfolding_all rfl) (by decide) (by rfl) (by decide) (by rfl) ?_ | refine LCt.ListComp_T (F₀ := by assumption) (by with_unfolding_all rfl) (by decide) (by rfl) (by decide) (by rfl) ?_)))
      k_with "m23" => ((k_here; k_dflt (first | refine LCg.Assign_ListComp_U (F₀ := by assumption) rfl (by with_unfolding_all rfl) (by with_unfolding_all rfl) (by decide) (by rfl) (by decide) (by rfl) (by rfl) (by rfl) ?_)))
      k_with "m24" => ((k_here; k_dflt (refine Assign_C (by assumption) rfl (by with_unfolding_all rfl) (by with_unfolding_all rfl) (fun _ => by rfl) (fun _ => by rfl) (by rfl) (by decide) (by rfl) (by rfl) (by rfl) ?_)))
      obtain ⟨⟨as, ws, ns, ys, ps, ka, kw, kn, ky, kp, rfl, b1, b2, b3, b4, b5, e1, e2, e3, e4⟩, tpg, e5⟩ := hJ0
      have hpl := page_len (wh := wh) hn6
      have F1a := fr_know (x := Str.ofString "page") F1 e5
      clear F1
      have hlt2 : AllLt h2.objs.size _ := allLt_of (fun p hp => Heap.lt_size (N1 p hp).1)
      simp only [AllLt, cells7] at hlt2
      iterate 10 walk1
      rename List (Str × Tok) => lx
      rename List.map _ lx = _ => hlx
      have hlx' : lx.map (·.1) = piecesS ds wh := hlx
      have hst := sv_strs lx
      rw [hlx'] at hst
      have hpn := pieces_len (wh := wh) hdb hn6
      have hll : (strValues lx).length = 4 * ds.length + 1 := by rw [strs_len hst]; exact hpn
      rename News _ _ _ _ => N5
      rename Heap.IsList _ _ (strValues lx).toArray => I5
      clear I5
      dsimp only at N5 ⊢
      generalize h2.objs.size = lT at N5 hlt2 ⊢
      iterate 11 walk1
      rename News _ _ _ _ => N6
      refine len_list ⟨_, (N6 _ (.head _)).1, rfl, _, rfl⟩ (by rw [List.size_toArray]; omega) ?_
      iterate 10 walk1
      · exfalso
        rename (_ ≠ _) => hne9
        apply hne9
        first | omega | (rw [List.size_toArray]; omega) | (simp only [List.size_toArray, hll]; omega)
      · iterate 3 walk1
        rename News _ _ _ _ => N1
        rename Fr _ _ _ _ => F1
        rename Obj => oT
        rename oT.data = _ => cT
        rename StrsAre (strValues lx) (piecesS ds wh) => hpv
        rename (0 < _) => htk
        obtain ⟨m3, F2, e2', e3', e4'⟩ : ∃ m3 : Str → Option Value, Fr _ _ _ m3 ∧ m3 (Str.ofString "aboves") = some (.ref lA) ∧ m3 (Str.ofString "whose") = some (.ref lW) ∧ m3 (Str.ofString "plain") = some (.ref lP) :=
          ⟨_, F1, by rw [if_neg (by decide)]; exact e2, by rw [if_neg (by decide)]; exact e3, by rw [if_neg (by decide)]; exact e4⟩
        clear F1 e1 e2 e3 e4 e5 hpl hlx hlx' hpn c5
        simp only [and_true] at hlt2
        dsimp only
        k_with_none
        k_with "m1" => ((k_here; refine execs_cons_t (by first | exact Nat.succ_pos _ | assumption | (dsimp only; omega)) ?_))
        k_with "m2" => (first | (refine tnext_next ?_; intro tk9 htk9) | refine tnext_ret ?_ | refine tnext_brk ?_ | refine tnext_cont ?_)
        k_with "m19" => (first | refine postG_next ?_ | refine postG_cont ?_ | refine postG_ret ?_ | refine postG_brk ?_)
        k_with "m20" => ((k_here; (rename Fr _ _ _ _ => lF'); (with_unfolding_all refine' For_invVF lF' ?k1 ?k2 ?_; (case k1 => exact rfl); (case k2 => exact rfl); k_whole)))
        k_with "m21" => ((k_here; (rename Fr _ _ _ _ => F7); (rename News _ _ _ _ => N7); first | (with_unfolding_all refine range1_rows F7 N7 ?_; clear F7 N7; intro h7 tk7 t7 u7 v7 R7 F7 N7 K7; clear K7) | (with_unfolding_all refine range2_rows F7 N7 ?_; clear F7 N7; intro h7 tk7 t7 u7 v7 R7 F7 N7 K7; clear K7)))
        k_with "m22" => ((k_here; k_dflt (first | refine LCg.ListComp_U (F₀ := by assumption) (by with_unfolding_all rfl) (by decide) (by rfl) (by decide) (by rfl) ?_ | refine LCt.ListComp_T (F₀ := by assumption) (by with_unfolding_all rfl) (by decide) (by rfl) (by decide) (by rfl) ?_)))
        k_with "m23" => ((k_here; k_dflt (first | refine LCg.Assign_ListComp_U (F₀ := by assumption) rfl (by with_unfolding_all rfl) (by with_unfolding_all rfl) (by decide) (by rfl) (by decide) (by rfl) (by rfl) (by rfl) ?_)))
        k_with "m24" => ((k_here; k_dflt (refine Assign_C (by assumption) rfl (by with_unfolding_all rfl) (by with_unfolding_all rfl) (fun _ => by rfl) (fun _ => by rfl) (by rfl) (by decide) (by rfl) (by rfl) (by rfl) ?_)))
        iterate 9 walk1
        rename Fr _ _ _ _ => F2
        rename News _ _ _ _ => N2
        rename IsRange _ _ _ _ _ _ _ _ => R2
        refine LCg.CompSrc.range (by rfl) F2 N2 R2 (range_up _ hn6).1 (range_up _ hn6).2 (by rw [sizeLine_eq]; omega) ?_
        intro g6
        refine rest_inv (fun i ys nw => nw = _ ∧ StrsAre ys (sgL ds i)) ⟨rfl, .nil⟩ ?_ ?_
        · intro i yl nw v I6 oI6 C6 oC6 D6 m6 h6 tk6 E6 hi6 hJ6 hv6 hC6 hx6 F6 N6 off6 ne6
          obtain ⟨rfl, hys⟩ := hJ6
          obtain ⟨tv, rfl⟩ := hv6
          obtain ⟨tn, hnk⟩ : ∃ t, (strValues lx)[(4 * ((0 : Int) + (i : Int)) + 1).toNat]? = some (.str (fmS (numS ds i)) t) := by
            rw [← pieces_m (wh := wh) hdb hn6 hi6, show (4 * ((0 : Int) + (i : Int)) + 1).toNat = 4 * i + 1 from a_41 i]
            exact strs_at hpv _ (by rw [pieces_len hdb hn6]; omega)
          k_with "my sub" => (rename News _ _ _ _ => N2; refine item_news (l := lT) N2 (by k_mem) (by first | (with_reducible first | exact a_nn _ | exact a_nn0 _ | exact a_nn1 _ | exact a_nn41 _ | exact a_nn43 _) | omega) (by first | (with_reducible first | exact a_lt (by assumption) hn6 | exact a_lt0 (by assumption) hn6 | exact a_lt1 (by assumption) hn6 | exact a_lt41 (by assumption) hn6 | exact a_lt43 (by assumption) hn6 | fail "no") | omega) hnk ?_)
          k_steps
          exact end_same off6 (by assumption) (by assumption) trivial ⟨rfl, strs_more hys (sgL_more ds i)⟩
        · intro sv nw hJ6
          obtain ⟨rfl, hsv⟩ := hJ6
          unfold LCg.FinA
          intro lG hG tkG FG NG oG
          k_with "ne" => (refine neN ?_; (try dsimp only); first | (with_reducible first | assumption | (refine Ne.symm ?_; assumption)) | (with_reducible first | exact cd1 _ | exact (cd1 _).symm | exact cd2 _ | exact (cd2 _).symm | exact cd3 _ | exact (cd3 _).symm | exact cd4 _ | exact (cd4 _).symm | exact cd5 _ | exact (cd5 _).symm | exact cd6 _ | exact (cd6 _).symm) | (with_reducible first | exact cne7 hl1 | exact (cne7 hl1).symm | exact cne6 hl1 | exact (cne6 hl1).symm | exact cne5 hl1 | exact (cne5 hl1).symm | exact cne4 hl1 | exact (cne4 hl1).symm | exact cne3 hl1 | exact (cne3 hl1).symm | exact cne2 hl1 | exact (cne2 hl1).symm | exact cne1 hl1 | exact (cne1 hl1).symm | exact cne7 hA7 | exact (cne7 hA7).symm | exact cne6 hA7 | exact (cne6 hA7).symm | exact cne5 hA7 | exact (cne5 hA7).symm | exact cne4 hA7 | exact (cne4 hA7).symm | exact cne3 hA7 | exact (cne3 hA7).symm | exact cne2 hA7 | exact (cne2 hA7).symm | exact cne1 hA7 | exact (cne1 hA7).symm | exact cne7 hW7 | exact (cne7 hW7).symm | exact cne6 hW7 | exact (cne6 hW7).symm | exact cne5 hW7 | exact (cne5 hW7).symm | exact cne4 hW7 | exact (cne4 hW7).symm | exact cne3 hW7 | exact (cne3 hW7).symm | exact cne2 hW7 | exact (cne2 hW7).symm | exact cne1 hW7 | exact (cne1 hW7).symm | exact cne7 hN7 | exact (cne7 hN7).symm | exact cne6 hN7 | exact (cne6 hN7).symm | exact cne5 hN7 | exact (cne5 hN7).symm | exact cne4 hN7 | exact (cne4 hN7).symm | exact cne3 hN7 | exact (cne3 hN7).symm | exact cne2 hN7 | exact (cne2 hN7).symm | exact cne1 hN7 | exact (cne1 hN7).symm | exact cne7 hY7 | exact (cne7 hY7).symm | exact cne6 hY7 | exact (cne6 hY7).symm | exact cne5 hY7 | exact (cne5 hY7).symm | exact cne4 hY7 | exact (cne4 hY7).symm | exact cne3 hY7 | exact (cne3 hY7).symm | exact cne2 hY7 | exact (cne2 hY7).symm | exact cne1 hY7 | exact (cne1 hY7).symm | exact cne7 hP7 | exact (cne7 hP7).symm | exact cne6 hP7 | exact (cne6 hP7).symm | exact cne5 hP7 | exact (cne5 hP7).symm | exact cne4 hP7 | exact (cne4 hP7).symm | exact cne3 hP7 | exact (cne3 hP7).symm | exact cne2 hP7 | exact (cne2 hP7).symm | exact cne1 hP7 | exact (cne1 hP7).symm) | exact oG.1 | exact (oG.1).symm | exact oG.2.1 | exact (oG.2.1).symm | exact oG.2.2.1 | exact (oG.2.2.1).symm | exact oG.2.2.2.1 | exact (oG.2.2.2.1).symm | exact oG.2.2.2.2.1 | exact (oG.2.2.2.2.1).symm | exact oG.2.2.2.2.2.1 | exact (oG.2.2.2.2.2.1).symm | exact oG.2.2.2.2.2.2.1 | exact (oG.2.2.2.2.2.2.1).symm | exact oG.2.2.2.2.2.2.2.1 | exact (oG.2.2.2.2.2.2.2.1).symm | exact oG.2.2.2.2.2.2.2.2.1 | exact (oG.2.2.2.2.2.2.2.2.1).symm | exact oG.2.2.2.2.2.2.2.2.2.1 | exact (oG.2.2.2.2.2.2.2.2.2.1).symm | exact oG.2.2.2.2.2.2.2.2.2.2.1 | exact (oG.2.2.2.2.2.2.2.2.2.2.1).symm | exact oG.2.2.2.2.2.2.2.2.2.2.2.1 | exact (oG.2.2.2.2.2.2.2.2.2.2.2.1).symm | exact oG.2.2.2.2.2.2.2.2.2.2.2.2.1 | exact (oG.2.2.2.2.2.2.2.2.2.2.2.2.1).symm | exact oG.2.2.2.2.2.2.2.2.2.2.2.2.2.1 | exact (oG.2.2.2.2.2.2.2.2.2.2.2.2.2.1).symm | exact Nat.ne_of_lt hC.1.1 | exact Nat.ne_of_gt hC.1.1 | exact Nat.ne_of_lt hC.1.2.1 | exact Nat.ne_of_gt hC.1.2.1 | exact Nat.ne_of_lt hC.1.2.2.1 | exact Nat.ne_of_gt hC.1.2.2.1 | exact Nat.ne_of_lt hC.1.2.2.2.1 | exact Nat.ne_of_gt hC.1.2.2.2.1 | exact Nat.ne_of_lt hC.1.2.2.2.2.1 | exact Nat.ne_of_gt hC.1.2.2.2.2.1 | exact Nat.ne_of_lt hC.2.1.1 | exact Nat.ne_of_gt hC.2.1.1 | exact Nat.ne_of_lt hC.2.1.2.1 | exact Nat.ne_of_gt hC.2.1.2.1 | exact Nat.ne_of_lt hC.2.1.2.2.1 | exact Nat.ne_of_gt hC.2.1.2.2.1 | exact Nat.ne_of_lt hC.2.1.2.2.2.1 | exact Nat.ne_of_gt hC.2.1.2.2.2.1 | exact Nat.ne_of_lt hC.2.2.1.1 | exact Nat.ne_of_gt hC.2.2.1.1 | exact Nat.ne_of_lt hC.2.2.1.2.1 | exact Nat.ne_of_gt hC.2.2.1.2.1 | exact Nat.ne_of_lt hC.2.2.1.2.2.1 | exact Nat.ne_of_gt hC.2.2.1.2.2.1 | exact Nat.ne_of_lt hC.2.2.2.1.1 | exact Nat.ne_of_gt hC.2.2.2.1.1 | exact Nat.ne_of_lt hC.2.2.2.1.2.1 | exact Nat.ne_of_gt hC.2.2.2.1.2.1 | exact Nat.ne_of_lt hC.2.2.2.2.1.1 | exact Nat.ne_of_gt hC.2.2.2.2.1.1 | (with_reducible first | exact Nat.ne_of_lt (by assumption) | exact Nat.ne_of_gt (by assumption) | fail "ne") | (with_reducible first | exact Nat.ne_of_gt (And.left (by assumption)) | exact Nat.ne_of_lt (And.left (by assumption)) | exact Nat.ne_of_gt (And.left (And.right (by assumption))) | exact Nat.ne_of_lt (And.left (And.right (by assumption))) | exact Nat.ne_of_gt (And.left (And.right (And.right (by assumption)))) | exact Nat.ne_of_lt (And.left (And.right (And.right (by assumption)))) | exact Nat.ne_of_gt (And.left (And.right (And.right (And.right (by assumption))))) | exact Nat.ne_of_lt (And.left (And.right (And.right (And.right (by assumption))))) | exact Nat.ne_of_gt (And.left (And.right (And.right (And.right (And.right (by assumption)))))) | exact Nat.ne_of_lt (And.left (And.right (And.right (And.right (And.right (by assumption)))))) | exact Nat.ne_of_gt (And.left (And.right (And.right (And.right (And.right (And.right (by assumption))))))) | exact Nat.ne_of_lt (And.left (And.right (And.right (And.right (And.right (And.right (by assumption))))))) | exact Nat.ne_of_gt (And.left (And.right (And.right (And.right (And.right (And.right (And.right (by assumption)))))))) | exact Nat.ne_of_lt (And.left (And.right (And.right (And.right (And.right (And.right (And.right (by assumption)))))))) | exact Nat.ne_of_gt (And.left (And.right (And.right (And.right (And.right (And.right (And.right (And.right (by assumption))))))))) | exact Nat.ne_of_lt (And.left (And.right (And.right (And.right (And.right (And.right (And.right (And.right (by assumption))))))))) | exact Nat.ne_of_gt (And.left (And.right (And.right (And.right (And.right (And.right (And.right (And.right (And.right (by assumption)))))))))) | exact Nat.ne_of_lt (And.left (And.right (And.right (And.right (And.right (And.right (And.right (And.right (And.right (by assumption)))))))))) | exact Nat.ne_of_gt (And.left (And.right (And.right (And.right (And.right (And.right (And.right (And.right (And.right (And.right (by assumption))))))))))) | exact Nat.ne_of_lt (And.left (And.right (And.right (And.right (And.right (And.right (And.right (And.right (And.right (And.right (by assumption))))))))))) | exact Nat.ne_of_gt (And.left (And.right (And.right (And.right (And.right (And.right (And.right (And.right (And.right (And.right (And.right (by assumption)))))))))))) | exact Nat.ne_of_lt (And.left (And.right (And.right (And.right (And.right (And.right (And.right (And.right (And.right (And.right (And.right (by assumption)))))))))))) | exact Nat.ne_of_gt (And.left (And.right (And.right (And.right (And.right (And.right (And.right (And.right (And.right (And.right (And.right (And.right (by assumption))))))))))))) | exact Nat.ne_of_lt (And.left (And.right (And.right (And.right (And.right (And.right (And.right (And.right (And.right (And.right (And.right (And.right (by assumption))))))))))))) | exact Nat.ne_of_gt (And.left (And.right (And.right (And.right (And.right (And.right (And.right (And.right (And.right (And.right (And.right (And.right (And.right (by assumption)))))))))))))) | exact Nat.ne_of_lt (And.left (And.right (And.right (And.right (And.right (And.right (And.right (And.right (And.right (And.right (And.right (And.right (And.right (by assumption)))))))))))))) | exact Nat.ne_of_gt (And.left (And.right (And.right (And.right (And.right (And.right (And.right (And.right (And.right (And.right (And.right (And.right (And.right (And.right (by assumption))))))))))))))) | exact Nat.ne_of_lt (And.left (And.right (And.right (And.right (And.right (And.right (And.right (And.right (And.right (And.right (And.right (And.right (And.right (And.right (by assumption))))))))))))))) | exact cne1 (And.left (by assumption)) | exact Ne.symm (cne1 (And.left (by assumption))) | exact cne2 (And.left (by assumption)) | exact Ne.symm (cne2 (And.left (by assumption))) | exact cne3 (And.left (by assumption)) | exact Ne.symm (cne3 (And.left (by assumption))) | exact cne4 (And.left (by assumption)) | exact Ne.symm (cne4 (And.left (by assumption))) | exact cne5 (And.left (by assumption)) | exact Ne.symm (cne5 (And.left (by assumption))) | exact cne6 (And.left (by assumption)) | exact Ne.symm (cne6 (And.left (by assumption))) | exact cne7 (And.left (by assumption)) | exact Ne.symm (cne7 (And.left (by assumption))) | exact cne1 (And.left (And.right (by assumption))) | exact Ne.symm (cne1 (And.left (And.right (by assumption)))) | exact cne2 (And.left (And.right (by assumption))) | exact Ne.symm (cne2 (And.left (And.right (by assumption)))) | exact cne3 (And.left (And.right (by assumption))) | exact Ne.symm (cne3 (And.left (And.right (by assumption)))) | exact cne4 (And.left (And.right (by assumption))) | exact Ne.symm (cne4 (And.left (And.right (by assumption)))) | exact cne5 (And.left (And.right (by assumption))) | exact Ne.symm (cne5 (And.left (And.right (by assumption)))) | exact cne6 (And.left (And.right (by assumption))) | exact Ne.symm (cne6 (And.left (And.right (by assumption)))) | exact cne7 (And.left (And.right (by assumption))) | exact Ne.symm (cne7 (And.left (And.right (by assumption)))) | exact cne1 (And.left (And.right (And.right (by assumption)))) | exact Ne.symm (cne1 (And.left (And.right (And.right (by assumption))))) | exact cne2 (And.left (And.right (And.right (by assumption)))) | exact Ne.symm (cne2 (And.left (And.right (And.right (by assumption))))) | exact cne3 (And.left (And.right (And.right (by assumption)))) | exact Ne.symm (cne3 (And.left (And.right (And.right (by assumption))))) | exact cne4 (And.left (And.right (And.right (by assumption)))) | exact Ne.symm (cne4 (And.left (And.right (And.right (by assumption))))) | exact cne5 (And.left (And.right (And.right (by assumption)))) | exact Ne.symm (cne5 (And.left (And.right (And.right (by assumption))))) | exact cne6 (And.left (And.right (And.right (by assumption)))) | exact Ne.symm (cne6 (And.left (And.right (And.right (by assumption))))) | exact cne7 (And.left (And.right (And.right (by assumption)))) | exact Ne.symm (cne7 (And.left (And.right (And.right (by assumption))))) | exact cne1 (And.left (And.right (And.right (And.right (by assumption))))) | exact Ne.symm (cne1 (And.left (And.right (And.right (And.right (by assumption)))))) | exact cne2 (And.left (And.right (And.right (And.right (by assumption))))) | exact Ne.symm (cne2 (And.left (And.right (And.right (And.right (by assumption)))))) | exact cne3 (And.left (And.right (And.right (And.right (by assumption))))) | exact Ne.symm (cne3 (And.left (And.right (And.right (And.right (by assumption)))))) | exact cne4 (And.left (And.right (And.right (And.right (by assumption))))) | exact Ne.symm (cne4 (And.left (And.right (And.right (And.right (by assumption)))))) | exact cne5 (And.left (And.right (And.right (And.right (by assumption))))) | exact Ne.symm (cne5 (And.left (And.right (And.right (And.right (by assumption)))))) | exact cne6 (And.left (And.right (And.right (And.right (by assumption))))) | exact Ne.symm (cne6 (And.left (And.right (And.right (And.right (by assumption)))))) | exact cne7 (And.left (And.right (And.right (And.right (by assumption))))) | exact Ne.symm (cne7 (And.left (And.right (And.right (And.right (by assumption)))))) | exact cne1 (And.left (And.right (And.right (And.right (And.right (by assumption)))))) | exact Ne.symm (cne1 (And.left (And.right (And.right (And.right (And.right (by assumption))))))) | exact cne2 (And.left (And.right (And.right (And.right (And.right (by assumption)))))) | exact Ne.symm (cne2 (And.left (And.right (And.right (And.right (And.right (by assumption))))))) | exact cne3 (And.left (And.right (And.right (And.right (And.right (by assumption)))))) | exact Ne.symm (cne3 (And.left (And.right (And.right (And.right (And.right (by assumption))))))) | exact cne4 (And.left (And.right (And.right (And.right (And.right (by assumption)))))) | exact Ne.symm (cne4 (And.left (And.right (And.right (And.right (And.right (by assumption))))))) | exact cne5 (And.left (And.right (And.right (And.right (And.right (by assumption)))))) | exact Ne.symm (cne5 (And.left (And.right (And.right (And.right (And.right (by assumption))))))) | exact cne6 (And.left (And.right (And.right (And.right (And.right (by assumption)))))) | exact Ne.symm (cne6 (And.left (And.right (And.right (And.right (And.right (by assumption))))))) | exact cne7 (And.left (And.right (And.right (And.right (And.right (by assumption)))))) | exact Ne.symm (cne7 (And.left (And.right (And.right (And.right (And.right (by assumption))))))) | exact cne1 (And.left (And.right (And.right (And.right (And.right (And.right (by assumption))))))) | exact Ne.symm (cne1 (And.left (And.right (And.right (And.right (And.right (And.right (by assumption)))))))) | exact cne2 (And.left (And.right (And.right (And.right (And.right (And.right (by assumption))))))) | exact Ne.symm (cne2 (And.left (And.right (And.right (And.right (And.right (And.right (by assumption)))))))) | exact cne3 (And.left (And.right (And.right (And.right (And.right (And.right (by assumption))))))) | exact Ne.symm (cne3 (And.left (And.right (And.right (And.right (And.right (And.right (by assumption)))))))) | exact cne4 (And.left (And.right (And.right (And.right (And.right (And.right (by assumption))))))) | exact Ne.symm (cne4 (And.left (And.right (And.right (And.right (And.right (And.right (by assumption)))))))) | exact cne5 (And.left (And.right (And.right (And.right (And.right (And.right (by assumption))))))) | exact Ne.symm (cne5 (And.left (And.right (And.right (And.right (And.right (And.right (by assumption)))))))) | exact cne6 (And.left (And.right (And.right (And.right (And.right (And.right (by assumption))))))) | exact Ne.symm (cne6 (And.left (And.right (And.right (And.right (And.right (And.right (by assumption)))))))) | exact cne7 (And.left (And.right (And.right (And.right (And.right (And.right (by assumption))))))) | exact Ne.symm (cne7 (And.left (And.right (And.right (And.right (And.right (And.right (by assumption)))))))) | exact cne1 (And.left (And.right (And.right (And.right (And.right (And.right (And.right (by assumption)))))))) | exact Ne.symm (cne1 (And.left (And.right (And.right (And.right (And.right (And.right (And.right (by assumption))))))))) | exact cne2 (And.left (And.right (And.right (And.right (And.right (And.right (And.right (by assumption)))))))) | exact Ne.symm (cne2 (And.left (And.right (And.right (And.right (And.right (And.right (And.right (by assumption))))))))) | exact cne3 (And.left (And.right (And.right (And.right (And.right (And.right (And.right (by assumption)))))))) | exact Ne.symm (cne3 (And.left (And.right (And.right (And.right (And.right (And.right (And.right (by assumption))))))))) | exact cne4 (And.left (And.right (And.right (And.right (And.right (And.right (And.right (by assumption)))))))) | exact Ne.symm (cne4 (And.left (And.right (And.right (And.right (And.right (And.right (And.right (by assumption))))))))) | exact cne5 (And.left (And.right (And.right (And.right (And.right (And.right (And.right (by assumption)))))))) | exact Ne.symm (cne5 (And.left (And.right (And.right (And.right (And.right (And.right (And.right (by assumption))))))))) | exact cne6 (And.left (And.right (And.right (And.right (And.right (And.right (And.right (by assumption)))))))) | exact Ne.symm (cne6 (And.left (And.right (And.right (And.right (And.right (And.right (And.right (by assumption))))))))) | exact cne7 (And.left (And.right (And.right (And.right (And.right (And.right (And.right (by assumption)))))))) | exact Ne.symm (cne7 (And.left (And.right (And.right (And.right (And.right (And.right (And.right (by assumption))))))))) | exact cne1 (And.left (And.right (And.right (And.right (And.right (And.right (And.right (And.right (by assumption))))))))) | exact Ne.symm (cne1 (And.left (And.right (And.right (And.right (And.right (And.right (And.right (And.right (by assumption)))))))))) | exact cne2 (And.left (And.right (And.right (And.right (And.right (And.right (And.right (And.right (by assumption))))))))) | exact Ne.symm (cne2 (And.left (And.right (And.right (And.right (And.right (And.right (And.right (And.right (by assumption)))))))))) | exact cne3 (And.left (And.right (And.right (And.right (And.right (And.right (And.right (And.right (by assumption))))))))) | exact Ne.symm (cne3 (And.left (And.right (And.right (And.right (And.right (And.right (And.right (And.right (by assumption)))))))))) | exact cne4 (And.left (And.right (And.right (And.right (And.right (And.right (And.right (And.right (by assumption))))))))) | exact Ne.symm (cne4 (And.left (And.right (And.right (And.right (And.right (And.right (And.right (And.right (by assumption)))))))))) | exact cne5 (And.left (And.right (And.right (And.right (And.right (And.right (And.right (And.right (by assumption))))))))) | exact Ne.symm (cne5 (And.left (And.right (And.right (And.right (And.right (And.right (And.right (And.right (by assumption)))))))))) | exact cne6 (And.left (And.right (And.right (And.right (And.right (And.right (And.right (And.right (by assumption))))))))) | exact Ne.symm (cne6 (And.left (And.right (And.right (And.right (And.right (And.right (And.right (And.right (by assumption)))))))))) | exact cne7 (And.left (And.right (And.right (And.right (And.right (And.right (And.right (And.right (by assumption))))))))) | exact Ne.symm (cne7 (And.left (And.right (And.right (And.right (And.right (And.right (And.right (And.right (by assumption)))))))))) | exact cne1 (And.left (And.right (And.right (And.right (And.right (And.right (And.right (And.right (And.right (by assumption)))))))))) | exact Ne.symm (cne1 (And.left (And.right (And.right (And.right (And.right (And.right (And.right (And.right (And.right (by assumption))))))))))) | exact cne2 (And.left (And.right (And.right (And.right (And.right (And.right (And.right (And.right (And.right (by assumption)))))))))) | exact Ne.symm (cne2 (And.left (And.right (And.right (And.right (And.right (And.right (And.right (And.right (And.right (by assumption))))))))))) | exact cne3 (And.left (And.right (And.right (And.right (And.right (And.right (And.right (And.right (And.right (by assumption)))))))))) | exact Ne.symm (cne3 (And.left (And.right (And.right (And.right (And.right (And.right (And.right (And.right (And.right (by assumption))))))))))) | exact cne4 (And.left (And.right (And.right (And.right (And.right (And.right (And.right (And.right (And.right (by assumption)))))))))) | exact Ne.symm (cne4 (And.left (And.right (And.right (And.right (And.right (And.right (And.right (And.right (And.right (by assumption))))))))))) | exact cne5 (And.left (And.right (And.right (And.right (And.right (And.right (And.right (And.right (And.right (by assumption)))))))))) | exact Ne.symm (cne5 (And.left (And.right (And.right (And.right (And.right (And.right (And.right (And.right (And.right (by assumption))))))))))) | exact cne6 (And.left (And.right (And.right (And.right (And.right (And.right (And.right (And.right (And.right (by assumption)))))))))) | exact Ne.symm (cne6 (And.left (And.right (And.right (And.right (And.right (And.right (And.right (And.right (And.right (by assumption))))))))))) | exact cne7 (And.left (And.right (And.right (And.right (And.right (And.right (And.right (And.right (And.right (by assumption)))))))))) | exact Ne.symm (cne7 (And.left (And.right (And.right (And.right (And.right (And.right (And.right (And.right (And.right (by assumption))))))))))) | exact cne1 (And.left (And.right (And.right (And.right (And.right (And.right (And.right (And.right (And.right (And.right (by assumption))))))))))) | exact Ne.symm (cne1 (And.left (And.right (And.right (And.right (And.right (And.right (And.right (And.right (And.right (And.right (by assumption)))))))))))) | exact cne2 (And.left (And.right (And.right (And.right (And.right (And.right (And.right (And.right (And.right (And.right (by assumption))))))))))) | exact Ne.symm (cne2 (And.left (And.right (And.right (And.right (And.right (And.right (And.right (And.right (And.right (And.right (by assumption)))))))))))) | exact cne3 (And.left (And.right (And.right (And.right (And.right (And.right (And.right (And.right (And.right (And.right (by assumption))))))))))) | exact Ne.symm (cne3 (And.left (And.right (And.right (And.right (And.right (And.right (And.right (And.right (And.right (And.right (by assumption)))))))))))) | exact cne4 (And.left (And.right (And.right (And.right (And.right (And.right (And.right (And.right (And.right (And.right (by assumption))))))))))) | exact Ne.symm (cne4 (And.left (And.right (And.right (And.right (And.right (And.right (And.right (And.right (And.right (And.right (by assumption)))))))))))) | exact cne5 (And.left (And.right (And.right (And.right (And.right (And.right (And.right (And.right (And.right (And.right (by assumption))))))))))) | exact Ne.symm (cne5 (And.left (And.right (And.right (And.right (And.right (And.right (And.right (And.right (And.right (And.right (by assumption)))))))))))) | exact cne6 (And.left (And.right (And.right (And.right (And.right (And.right (And.right (And.right (And.right (And.right (by assumption))))))))))) | exact Ne.symm (cne6 (And.left (And.right (And.right (And.right (And.right (And.right (And.right (And.right (And.right (And.right (by assumption)))))))))))) | exact cne7 (And.left (And.right (And.right (And.right (And.right (And.right (And.right (And.right (And.right (And.right (by assumption))))))))))) | exact Ne.symm (cne7 (And.left (And.right (And.right (And.right (And.right (And.right (And.right (And.right (And.right (And.right (by assumption)))))))))))) | fail "ne") | fail "ne")
          dsimp only
          iterate 11 walk1
          rename Fr _ _ _ _ => F2
          rename News _ _ _ _ => N2
          rename IsRange _ _ _ _ _ _ _ _ => R2
          refine LCg.CompSrc.range (by rfl) F2 N2 R2 (range_up _ hn6).1 (range_up _ hn6).2 (by rw [sizeLine_eq]; omega) ?_
          intro g6
          refine rest_inv (fun i ys nw => nw = _ ∧ StrsAre ys (wrL ds wh i)) ⟨rfl, .nil⟩ ?_ ?_
          · intro i yl nw v I6 oI6 C6 oC6 D6 m6 h6 tk6 E6 hi6 hJ6 hv6 hC6 hx6 F6 N6 off6 ne6
            obtain ⟨rfl, hys⟩ := hJ6
            obtain ⟨tv, rfl⟩ := hv6
            obtain ⟨tn, hnk⟩ : ∃ t, (strValues lx)[(4 * ((0 : Int) + (i : Int)) + 3).toNat]? = some (.str (spellS wh ((wyL ds ds.length).getD (i + 1) (Str.ofString "/"))) t) := by
              rw [← pieces_p (wh := wh) hdb hn6 hi6, show (4 * ((0 : Int) + (i : Int)) + 3).toNat = 4 * i + 3 from a_43 i]
              exact strs_at hpv _ (by rw [pieces_len hdb hn6]; omega)
            k_with "my sub" => (rename News _ _ _ _ => N2; refine item_news (l := lT) N2 (by k_mem) (by first | (with_reducible first | exact a_nn _ | exact a_nn0 _ | exact a_nn1 _ | exact a_nn41 _ | exact a_nn43 _) | omega) (by first | (with_reducible first | exact a_lt (by assumption) hn6 | exact a_lt0 (by assumption) hn6 | exact a_lt1 (by assumption) hn6 | exact a_lt41 (by assumption) hn6 | exact a_lt43 (by assumption) hn6 | fail "no") | omega) hnk ?_)
            k_steps
            exact end_same off6 (by assumption) (by assumption) trivial ⟨rfl, strs_more hys (wrL_more ds wh i)⟩
          · intro rv nw hJ6
            obtain ⟨rfl, hrv⟩ := hJ6
            unfold LCg.FinE
            intro lR hR tkR FR NR oR1
            k_with "ne" => (refine neN ?_; (try dsimp only); first | (with_reducible first | assumption | (refine Ne.symm ?_; assumption)) | (with_reducible first | exact cd1 _ | exact (cd1 _).symm | exact cd2 _ | exact (cd2 _).symm | exact cd3 _ | exact (cd3 _).symm | exact cd4 _ | exact (cd4 _).symm | exact cd5 _ | exact (cd5 _).symm | exact cd6 _ | exact (cd6 _).symm) | (with_reducible first | exact cne7 hl1 | exact (cne7 hl1).symm | exact cne6 hl1 | exact (cne6 hl1).symm | exact cne5 hl1 | exact (cne5 hl1).symm | exact cne4 hl1 | exact (cne4 hl1).symm | exact cne3 hl1 | exact (cne3 hl1).symm | exact cne2 hl1 | exact (cne2 hl1).symm | exact cne1 hl1 | exact (cne1 hl1).symm | exact cne7 hA7 | exact (cne7 hA7).symm | exact cne6 hA7 | exact (cne6 hA7).symm | exact cne5 hA7 | exact (cne5 hA7).symm | exact cne4 hA7 | exact (cne4 hA7).symm | exact cne3 hA7 | exact (cne3 hA7).symm | exact cne2 hA7 | exact (cne2 hA7).symm | exact cne1 hA7 | exact (cne1 hA7).symm | exact cne7 hW7 | exact (cne7 hW7).symm | exact cne6 hW7 | exact (cne6 hW7).symm | exact cne5 hW7 | exact (cne5 hW7).symm | exact cne4 hW7 | exact (cne4 hW7).symm | exact cne3 hW7 | exact (cne3 hW7).symm | exact cne2 hW7 | exact (cne2 hW7).symm | exact cne1 hW7 | exact (cne1 hW7).symm | exact cne7 hN7 | exact (cne7 hN7).symm | exact cne6 hN7 | exact (cne6 hN7).symm | exact cne5 hN7 | exact (cne5 hN7).symm | exact cne4 hN7 | exact (cne4 hN7).symm | exact cne3 hN7 | exact (cne3 hN7).symm | exact cne2 hN7 | exact (cne2 hN7).symm | exact cne1 hN7 | exact (cne1 hN7).symm | exact cne7 hY7 | exact (cne7 hY7).symm | exact cne6 hY7 | exact (cne6 hY7).symm | exact cne5 hY7 | exact (cne5 hY7).symm | exact cne4 hY7 | exact (cne4 hY7).symm | exact cne3 hY7 | exact (cne3 hY7).symm | exact cne2 hY7 | exact (cne2 hY7).symm | exact cne1 hY7 | exact (cne1 hY7).symm | exact cne7 hP7 | exact (cne7 hP7).symm | exact cne6 hP7 | exact (cne6 hP7).symm | exact cne5 hP7 | exact (cne5 hP7).symm | exact cne4 hP7 | exact (cne4 hP7).symm | exact cne3 hP7 | exact (cne3 hP7).symm | exact cne2 hP7 | exact (cne2 hP7).symm | exact cne1 hP7 | exact (cne1 hP7).symm) | exact oR1.1 | exact (oR1.1).symm | exact oR1.2.1 | exact (oR1.2.1).symm | exact oR1.2.2.1 | exact (oR1.2.2.1).symm | exact oR1.2.2.2.1 | exact (oR1.2.2.2.1).symm | exact oR1.2.2.2.2.1 | exact (oR1.2.2.2.2.1).symm | exact oR1.2.2.2.2.2.1 | exact (oR1.2.2.2.2.2.1).symm | exact oR1.2.2.2.2.2.2.1 | exact (oR1.2.2.2.2.2.2.1).symm | exact oR1.2.2.2.2.2.2.2.1 | exact (oR1.2.2.2.2.2.2.2.1).symm | exact oR1.2.2.2.2.2.2.2.2.1 | exact (oR1.2.2.2.2.2.2.2.2.1).symm | exact oR1.2.2.2.2.2.2.2.2.2.1 | exact (oR1.2.2.2.2.2.2.2.2.2.1).symm | exact oR1.2.2.2.2.2.2.2.2.2.2.1 | exact (oR1.2.2.2.2.2.2.2.2.2.2.1).symm | exact oR1.2.2.2.2.2.2.2.2.2.2.2.1 | exact (oR1.2.2.2.2.2.2.2.2.2.2.2.1).symm | exact oR1.2.2.2.2.2.2.2.2.2.2.2.2.1 | exact (oR1.2.2.2.2.2.2.2.2.2.2.2.2.1).symm | exact oR1.2.2.2.2.2.2.2.2.2.2.2.2.2.1 | exact (oR1.2.2.2.2.2.2.2.2.2.2.2.2.2.1).symm | exact oR1.2.2.2.2.2.2.2.2.2.2.2.2.2.2.1 | exact (oR1.2.2.2.2.2.2.2.2.2.2.2.2.2.2.1).symm | exact oG.1 | exact (oG.1).symm | exact oG.2.1 | exact (oG.2.1).symm | exact oG.2.2.1 | exact (oG.2.2.1).symm | exact oG.2.2.2.1 | exact (oG.2.2.2.1).symm | exact oG.2.2.2.2.1 | exact (oG.2.2.2.2.1).symm | exact oG.2.2.2.2.2.1 | exact (oG.2.2.2.2.2.1).symm | exact oG.2.2.2.2.2.2.1 | exact (oG.2.2.2.2.2.2.1).symm | exact oG.2.2.2.2.2.2.2.1 | exact (oG.2.2.2.2.2.2.2.1).symm | exact oG.2.2.2.2.2.2.2.2.1 | exact (oG.2.2.2.2.2.2.2.2.1).symm | exact oG.2.2.2.2.2.2.2.2.2.1 | exact (oG.2.2.2.2.2.2.2.2.2.1).symm | exact oG.2.2.2.2.2.2.2.2.2.2.1 | exact (oG.2.2.2.2.2.2.2.2.2.2.1).symm | exact oG.2.2.2.2.2.2.2.2.2.2.2.1 | exact (oG.2.2.2.2.2.2.2.2.2.2.2.1).symm | exact oG.2.2.2.2.2.2.2.2.2.2.2.2.1 | exact (oG.2.2.2.2.2.2.2.2.2.2.2.2.1).symm | exact oG.2.2.2.2.2.2.2.2.2.2.2.2.2.1 | exact (oG.2.2.2.2.2.2.2.2.2.2.2.2.2.1).symm | exact Nat.ne_of_lt hC.1.1 | exact Nat.ne_of_gt hC.1.1 | exact Nat.ne_of_lt hC.1.2.1 | exact Nat.ne_of_gt hC.1.2.1 | exact Nat.ne_of_lt hC.1.2.2.1 | exact Nat.ne_of_gt hC.1.2.2.1 | exact Nat.ne_of_lt hC.1.2.2.2.1 | exact Nat.ne_of_gt hC.1.2.2.2.1 | exact Nat.ne_of_lt hC.1.2.2.2.2.1 | exact Nat.ne_of_gt hC.1.2.2.2.2.1 | exact Nat.ne_of_lt hC.2.1.1 | exact Nat.ne_of_gt hC.2.1.1 | exact Nat.ne_of_lt hC.2.1.2.1 | exact Nat.ne_of_gt hC.2.1.2.1 | exact Nat.ne_of_lt hC.2.1.2.2.1 | exact Nat.ne_of_gt hC.2.1.2.2.1 | exact Nat.ne_of_lt hC.2.1.2.2.2.1 | exact Nat.ne_of_gt hC.2.1.2.2.2.1 | exact Nat.ne_of_lt hC.2.2.1.1 | exact Nat.ne_of_gt hC.2.2.1.1 | exact Nat.ne_of_lt hC.2.2.1.2.1 | exact Nat.ne_of_gt hC.2.2.1.2.1 | exact Nat.ne_of_lt hC.2.2.1.2.2.1 | exact Nat.ne_of_gt hC.2.2.1.2.2.1 | exact Nat.ne_of_lt hC.2.2.2.1.1 | exact Nat.ne_of_gt hC.2.2.2.1.1 | exact Nat.ne_of_lt hC.2.2.2.1.2.1 | exact Nat.ne_of_gt hC.2.2.2.1.2.1 | exact Nat.ne_of_lt hC.2.2.2.2.1.1 | exact Nat.ne_of_gt hC.2.2.2.2.1.1 | (with_reducible first | exact Nat.ne_of_lt (by assumption) | exact Nat.ne_of_gt (by assumption) | fail "ne") | (with_reducible first | exact Nat.ne_of_gt (And.left (by assumption)) | exact Nat.ne_of_lt (And.left (by assumption)) | exact Nat.ne_of_gt (And.left (And.right (by assumption))) | exact Nat.ne_of_lt (And.left (And.right (by assumption))) | exact Nat.ne_of_gt (And.left (And.right (And.right (by assumption)))) | exact Nat.ne_of_lt (And.left (And.right (And.right (by assumption)))) | exact Nat.ne_of_gt (And.left (And.right (And.right (And.right (by assumption))))) | exact Nat.ne_of_lt (And.left (And.right (And.right (And.right (by assumption))))) | exact Nat.ne_of_gt (And.left (And.right (And.right (And.right (And.right (by assumption)))))) | exact Nat.ne_of_lt (And.left (And.right (And.right (And.right (And.right (by assumption)))))) | exact Nat.ne_of_gt (And.left (And.right (And.right (And.right (And.right (And.right (by assumption))))))) | exact Nat.ne_of_lt (And.left (And.right (And.right (And.right (And.right (And.right (by assumption))))))) | exact Nat.ne_of_gt (And.left (And.right (And.right (And.right (And.right (And.right (And.right (by assumption)))))))) | exact Nat.ne_of_lt (And.left (And.right (And.right (And.right (And.right (And.right (And.right (by assumption)))))))) | exact Nat.ne_of_gt (And.left (And.right (And.right (And.right (And.right (And.right (And.right (And.right (by assumption))))))))) | exact Nat.ne_of_lt (And.left (And.right (And.right (And.right (And.right (And.right (And.right (And.right (by assumption))))))))) | exact Nat.ne_of_gt (And.left (And.right (And.right (And.right (And.right (And.right (And.right (And.right (And.right (by assumption)))))))))) | exact Nat.ne_of_lt (And.left (And.right (And.right (And.right (And.right (And.right (And.right (And.right (And.right (by assumption)))))))))) | exact Nat.ne_of_gt (And.left (And.right (And.right (And.right (And.right (And.right (And.right (And.right (And.right (And.right (by assumption))))))))))) | exact Nat.ne_of_lt (And.left (And.right (And.right (And.right (And.right (And.right (And.right (And.right (And.right (And.right (by assumption))))))))))) | exact Nat.ne_of_gt (And.left (And.right (And.right (And.right (And.right (And.right (And.right (And.right (And.right (And.right (And.right (by assumption)))))))))))) | exact Nat.ne_of_lt (And.left (And.right (And.right (And.right (And.right (And.right (And.right (And.right (And.right (And.right (And.right (by assumption)))))))))))) | exact Nat.ne_of_gt (And.left (And.right (And.right (And.right (And.right (And.right (And.right (And.right (And.right (And.right (And.right (And.right (by assumption))))))))))))) | exact Nat.ne_of_lt (And.left (And.right (And.right (And.right (And.right (And.right (And.right (And.right (And.right (And.right (And.right (And.right (by assumption))))))))))))) | exact Nat.ne_of_gt (And.left (And.right (And.right (And.right (And.right (And.right (And.right (And.right (And.right (And.right (And.right (And.right (And.right (by assumption)))))))))))))) | exact Nat.ne_of_lt (And.left (And.right (And.right (And.right (And.right (And.right (And.right (And.right (And.right (And.right (And.right (And.right (And.right (by assumption)))))))))))))) | exact Nat.ne_of_gt (And.left (And.right (And.right (And.right (And.right (And.right (And.right (And.right (And.right (And.right (And.right (And.right (And.right (And.right (by assumption))))))))))))))) | exact Nat.ne_of_lt (And.left (And.right (And.right (And.right (And.right (And.right (And.right (And.right (And.right (And.right (And.right (And.right (And.right (And.right (by assumption))))))))))))))) | exact cne1 (And.left (by assumption)) | exact Ne.symm (cne1 (And.left (by assumption))) | exact cne2 (And.left (by assumption)) | exact Ne.symm (cne2 (And.left (by assumption))) | exact cne3 (And.left (by assumption)) | exact Ne.symm (cne3 (And.left (by assumption))) | exact cne4 (And.left (by assumption)) | exact Ne.symm (cne4 (And.left (by assumption))) | exact cne5 (And.left (by assumption)) | exact Ne.symm (cne5 (And.left (by assumption))) | exact cne6 (And.left (by assumption)) | exact Ne.symm (cne6 (And.left (by assumption))) | exact cne7 (And.left (by assumption)) | exact Ne.symm (cne7 (And.left (by assumption))) | exact cne1 (And.left (And.right (by assumption))) | exact Ne.symm (cne1 (And.left (And.right (by assumption)))) | exact cne2 (And.left (And.right (by assumption))) | exact Ne.symm (cne2 (And.left (And.right (by assumption)))) | exact cne3 (And.left (And.right (by assumption))) | exact Ne.symm (cne3 (And.left (And.right (by assumption)))) | exact cne4 (And.left (And.right (by assumption))) | exact Ne.symm (cne4 (And.left (And.right (by assumption)))) | exact cne5 (And.left (And.right (by assumption))) | exact Ne.symm (cne5 (And.left (And.right (by assumption)))) | exact cne6 (And.left (And.right (by assumption))) | exact Ne.symm (cne6 (And.left (And.right (by assumption)))) | exact cne7 (And.left (And.right (by assumption))) | exact Ne.symm (cne7 (And.left (And.right (by assumption)))) | exact cne1 (And.left (And.right (And.right (by assumption)))) | exact Ne.symm (cne1 (And.left (And.right (And.right (by assumption))))) | exact cne2 (And.left (And.right (And.right (by assumption)))) | exact Ne.symm (cne2 (And.left (And.right (And.right (by assumption))))) | exact cne3 (And.left (And.right (And.right (by assumption)))) | exact Ne.symm (cne3 (And.left (And.right (And.right (by assumption))))) | exact cne4 (And.left (And.right (And.right (by assumption)))) | exact Ne.symm (cne4 (And.left (And.right (And.right (by assumption))))) | exact cne5 (And.left (And.right (And.right (by assumption)))) | exact Ne.symm (cne5 (And.left (And.right (And.right (by assumption))))) | exact cne6 (And.left (And.right (And.right (by assumption)))) | exact Ne.symm (cne6 (And.left (And.right (And.right (by assumption))))) | exact cne7 (And.left (And.right (And.right (by assumption)))) | exact Ne.symm (cne7 (And.left (And.right (And.right (by assumption))))) | exact cne1 (And.left (And.right (And.right (And.right (by assumption))))) | exact Ne.symm (cne1 (And.left (And.right (And.right (And.right (by assumption)))))) | exact cne2 (And.left (And.right (And.right (And.right (by assumption))))) | exact Ne.symm (cne2 (And.left (And.right (And.right (And.right (by assumption)))))) | exact cne3 (And.left (And.right (And.right (And.right (by assumption))))) | exact Ne.symm (cne3 (And.left (And.right (And.right (And.right (by assumption)))))) | exact cne4 (And.left (And.right (And.right (And.right (by assumption))))) | exact Ne.symm (cne4 (And.left (And.right (And.right (And.right (by assumption)))))) | exact cne5 (And.left (And.right (And.right (And.right (by assumption))))) | exact Ne.symm (cne5 (And.left (And.right (And.right (And.right (by assumption)))))) | exact cne6 (And.left (And.right (And.right (And.right (by assumption))))) | exact Ne.symm (cne6 (And.left (And.right (And.right (And.right (by assumption)))))) | exact cne7 (And.left (And.right (And.right (And.right (by assumption))))) | exact Ne.symm (cne7 (And.left (And.right (And.right (And.right (by assumption)))))) | exact cne1 (And.left (And.right (And.right (And.right (And.right (by assumption)))))) | exact Ne.symm (cne1 (And.left (And.right (And.right (And.right (And.right (by assumption))))))) | exact cne2 (And.left (And.right (And.right (And.right (And.right (by assumption)))))) | exact Ne.symm (cne2 (And.left (And.right (And.right (And.right (And.right (by assumption))))))) | exact cne3 (And.left (And.right (And.right (And.right (And.right (by assumption)))))) | exact Ne.symm (cne3 (And.left (And.right (And.right (And.right (And.right (by assumption))))))) | exact cne4 (And.left (And.right (And.right (And.right (And.right (by assumption)))))) | exact Ne.symm (cne4 (And.left (And.right (And.right (And.right (And.right (by assumption))))))) | exact cne5 (And.left (And.right (And.right (And.right (And.right (by assumption)))))) | exact Ne.symm (cne5 (And.left (And.right (And.right (And.right (And.right (by assumption))))))) | exact cne6 (And.left (And.right (And.right (And.right (And.right (by assumption)))))) | exact Ne.symm (cne6 (And.left (And.right (And.right (And.right (And.right (by assumption))))))) | exact cne7 (And.left (And.right (And.right (And.right (And.right (by assumption)))))) | exact Ne.symm (cne7 (And.left (And.right (And.right (And.right (And.right (by assumption))))))) | exact cne1 (And.left (And.right (And.right (And.right (And.right (And.right (by assumption))))))) | exact Ne.symm (cne1 (And.left (And.right (And.right (And.right (And.right (And.right (by assumption)))))))) | exact cne2 (And.left (And.right (And.right (And.right (And.right (And.right (by assumption))))))) | exact Ne.symm (cne2 (And.left (And.right (And.right (And.right (And.right (And.right (by assumption)))))))) | exact cne3 (And.left (And.right (And.right (And.right (And.right (And.right (by assumption))))))) | exact Ne.symm (cne3 (And.left (And.right (And.right (And.right (And.right (And.right (by assumption)))))))) | exact cne4 (And.left (And.right (And.right (And.right (And.right (And.right (by assumption))))))) | exact Ne.symm (cne4 (And.left (And.right (And.right (And.right (And.right (And.right (by assumption)))))))) | exact cne5 (And.left (And.right (And.right (And.right (And.right (And.right (by assumption))))))) | exact Ne.symm (cne5 (And.left (And.right (And.right (And.right (And.right (And.right (by assumption)))))))) | exact cne6 (And.left (And.right (And.right (And.right (And.right (And.right (by assumption))))))) | exact Ne.symm (cne6 (And.left (And.right (And.right (And.right (And.right (And.right (by assumption)))))))) | exact cne7 (And.left (And.right (And.right (And.right (And.right (And.right (by assumption))))))) | exact Ne.symm (cne7 (And.left (And.right (And.right (And.right (And.right (And.right (by assumption)))))))) | exact cne1 (And.left (And.right (And.right (And.right (And.right (And.right (And.right (by assumption)))))))) | exact Ne.symm (cne1 (And.left (And.right (And.right (And.right (And.right (And.right (And.right (by assumption))))))))) | exact cne2 (And.left (And.right (And.right (And.right (And.right (And.right (And.right (by assumption)))))))) | exact Ne.symm (cne2 (And.left (And.right (And.right (And.right (And.right (And.right (And.right (by assumption))))))))) | exact cne3 (And.left (And.right (And.right (And.right (And.right (And.right (And.right (by assumption)))))))) | exact Ne.symm (cne3 (And.left (And.right (And.right (And.right (And.right (And.right (And.right (by assumption))))))))) | exact cne4 (And.left (And.right (And.right (And.right (And.right (And.right (And.right (by assumption)))))))) | exact Ne.symm (cne4 (And.left (And.right (And.right (And.right (And.right (And.right (And.right (by assumption))))))))) | exact cne5 (And.left (And.right (And.right (And.right (And.right (And.right (And.right (by assumption)))))))) | exact Ne.symm (cne5 (And.left (And.right (And.right (And.right (And.right (And.right (And.right (by assumption))))))))) | exact cne6 (And.left (And.right (And.right (And.right (And.right (And.right (And.right (by assumption)))))))) | exact Ne.symm (cne6 (And.left (And.right (And.right (And.right (And.right (And.right (And.right (by assumption))))))))) | exact cne7 (And.left (And.right (And.right (And.right (And.right (And.right (And.right (by assumption)))))))) | exact Ne.symm (cne7 (And.left (And.right (And.right (And.right (And.right (And.right (And.right (by assumption))))))))) | exact cne1 (And.left (And.right (And.right (And.right (And.right (And.right (And.right (And.right (by assumption))))))))) | exact Ne.symm (cne1 (And.left (And.right (And.right (And.right (And.right (And.right (And.right (And.right (by assumption)))))))))) | exact cne2 (And.left (And.right (And.right (And.right (And.right (And.right (And.right (And.right (by assumption))))))))) | exact Ne.symm (cne2 (And.left (And.right (And.right (And.right (And.right (And.right (And.right (And.right (by assumption)))))))))) | exact cne3 (And.left (And.right (And.right (And.right (And.right (And.right (And.right (And.right (by assumption))))))))) | exact Ne.symm (cne3 (And.left (And.right (And.right (And.right (And.right (And.right (And.right (And.right (by assumption)))))))))) | exact cne4 (And.left (And.right (And.right (And.right (And.right (And.right (And.right (And.right (by assumption))))))))) | exact Ne.symm (cne4 (And.left (And.right (And.right (And.right (And.right (And.right (And.right (And.right (by assumption)))))))))) | exact cne5 (And.left (And.right (And.right (And.right (And.right (And.right (And.right (And.right (by assumption))))))))) | exact Ne.symm (cne5 (And.left (And.right (And.right (And.right (And.right (And.right (And.right (And.right (by assumption)))))))))) | exact cne6 (And.left (And.right (And.right (And.right (And.right (And.right (And.right (And.right (by assumption))))))))) | exact Ne.symm (cne6 (And.left (And.right (And.right (And.right (And.right (And.right (And.right (And.right (by assumption)))))))))) | exact cne7 (And.left (And.right (And.right (And.right (And.right (And.right (And.right (And.right (by assumption))))))))) | exact Ne.symm (cne7 (And.left (And.right (And.right (And.right (And.right (And.right (And.right (And.right (by assumption)))))))))) | exact cne1 (And.left (And.right (And.right (And.right (And.right (And.right (And.right (And.right (And.right (by assumption)))))))))) | exact Ne.symm (cne1 (And.left (And.right (And.right (And.right (And.right (And.right (And.right (And.right (And.right (by assumption))))))))))) | exact cne2 (And.left (And.right (And.right (And.right (And.right (And.right (And.right (And.right (And.right (by assumption)))))))))) | exact Ne.symm (cne2 (And.left (And.right (And.right (And.right (And.right (And.right (And.right (And.right (And.right (by assumption))))))))))) | exact cne3 (And.left (And.right (And.right (And.right (And.right (And.right (And.right (And.right (And.right (by assumption)))))))))) | exact Ne.symm (cne3 (And.left (And.right (And.right (And.right (And.right (And.right (And.right (And.right (And.right (by assumption))))))))))) | exact cne4 (And.left (And.right (And.right (And.right (And.right (And.right (And.right (And.right (And.right (by assumption)))))))))) | exact Ne.symm (cne4 (And.left (And.right (And.right (And.right (And.right (And.right (And.right (And.right (And.right (by assumption))))))))))) | exact cne5 (And.left (And.right (And.right (And.right (And.right (And.right (And.right (And.right (And.right (by assumption)))))))))) | exact Ne.symm (cne5 (And.left (And.right (And.right (And.right (And.right (And.right (And.right (And.right (And.right (by assumption))))))))))) | exact cne6 (And.left (And.right (And.right (And.right (And.right (And.right (And.right (And.right (And.right (by assumption)))))))))) | exact Ne.symm (cne6 (And.left (And.right (And.right (And.right (And.right (And.right (And.right (And.right (And.right (by assumption))))))))))) | exact cne7 (And.left (And.right (And.right (And.right (And.right (And.right (And.right (And.right (And.right (by assumption)))))))))) | exact Ne.symm (cne7 (And.left (And.right (And.right (And.right (And.right (And.right (And.right (And.right (And.right (by assumption))))))))))) | exact cne1 (And.left (And.right (And.right (And.right (And.right (And.right (And.right (And.right (And.right (And.right (by assumption))))))))))) | exact Ne.symm (cne1 (And.left (And.right (And.right (And.right (And.right (And.right (And.right (And.right (And.right (And.right (by assumption)))))))))))) | exact cne2 (And.left (And.right (And.right (And.right (And.right (And.right (And.right (And.right (And.right (And.right (by assumption))))))))))) | exact Ne.symm (cne2 (And.left (And.right (And.right (And.right (And.right (And.right (And.right (And.right (And.right (And.right (by assumption)))))))))))) | exact cne3 (And.left (And.right (And.right (And.right (And.right (And.right (And.right (And.right (And.right (And.right (by assumption))))))))))) | exact Ne.symm (cne3 (And.left (And.right (And.right (And.right (And.right (And.right (And.right (And.right (And.right (And.right (by assumption)))))))))))) | exact cne4 (And.left (And.right (And.right (And.right (And.right (And.right (And.right (And.right (And.right (And.right (by assumption))))))))))) | exact Ne.symm (cne4 (And.left (And.right (And.right (And.right (And.right (And.right (And.right (And.right (And.right (And.right (by assumption)))))))))))) | exact cne5 (And.left (And.right (And.right (And.right (And.right (And.right (And.right (And.right (And.right (And.right (by assumption))))))))))) | exact Ne.symm (cne5 (And.left (And.right (And.right (And.right (And.right (And.right (And.right (And.right (And.right (And.right (by assumption)))))))))))) | exact cne6 (And.left (And.right (And.right (And.right (And.right (And.right (And.right (And.right (And.right (And.right (by assumption))))))))))) | exact Ne.symm (cne6 (And.left (And.right (And.right (And.right (And.right (And.right (And.right (And.right (And.right (And.right (by assumption)))))))))))) | exact cne7 (And.left (And.right (And.right (And.right (And.right (And.right (And.right (And.right (And.right (And.right (by assumption))))))))))) | exact Ne.symm (cne7 (And.left (And.right (And.right (And.right (And.right (And.right (And.right (And.right (And.right (And.right (by assumption)))))))))))) | fail "ne") | fail "ne")
            dsimp only
            iterate 2 walk1
            rename Fr _ _ _ _ => F9
            rename News _ _ _ _ => N9
            rename Obj => oR
            rename oR.data = _ => cR
            rename (0 < _) => htk9
            obtain ⟨m4, F3, g1, g2, g3, g4⟩ : ∃ m4 : Str → Option Value, Fr _ _ _ m4 ∧ m4 (Str.ofString "signs") = some (.ref lG) ∧ m4 (Str.ofString "aboves") = some (.ref lA) ∧ m4 (Str.ofString "whose") = some (.ref lW) ∧ m4 (Str.ofString "plain") = some (.ref lP) :=
              ⟨_, F9, by rw [if_pos rfl], by rw [if_neg (by decide)]; exact e2', by rw [if_neg (by decide)]; exact e3', by rw [if_neg (by decide)]; exact e4'⟩
            have N3 : News s1.heap s1.heap.objs.size _ ((lR, listOf rv.toArray rv.length) :: (lG, listOf sv.toArray sv.length) :: (lP, listOf ps kp) :: (lY, listOf ys ky) :: (lN, listOf ns kn) :: (lW, listOf ws kw) :: (lA, listOf as ka) :: cells7 s1.heap.objs.size o7 oR oT oY oN oC oW) := news_sub N9 (by
              intro p hp
              rcases List.mem_cons.mp hp with rfl | hp
              · exact .head _
              rcases List.mem_cons.mp hp with rfl | hp
              · exact .tail _ (.head _)
              refine .tail _ (.tail _ (.tail _ ?_))
              rcases List.mem_cons.mp hp with rfl | hp
              · exact .head _
              rcases List.mem_cons.mp hp with rfl | hp
              · exact .tail _ (.head _)
              rcases List.mem_cons.mp hp with rfl | hp
              · exact .tail _ (.tail _ (.head _))
              rcases List.mem_cons.mp hp with rfl | hp
              · exact .tail _ (.tail _ (.tail _ (.head _)))
              rcases List.mem_cons.mp hp with rfl | hp
              · exact .tail _ (.tail _ (.tail _ (.tail _ (.head _))))
              · exact .tail _ (.tail _ (.tail _ (.tail _ (.tail _ (.tail _ hp))))))
            try clear NR
            try clear N9
            try clear F9
            try clear F2
            try clear N2
            clear hpv hll e2' e3' e4' c6
            dsimp only
            k_with_none
            k_with "m1" => ((k_here; refine execs_cons_t (by first | exact Nat.succ_pos _ | assumption | (dsimp only; omega)) ?_))
            k_with "m2" => (first | (refine tnext_next ?_; intro tk9 htk9) | refine tnext_ret ?_ | refine tnext_brk ?_ | refine tnext_cont ?_)
            k_with "m19" => (first | refine postG_next ?_ | refine postG_cont ?_ | refine postG_ret ?_ | refine postG_brk ?_)
            k_with "m20" => ((k_here; (rename Fr _ _ _ _ => lF'); (with_unfolding_all refine' For_invVF lF' ?k1 ?k2 ?_; (case k1 => exact rfl); (case k2 => exact rfl); k_whole)))
            k_with "m21" => ((k_here; (rename Fr _ _ _ _ => F7); (rename News _ _ _ _ => N7); first | (with_unfolding_all refine range1_rows F7 N7 ?_; clear F7 N7; intro h7 tk7 t7 u7 v7 R7 F7 N7 K7; clear K7) | (with_unfolding_all refine range2_rows F7 N7 ?_; clear F7 N7; intro h7 tk7 t7 u7 v7 R7 F7 N7 K7; clear K7)))
            k_with "m22" => ((k_here; k_dflt (first | refine LCg.ListComp_U (F₀ := by assumption) (by with_unfolding_all rfl) (by decide) (by rfl) (by decide) (by rfl) ?_ | refine LCt.ListComp_T (F₀ := by assumption) (by with_unfolding_all rfl) (by decide) (by rfl) (by decide) (by rfl) ?_)))
            k_with "m23" => ((k_here; k_dflt (first | refine LCg.Assign_ListComp_U (F₀ := by assumption) rfl (by with_unfolding_all rfl) (by with_unfolding_all rfl) (by decide) (by rfl) (by decide) (by rfl) (by rfl) (by rfl) ?_)))
            k_with "m24" => ((k_here; k_dflt (refine Assign_C (by assumption) rfl (by with_unfolding_all rfl) (by with_unfolding_all rfl) (fun _ => by rfl) (fun _ => by rfl) (by rfl) (by decide) (by rfl) (by rfl) (by rfl) ?_)))
            have F3a := fr_know (x := Str.ofString "signs") F3 g1
            clear F3
            iterate 6 walk1
            rename Fr _ _ _ _ => F2
            rename News _ _ _ _ => N2
            refine LCg.CompSrc.ledger (by rfl) F2 N2 (k := kn) (its := ns) (by k_mem) (by rw [sizeLine_eq, ints_size b3, nuL_len]; omega) ?_
            intro g6
            refine rest_inv (fun i ys nw => nw = _ ∧ StrsAre ys (sg2L ds i)) ⟨rfl, .nil⟩ ?_ ?_
            · intro i yl nw v I6 oI6 C6 oC6 D6 m6 h6 tk6 E6 hi6 hJ6 hv6 hC6 hx6 F6 N6 off6 ne6
              obtain ⟨rfl, hys⟩ := hJ6
              rw [ints_size b3, nuL_len] at hi6
              obtain ⟨tn, rfl⟩ : ∃ t, v = .int (numS ds i) t := by
                obtain ⟨t, ht⟩ := ints_at b3 (k := i) 0 (by rw [nuL_len]; exact hi6)
                rw [show (nuL ds ds.length).getD i 0 = numS ds i by rw [List.getD_eq_getElem?_getD]; simp [nuL, hi6]] at ht
                have hv : ns.toList[i]? = some v := by simpa using hv6
                rw [ht] at hv
                exact ⟨t, (Option.some.inj hv).symm⟩
              have hnb := num_bd hdb i
              k_with "my call" => (refine' claim_use (signs_spec _ _ _ _ (numS ds i) _ hnb.1 hnb.2) ?k1 ?k2 ?k3 ?k4 ?k5 ?kK ?kn ?kd ?ku ?kt ?_; (case k1 => k_asm); (case k2 => k_asm); (case k3 => k_asm); (case k4 => k_asm); (case k5 => k_asm); (case kK => first | exact rfl | assumption); (case kn => exact fun _ h9 => nomatch h9); (case kd => ktr_room); (case ku => ktr_units); (case kt => first | exact Nat.zero_le _ | (dsimp only; omega)); intro r9 h9 tk9 R9 F9 N9; obtain ⟨t9, e9⟩ := R9; subst e9; (try dsimp only); (try k_fold))
              k_steps
              exact end_same off6 (by assumption) (by assumption) (.inr ⟨_, by k_mem, rfl, _, rfl⟩) ⟨rfl, strs_more hys (sg2L_more ds i)⟩
            · intro uv nw hJ6
              obtain ⟨rfl, huv⟩ := hJ6
              rw [ints_size b3, nuL_len] at huv
              unfold LCg.FinE
              intro lQ hQ tkQ FQ NQ oQ
              k_with "ne" => (refine neN ?_; (try dsimp only); first | (with_reducible first | assumption | (refine Ne.symm ?_; assumption)) | (with_reducible first | exact cd1 _ | exact (cd1 _).symm | exact cd2 _ | exact (cd2 _).symm | exact cd3 _ | exact (cd3 _).symm | exact cd4 _ | exact (cd4 _).symm | exact cd5 _ | exact (cd5 _).symm | exact cd6 _ | exact (cd6 _).symm) | (with_reducible first | exact cne7 hl1 | exact (cne7 hl1).symm | exact cne6 hl1 | exact (cne6 hl1).symm | exact cne5 hl1 | exact (cne5 hl1).symm | exact cne4 hl1 | exact (cne4 hl1).symm | exact cne3 hl1 | exact (cne3 hl1).symm | exact cne2 hl1 | exact (cne2 hl1).symm | exact cne1 hl1 | exact (cne1 hl1).symm | exact cne7 hA7 | exact (cne7 hA7).symm | exact cne6 hA7 | exact (cne6 hA7).symm | exact cne5 hA7 | exact (cne5 hA7).symm | exact cne4 hA7 | exact (cne4 hA7).symm | exact cne3 hA7 | exact (cne3 hA7).symm | exact cne2 hA7 | exact (cne2 hA7).symm | exact cne1 hA7 | exact (cne1 hA7).symm | exact cne7 hW7 | exact (cne7 hW7).symm | exact cne6 hW7 | exact (cne6 hW7).symm | exact cne5 hW7 | exact (cne5 hW7).symm | exact cne4 hW7 | exact (cne4 hW7).symm | exact cne3 hW7 | exact (cne3 hW7).symm | exact cne2 hW7 | exact (cne2 hW7).symm | exact cne1 hW7 | exact (cne1 hW7).symm | exact cne7 hN7 | exact (cne7 hN7).symm | exact cne6 hN7 | exact (cne6 hN7).symm | exact cne5 hN7 | exact (cne5 hN7).symm | exact cne4 hN7 | exact (cne4 hN7).symm | exact cne3 hN7 | exact (cne3 hN7).symm | exact cne2 hN7 | exact (cne2 hN7).symm | exact cne1 hN7 | exact (cne1 hN7).symm | exact cne7 hY7 | exact (cne7 hY7).symm | exact cne6 hY7 | exact (cne6 hY7).symm | exact cne5 hY7 | exact (cne5 hY7).symm | exact cne4 hY7 | exact (cne4 hY7).symm | exact cne3 hY7 | exact (cne3 hY7).symm | exact cne2 hY7 | exact (cne2 hY7).symm | exact cne1 hY7 | exact (cne1 hY7).symm | exact cne7 hP7 | exact (cne7 hP7).symm | exact cne6 hP7 | exact (cne6 hP7).symm | exact cne5 hP7 | exact (cne5 hP7).symm | exact cne4 hP7 | exact (cne4 hP7).symm | exact cne3 hP7 | exact (cne3 hP7).symm | exact cne2 hP7 | exact (cne2 hP7).symm | exact cne1 hP7 | exact (cne1 hP7).symm) | exact oQ.1 | exact (oQ.1).symm | exact oQ.2.1 | exact (oQ.2.1).symm | exact oQ.2.2.1 | exact (oQ.2.2.1).symm | exact oQ.2.2.2.1 | exact (oQ.2.2.2.1).symm | exact oQ.2.2.2.2.1 | exact (oQ.2.2.2.2.1).symm | exact oQ.2.2.2.2.2.1 | exact (oQ.2.2.2.2.2.1).symm | exact oQ.2.2.2.2.2.2.1 | exact (oQ.2.2.2.2.2.2.1).symm | exact oQ.2.2.2.2.2.2.2.1 | exact (oQ.2.2.2.2.2.2.2.1).symm | exact oQ.2.2.2.2.2.2.2.2.1 | exact (oQ.2.2.2.2.2.2.2.2.1).symm | exact oQ.2.2.2.2.2.2.2.2.2.1 | exact (oQ.2.2.2.2.2.2.2.2.2.1).symm | exact oQ.2.2.2.2.2.2.2.2.2.2.1 | exact (oQ.2.2.2.2.2.2.2.2.2.2.1).symm | exact oQ.2.2.2.2.2.2.2.2.2.2.2.1 | exact (oQ.2.2.2.2.2.2.2.2.2.2.2.1).symm | exact oQ.2.2.2.2.2.2.2.2.2.2.2.2.1 | exact (oQ.2.2.2.2.2.2.2.2.2.2.2.2.1).symm | exact oQ.2.2.2.2.2.2.2.2.2.2.2.2.2.1 | exact (oQ.2.2.2.2.2.2.2.2.2.2.2.2.2.1).symm | exact oQ.2.2.2.2.2.2.2.2.2.2.2.2.2.2.1 | exact (oQ.2.2.2.2.2.2.2.2.2.2.2.2.2.2.1).symm | exact Nat.ne_of_lt hC.1.1 | exact Nat.ne_of_gt hC.1.1 | exact Nat.ne_of_lt hC.1.2.1 | exact Nat.ne_of_gt hC.1.2.1 | exact Nat.ne_of_lt hC.1.2.2.1 | exact Nat.ne_of_gt hC.1.2.2.1 | exact Nat.ne_of_lt hC.1.2.2.2.1 | exact Nat.ne_of_gt hC.1.2.2.2.1 | exact Nat.ne_of_lt hC.1.2.2.2.2.1 | exact Nat.ne_of_gt hC.1.2.2.2.2.1 | exact Nat.ne_of_lt hC.2.1.1 | exact Nat.ne_of_gt hC.2.1.1 | exact Nat.ne_of_lt hC.2.1.2.1 | exact Nat.ne_of_gt hC.2.1.2.1 | exact Nat.ne_of_lt hC.2.1.2.2.1 | exact Nat.ne_of_gt hC.2.1.2.2.1 | exact Nat.ne_of_lt hC.2.1.2.2.2.1 | exact Nat.ne_of_gt hC.2.1.2.2.2.1 | exact Nat.ne_of_lt hC.2.2.1.1 | exact Nat.ne_of_gt hC.2.2.1.1 | exact Nat.ne_of_lt hC.2.2.1.2.1 | exact Nat.ne_of_gt hC.2.2.1.2.1 | exact Nat.ne_of_lt hC.2.2.1.2.2.1 | exact Nat.ne_of_gt hC.2.2.1.2.2.1 | exact Nat.ne_of_lt hC.2.2.2.1.1 | exact Nat.ne_of_gt hC.2.2.2.1.1 | exact Nat.ne_of_lt hC.2.2.2.1.2.1 | exact Nat.ne_of_gt hC.2.2.2.1.2.1 | exact Nat.ne_of_lt hC.2.2.2.2.1.1 | exact Nat.ne_of_gt hC.2.2.2.2.1.1 | (with_reducible first | exact Nat.ne_of_lt (by assumption) | exact Nat.ne_of_gt (by assumption) | fail "ne") | fail "ne")
              dsimp only
              k_with "my ne" => (rename News _ _ _ _ => N2; refine ne_strsK (vs := sv) (us := uv) ⟨_, (N2 _ (.tail _ (.tail _ (.head _)))).1, rfl, _, rfl⟩ hsv ⟨_, (N2 _ (.head _)).1, rfl, _, rfl⟩ huv ?ku (sg_same hdb _) (sg_ok hdb _) ?_; (case ku => ktr_units))
              iterate 4 walk1
              rename News _ _ _ _ => NQ
              replace NQ := News.tail' NQ
              rename Fr _ _ _ _ => FQ
              have FQ2 := fr_know (x := Str.ofString "plain") FQ (by rw [if_neg (by decide)]; exact g4)
              clear FQ
              iterate 13 walk1
              rename News _ _ _ _ => N5
              rename Fr _ _ _ _ => F5
              have hmP := (N5 (lP, listOf ps kp) (by k_mem)).1
              refine slice_list (items := ps) F5 N5 ⟨_, hmP, rfl, _, rfl⟩ (.int _ _) .none ?_ (hsz := by rw [sizeLine_eq, strs_size b5, pl_len]; omega)
              intro h5 F6 N6
              rw [slice_1] at N6
              dsimp only at N6 ⊢
              have hps := strs_drop b5
              have hpsl : (ps.toList.drop 1).length = ds.length := by rw [strs_len hps, List.length_drop, pl_len]; exact Nat.add_sub_cancel ds.length 1
              refine LCg.CompSrc.ledger (by rfl) F6 N6 (k := _) (its := (ps.toList.drop 1).toArray) (.head _) (by rw [sizeLine_eq, List.size_toArray, hpsl]; omega) ?_
              intro g7
              refine rest_inv (fun i ys nw => nw = _ ∧ StrsAre ys (spL ds wh ds.length i)) ⟨rfl, .nil⟩ ?_ ?_
              · intro i yl nw v I6 oI6 C6 oC6 D6 m6 h6 tk6 E6 hi6 hJ6 hv6 hC6 hx6 F8 N8 off6 ne6
                obtain ⟨rfl, hys⟩ := hJ6
                rw [List.size_toArray, hpsl] at hi6
                obtain ⟨tn, rfl⟩ : ∃ t, v = .str ((plL ds ds.length).getD (i + 1) (Str.ofString "")) t := by
                  obtain ⟨t, ht⟩ := strs_at b5 (k := i + 1) (Str.ofString "") (by rw [pl_len]; omega)
                  have hv : ps.toList[i + 1]? = some v := by
                    have : (ps.toList.drop 1)[i]? = some v := by simpa using hv6
                    rw [List.getElem?_drop, Nat.add_comm] at this
                    exact this
                  rw [ht] at hv
                  exact ⟨t, (Option.some.inj hv).symm⟩
                have hx20 : ((plL ds ds.length).getD (i + 1) (Str.ofString "")).length ≤ 20 := by
                  rcases getD_mem_or (plL ds ds.length) (i + 1) (Str.ofString "") with h | h
                  · have := pl_bd ds ds.length _ h; omega
                  · rw [h]; decide
                k_with "my call" => (refine' claim_use (spelled_spec _ _ _ _ wh _ ((plL ds ds.length).getD (i + 1) (Str.ofString "")) _ hx20) ?k1 ?k2 ?k3 ?k4 ?k5 ?kK ?kn ?kd ?ku ?kt ?_; (case k1 => k_asm); (case k2 => k_asm); (case k3 => k_asm); (case k4 => k_asm); (case k5 => k_asm); (case kK => first | exact rfl | assumption); (case kn => exact fun _ h9 => nomatch h9); (case kd => ktr_room); (case ku => ktr_units); (case kt => first | exact Nat.zero_le _ | (dsimp only; omega)); intro r9 h9 tk9 R9 F9 N9; obtain ⟨t9, e9⟩ := R9; subst e9; (try dsimp only); (try k_fold))
                k_steps
                exact end_same off6 (by assumption) (by assumption) (.inr ⟨_, .head _, rfl, _, rfl⟩) ⟨rfl, strs_more hys (spL_more ds wh ds.length i)⟩
              · intro uv2 nw hJ6
                obtain ⟨rfl, huv2⟩ := hJ6
                rw [List.size_toArray, hpsl] at huv2
                unfold LCg.FinE
                intro lQ2 hQ2 tkQ2 FQ2 NQ2 oQ2
                clear oQ2
                dsimp only
                k_with "my ne" => (rename News _ _ _ _ => N2; refine ne_strsK (vs := rv) (us := uv2) ⟨_, (N2 _ (.tail _ (.tail _ (.head _)))).1, rfl, _, rfl⟩ hrv ⟨_, (N2 _ (.head _)).1, rfl, _, rfl⟩ huv2 ?ku (wr_same hn6) (wr_ok ds wh hn6 _) ?_; (case ku => ktr_units))
                iterate 5 walk1
                rename News _ _ _ _ => NQ
                replace NQ := News.tail' (News.tail' NQ)
                rename (0 < _) => htk9
                rename Fr _ _ _ _ => FZ
                obtain ⟨m5, F3, k1, k2, k3, k4⟩ : ∃ m5 : Str → Option Value, Fr _ _ _ m5 ∧ m5 (Str.ofString "signs") = some (.ref lG) ∧ m5 (Str.ofString "aboves") = some (.ref lA) ∧ m5 (Str.ofString "whose") = some (.ref lW) ∧ m5 (Str.ofString "plain") = some (.ref lP) :=
                  ⟨_, FZ, by rw [if_neg (by decide), if_pos rfl], by rw [if_neg (by decide), if_neg (by decide)]; exact g2, by rw [if_neg (by decide), if_neg (by decide)]; exact g3, by rw [if_pos rfl]⟩
                clear FZ g1 g2 g3 g4 huv huv2 b3 b4 hps hpsl
                try clear N3
                try clear N2
                try clear F2
                try clear FQ2
                try dsimp only
                k_with_none
                k_with "m1" => ((k_here; refine execs_cons_t (by first | exact Nat.succ_pos _ | assumption | (dsimp only; omega)) ?_))
                k_with "m2" => (first | (refine tnext_next ?_; intro tk9 htk9) | refine tnext_ret ?_ | refine tnext_brk ?_ | refine tnext_cont ?_)
                k_with "m19" => (first | refine postG_next ?_ | refine postG_cont ?_ | refine postG_ret ?_ | refine postG_brk ?_)
                k_with "m20" => ((k_here; (rename Fr _ _ _ _ => lF'); (with_unfolding_all refine' For_invVF lF' ?k1 ?k2 ?_; (case k1 => exact rfl); (case k2 => exact rfl); k_whole)))
                k_with "m21" => ((k_here; (rename Fr _ _ _ _ => F7); (rename News _ _ _ _ => N7); first | (with_unfolding_all refine range1_rows F7 N7 ?_; clear F7 N7; intro h7 tk7 t7 u7 v7 R7 F7 N7 K7; clear K7) | (with_unfolding_all refine range2_rows F7 N7 ?_; clear F7 N7; intro h7 tk7 t7 u7 v7 R7 F7 N7 K7; clear K7)))
                k_with "m22" => ((k_here; k_dflt (first | refine LCg.ListComp_U (F₀ := by assumption) (by with_unfolding_all rfl) (by decide) (by rfl) (by decide) (by rfl) ?_ | refine LCt.ListComp_T (F₀ := by assumption) (by with_unfolding_all rfl) (by decide) (by rfl) (by decide) (by rfl) ?_)))
                k_with "m23" => ((k_here; k_dflt (first | refine LCg.Assign_ListComp_U (F₀ := by assumption) rfl (by with_unfolding_all rfl) (by with_unfolding_all rfl) (by decide) (by rfl) (by decide) (by rfl) (by rfl) (by rfl) ?_)))
                k_with "m24" => ((k_here; k_dflt (refine Assign_C (by assumption) rfl (by with_unfolding_all rfl) (by with_unfolding_all rfl) (fun _ => by rfl) (fun _ => by rfl) (by rfl) (by decide) (by rfl) (by rfl) (by rfl) ?_)))
                refine stage (GJ ((lR, listOf rv.toArray rv.length) :: (lG, listOf sv.toArray sv.length) :: (lP, listOf ps kp) :: (lY, listOf ys ky) :: (lN, listOf ns kn) :: (lW, listOf ws kw) :: (lA, listOf as ka) :: cells7 s1.heap.objs.size o7 oR oT oY oN oC oW) lG lA lW lP 0) F3 htk9 ?_ ?_
                · iterate 8 walk1
                  rename Fr _ _ _ _ => F1
                  rename News _ _ _ _ => N1
                  rename IsRange _ _ _ _ _ _ _ _ => R1
                  refine rangeInv (GJ ((lR, listOf rv.toArray rv.length) :: (lG, listOf sv.toArray sv.length) :: (lP, listOf ps kp) :: (lY, listOf ys ky) :: (lN, listOf ns kn) :: (lW, listOf ws kw) :: (lA, listOf as ka) :: cells7 s1.heap.objs.size o7 oR oT oY oN oC oW) lG lA lW lP) rfl R1 (range_up _ hn6).1 (range_up _ hn6).2 F1 N1 ⟨rfl, k1, k2, k3, k4⟩ ?_ ?_
                  · clear F1 N1 R1
                    intro i ti m₁ nx h3 tk3 I3 oI3 hi hJ hoff F3 N3
                    obtain ⟨rfl, q1, q2, q3, q4⟩ := hJ
                    rw [show (0 : Int) + (i : Int) * 1 = (i : Int) from a_one i] at F3
                    have F3a := fr_know (x := Str.ofString "aboves") F3 (by rw [if_neg (by decide)]; exact q2)
                    have F3b := fr_know (x := Str.ofString "plain") F3a (by rw [if_neg (by decide), if_neg (by decide)]; exact q4)
                    clear F3 F3a
                    obtain ⟨tw9, hwk⟩ : ∃ t, rv[(i : Int).toNat]? = some (.str (wrS ds wh i) t) := by
                      rw [← wrL_get hi (Str.ofString "")]
                      exact strs_at hrv _ (by simp [wrL, hi])
                    obtain ⟨ta9, hak⟩ : ∃ t, as.toList[(i : Int).toNat]? = some (.int (abvS ds i) t) := by
                      rw [← abL_get hi]
                      exact ints_at b1 _ (by rw [abL_len]; exact hi)
                    have hab := abv_bd ds i
                    obtain ⟨tp9, hpk⟩ : ∃ t, ps.toList[(abvS ds i).toNat]? = some (.str ((plL ds ds.length).getD (abvS ds i).toNat (Str.ofString "")) t) := strs_at b5 _ (by rw [pl_len]; exact a_abv hab hi)
                    have hwl : (wrS ds wh i).length ≤ 200 := Nat.le_trans (wr_len hn6 i) (by omega)
                    have hx20 : ((plL ds ds.length).getD (abvS ds i).toNat (Str.ofString "")).length ≤ 20 := by
                      rcases getD_mem_or (plL ds ds.length) (abvS ds i).toNat (Str.ofString "") with h | h
                      · have := pl_bd ds ds.length _ h; omega
                      · rw [h]; decide
                    have hdl := dir_law (wh := wh) hdb hn6 hi
                    k_with "my sub" => (rename News _ _ _ _ => N2; first
                      | ((with_reducible show wpAny _ _ (subscriptTail _ _ (Value.ref lR) _) _ _ _); refine item_news (l := lR) N2 (by k_mem) (by first | (with_reducible first | exact a_nn _ | exact a_nn0 _ | exact a_nn1 _ | exact a_nn41 _ | exact a_nn43 _) | omega) (by first | (with_reducible first | exact a_lt (by assumption) hn6 | exact a_lt0 (by assumption) hn6 | exact a_lt1 (by assumption) hn6 | exact a_lt41 (by assumption) hn6 | exact a_lt43 (by assumption) hn6 | fail "no") | omega) hwk ?_)
                      | ((with_reducible show wpAny _ _ (subscriptTail _ _ (Value.ref lA) _) _ _ _); refine item_news (l := lA) N2 (by k_mem) (by first | (with_reducible first | exact a_nn _ | exact a_nn0 _ | exact a_nn1 _ | exact a_nn41 _ | exact a_nn43 _) | omega) (by first | (with_reducible first | exact a_lt (by assumption) hn6 | exact a_lt0 (by assumption) hn6 | exact a_lt1 (by assumption) hn6 | exact a_lt41 (by assumption) hn6 | exact a_lt43 (by assumption) hn6 | fail "no") | omega) hak ?_)
                      | ((with_reducible show wpAny _ _ (subscriptTail _ _ (Value.ref lP) _) _ _ _); refine item_news (l := lP) N2 (by k_mem) (by first | (with_reducible first | exact a_nn _ | exact a_nn0 _ | exact a_nn1 _ | exact a_nn41 _ | exact a_nn43 _) | omega) (by first | (with_reducible first | exact a_lt (by assumption) hn6 | exact a_lt0 (by assumption) hn6 | exact a_lt1 (by assumption) hn6 | exact a_lt41 (by assumption) hn6 | exact a_lt43 (by assumption) hn6 | fail "no") | omega) hpk ?_))
                    k_with "my call" => ((first | (with_reducible show wpAny _ _ (call _ [_]) _ _ _); refine' claim_use (dirname_spec _ _ _ _ (wrS ds wh i) _ hwl) ?k1 ?k2 ?k3 ?k4 ?k5 ?kK ?kn ?kd ?ku ?kt ?_ | (with_reducible show wpAny _ _ (call _ [_, _]) _ _ _); refine' claim_use (spelled_spec _ _ _ _ wh _ ((plL ds ds.length).getD (abvS ds i).toNat (Str.ofString "")) _ hx20) ?k1 ?k2 ?k3 ?k4 ?k5 ?kK ?kn ?kd ?ku ?kt ?_); (case k1 => k_asm); (case k2 => k_asm); (case k3 => k_asm); (case k4 => k_asm); (case k5 => k_asm); (case kK => first | exact rfl | assumption); (case kn => exact fun _ h9 => nomatch h9); (case kd => ktr_room); (case ku => ktr_units); (case kt => first | exact Nat.zero_le _ | (dsimp only; omega)); intro r9 h9 tk9 R9 F9 N9; obtain ⟨t9, e9⟩ := R9; subst e9; (try dsimp only); (try k_fold))
                    k_steps
                    all_goals (rename News _ _ _ _ => NZ; rename Fr _ _ _ _ => FZ; exact ⟨_, _, _, _, rfl, FZ, NZ, hoff, rfl, q1, rfl, q3, rfl⟩)
                  · clear F1 N1 R1
                    intro m₁ nx h3 tk3 hJ F3 N3
                    exact ⟨_, _, _, _, rfl, F3, N3, hJ⟩
                · clear F3 k1 k2 k3 k4
                  try clear NQ
                  try clear N6
                  try clear N5
                  try clear F5
                  try clear F6
                  intro h2 tk2 m2 nx2 htk F1 N1 hJ0
                  obtain ⟨rfl, k1, k2, k3, k4⟩ := hJ0
                  try dsimp only
                  k_with_none
                  k_with "m1" => ((k_here; refine execs_cons_t (by first | exact Nat.succ_pos _ | assumption | (dsimp only; omega)) ?_))
                  k_with "m2" => (first | (refine tnext_next ?_; intro tk9 htk9) | refine tnext_ret ?_ | refine tnext_brk ?_ | refine tnext_cont ?_)
                  k_with "m19" => (first | refine postG_next ?_ | refine postG_cont ?_ | refine postG_ret ?_ | refine postG_brk ?_)
                  k_with "m20" => ((k_here; (rename Fr _ _ _ _ => lF'); (with_unfolding_all refine' For_invVF lF' ?k1 ?k2 ?_; (case k1 => exact rfl); (case k2 => exact rfl); k_whole)))
                  k_with "m21" => ((k_here; (rename Fr _ _ _ _ => F7); (rename News _ _ _ _ => N7); first | (with_unfolding_all refine range1_rows F7 N7 ?_; clear F7 N7; intro h7 tk7 t7 u7 v7 R7 F7 N7 K7; clear K7) | (with_unfolding_all refine range2_rows F7 N7 ?_; clear F7 N7; intro h7 tk7 t7 u7 v7 R7 F7 N7 K7; clear K7)))
                  k_with "m22" => ((k_here; k_dflt (first | refine LCg.ListComp_U (F₀ := by assumption) (by with_unfolding_all rfl) (by decide) (by rfl) (by decide) (by rfl) ?_ | refine LCt.ListComp_T (F₀ := by assumption) (by with_unfolding_all rfl) (by decide) (by rfl) (by decide) (by rfl) ?_)))
                  k_with "m23" => ((k_here; k_dflt (first | refine LCg.Assign_ListComp_U (F₀ := by assumption) rfl (by with_unfolding_all rfl) (by with_unfolding_all rfl) (by decide) (by rfl) (by decide) (by rfl) (by rfl) (by rfl) ?_)))
                  k_with "m24" => ((k_here; k_dflt (refine Assign_C (by assumption) rfl (by with_unfolding_all rfl) (by with_unfolding_all rfl) (fun _ => by rfl) (fun _ => by rfl) (by rfl) (by decide) (by rfl) (by rfl) (by rfl) ?_)))
                  have F1a := fr_know (x := Str.ofString "signs") F1 k1
                  clear F1
                  iterate 3 walk1
                  rename Fr _ _ _ _ => F2
                  rename News _ _ _ _ => N2
                  have hsl : sv.length = ds.length := by rw [strs_len hsv]; simp [sgL]
                  refine LCg.CompSrc.ledger (by rfl) F2 N2 (k := sv.length) (its := sv.toArray) (by k_mem) (by rw [sizeLine_eq, List.size_toArray, hsl]; omega) ?_
                  intro g6
                  refine rest_inv (fun i ys nw => nw = _ ∧ IntsAre ys (cuL ds i)) ⟨rfl, .nil⟩ ?_ ?_
                  · intro i yl nw v I6 oI6 C6 oC6 D6 m6 h6 tk6 E6 hi6 hJ6 hv6 hC6 hx6 F6 N6 off6 ne6
                    obtain ⟨rfl, hys⟩ := hJ6
                    rw [List.size_toArray, hsl] at hi6
                    obtain ⟨tn, rfl⟩ : ∃ t, v = .str (fmS (numS ds i)) t := by
                      obtain ⟨t, ht⟩ := strs_at hsv (k := i) (Str.ofString "") (by simp [sgL, hi6])
                      rw [sgL_get hi6] at ht
                      have hv : sv[i]? = some v := by simpa using hv6
                      rw [ht] at hv
                      exact ⟨t, (Option.some.inj hv).symm⟩
                    have hl10 := fm_len10 (numS ds i)
                    k_with "my sub" => (refine item_str (by decide) (by omega) (by omega) ?_; intro l8)
                    k_steps
                    · exact end_same off6 (by assumption) (by assumption) (.inr ⟨_, by k_mem, rfl, _, rfl⟩) ⟨rfl, ints_more hys ((cuL_more ds i).trans (by rw [cut_w0 (by assumption)]))⟩
                    · exact end_same off6 (by assumption) (by assumption) (.inr ⟨_, by k_mem, rfl, _, rfl⟩) ⟨rfl, ints_more hys ((cuL_more ds i).trans (by rw [cut_w1 (by assumption) (by assumption)]))⟩
                    · exact end_same off6 (by assumption) (by assumption) (.inr ⟨_, by k_mem, rfl, _, rfl⟩) ⟨rfl, ints_more hys ((cuL_more ds i).trans (by rw [cut_w2 (by assumption) (by assumption)]))⟩
                  · intro uv nw hJ6
                    obtain ⟨rfl, huv⟩ := hJ6
                    rw [List.size_toArray, hsl] at huv
                    unfold LCg.FinA
                    intro lC hC tkC FC NC oC1
                    k_with "ne" => (refine neN ?_; (try dsimp only); first | (with_reducible first | assumption | (refine Ne.symm ?_; assumption)) | (with_reducible first | exact cd1 _ | exact (cd1 _).symm | exact cd2 _ | exact (cd2 _).symm | exact cd3 _ | exact (cd3 _).symm | exact cd4 _ | exact (cd4 _).symm | exact cd5 _ | exact (cd5 _).symm | exact cd6 _ | exact (cd6 _).symm) | (with_reducible first | exact cne7 hl1 | exact (cne7 hl1).symm | exact cne6 hl1 | exact (cne6 hl1).symm | exact cne5 hl1 | exact (cne5 hl1).symm | exact cne4 hl1 | exact (cne4 hl1).symm | exact cne3 hl1 | exact (cne3 hl1).symm | exact cne2 hl1 | exact (cne2 hl1).symm | exact cne1 hl1 | exact (cne1 hl1).symm | exact cne7 hA7 | exact (cne7 hA7).symm | exact cne6 hA7 | exact (cne6 hA7).symm | exact cne5 hA7 | exact (cne5 hA7).symm | exact cne4 hA7 | exact (cne4 hA7).symm | exact cne3 hA7 | exact (cne3 hA7).symm | exact cne2 hA7 | exact (cne2 hA7).symm | exact cne1 hA7 | exact (cne1 hA7).symm | exact cne7 hW7 | exact (cne7 hW7).symm | exact cne6 hW7 | exact (cne6 hW7).symm | exact cne5 hW7 | exact (cne5 hW7).symm | exact cne4 hW7 | exact (cne4 hW7).symm | exact cne3 hW7 | exact (cne3 hW7).symm | exact cne2 hW7 | exact (cne2 hW7).symm | exact cne1 hW7 | exact (cne1 hW7).symm | exact cne7 hN7 | exact (cne7 hN7).symm | exact cne6 hN7 | exact (cne6 hN7).symm | exact cne5 hN7 | exact (cne5 hN7).symm | exact cne4 hN7 | exact (cne4 hN7).symm | exact cne3 hN7 | exact (cne3 hN7).symm | exact cne2 hN7 | exact (cne2 hN7).symm | exact cne1 hN7 | exact (cne1 hN7).symm | exact cne7 hY7 | exact (cne7 hY7).symm | exact cne6 hY7 | exact (cne6 hY7).symm | exact cne5 hY7 | exact (cne5 hY7).symm | exact cne4 hY7 | exact (cne4 hY7).symm | exact cne3 hY7 | exact (cne3 hY7).symm | exact cne2 hY7 | exact (cne2 hY7).symm | exact cne1 hY7 | exact (cne1 hY7).symm | exact cne7 hP7 | exact (cne7 hP7).symm | exact cne6 hP7 | exact (cne6 hP7).symm | exact cne5 hP7 | exact (cne5 hP7).symm | exact cne4 hP7 | exact (cne4 hP7).symm | exact cne3 hP7 | exact (cne3 hP7).symm | exact cne2 hP7 | exact (cne2 hP7).symm | exact cne1 hP7 | exact (cne1 hP7).symm) | exact oC1.1 | exact (oC1.1).symm | exact oC1.2.1 | exact (oC1.2.1).symm | exact oC1.2.2.1 | exact (oC1.2.2.1).symm | exact oC1.2.2.2.1 | exact (oC1.2.2.2.1).symm | exact oC1.2.2.2.2.1 | exact (oC1.2.2.2.2.1).symm | exact oC1.2.2.2.2.2.1 | exact (oC1.2.2.2.2.2.1).symm | exact oC1.2.2.2.2.2.2.1 | exact (oC1.2.2.2.2.2.2.1).symm | exact oC1.2.2.2.2.2.2.2.1 | exact (oC1.2.2.2.2.2.2.2.1).symm | exact oC1.2.2.2.2.2.2.2.2.1 | exact (oC1.2.2.2.2.2.2.2.2.1).symm | exact oC1.2.2.2.2.2.2.2.2.2.1 | exact (oC1.2.2.2.2.2.2.2.2.2.1).symm | exact oC1.2.2.2.2.2.2.2.2.2.2.1 | exact (oC1.2.2.2.2.2.2.2.2.2.2.1).symm | exact oC1.2.2.2.2.2.2.2.2.2.2.2.1 | exact (oC1.2.2.2.2.2.2.2.2.2.2.2.1).symm | exact oC1.2.2.2.2.2.2.2.2.2.2.2.2.1 | exact (oC1.2.2.2.2.2.2.2.2.2.2.2.2.1).symm | exact oC1.2.2.2.2.2.2.2.2.2.2.2.2.2.1 | exact (oC1.2.2.2.2.2.2.2.2.2.2.2.2.2.1).symm | exact Nat.ne_of_lt hC.1.1 | exact Nat.ne_of_gt hC.1.1 | exact Nat.ne_of_lt hC.1.2.1 | exact Nat.ne_of_gt hC.1.2.1 | exact Nat.ne_of_lt hC.1.2.2.1 | exact Nat.ne_of_gt hC.1.2.2.1 | exact Nat.ne_of_lt hC.1.2.2.2.1 | exact Nat.ne_of_gt hC.1.2.2.2.1 | exact Nat.ne_of_lt hC.1.2.2.2.2.1 | exact Nat.ne_of_gt hC.1.2.2.2.2.1 | exact Nat.ne_of_lt hC.2.1.1 | exact Nat.ne_of_gt hC.2.1.1 | exact Nat.ne_of_lt hC.2.1.2.1 | exact Nat.ne_of_gt hC.2.1.2.1 | exact Nat.ne_of_lt hC.2.1.2.2.1 | exact Nat.ne_of_gt hC.2.1.2.2.1 | exact Nat.ne_of_lt hC.2.1.2.2.2.1 | exact Nat.ne_of_gt hC.2.1.2.2.2.1 | exact Nat.ne_of_lt hC.2.2.1.1 | exact Nat.ne_of_gt hC.2.2.1.1 | exact Nat.ne_of_lt hC.2.2.1.2.1 | exact Nat.ne_of_gt hC.2.2.1.2.1 | exact Nat.ne_of_lt hC.2.2.1.2.2.1 | exact Nat.ne_of_gt hC.2.2.1.2.2.1 | exact Nat.ne_of_lt hC.2.2.2.1.1 | exact Nat.ne_of_gt hC.2.2.2.1.1 | exact Nat.ne_of_lt hC.2.2.2.1.2.1 | exact Nat.ne_of_gt hC.2.2.2.1.2.1 | exact Nat.ne_of_lt hC.2.2.2.2.1.1 | exact Nat.ne_of_gt hC.2.2.2.2.1.1 | (with_reducible first | exact Nat.ne_of_lt (by assumption) | exact Nat.ne_of_gt (by assumption) | fail "ne") | fail "ne")
                    dsimp only
                    iterate 10 walk1
                    rename Fr _ _ _ _ => F7
                    rename News _ _ _ _ => N7
                    rename IsRange _ _ _ _ _ _ _ _ => R7
                    clear hsl
                    try clear N2
                    try clear F2
                    dsimp only
                    k_with_none
                    k_with "m1" => ((k_here; refine execs_cons_t (by first | exact Nat.succ_pos _ | assumption | (dsimp only; omega)) ?_))
                    k_with "m2" => (first | (refine tnext_next ?_; intro tk9 htk9) | refine tnext_ret ?_ | refine tnext_brk ?_ | refine tnext_cont ?_)
                    k_with "m19" => (first | refine postG_next ?_ | refine postG_cont ?_ | refine postG_ret ?_ | refine postG_brk ?_)
                    k_with "m20" => ((k_here; (rename Fr _ _ _ _ => lF'); (with_unfolding_all refine' For_invVF lF' ?k1 ?k2 ?_; (case k1 => exact rfl); (case k2 => exact rfl); k_whole)))
                    k_with "m21" => ((k_here; (rename Fr _ _ _ _ => F7); (rename News _ _ _ _ => N7); first | (with_unfolding_all refine range1_rows F7 N7 ?_; clear F7 N7; intro h7 tk7 t7 u7 v7 R7 F7 N7 K7; clear K7) | (with_unfolding_all refine range2_rows F7 N7 ?_; clear F7 N7; intro h7 tk7 t7 u7 v7 R7 F7 N7 K7; clear K7)))
                    k_with "m22" => ((k_here; k_dflt (first | refine LCg.ListComp_U (F₀ := by assumption) (by with_unfolding_all rfl) (by decide) (by rfl) (by decide) (by rfl) ?_ | refine LCt.ListComp_T (F₀ := by assumption) (by with_unfolding_all rfl) (by decide) (by rfl) (by decide) (by rfl) ?_)))
                    k_with "m23" => ((k_here; k_dflt (first | refine LCg.Assign_ListComp_U (F₀ := by assumption) rfl (by with_unfolding_all rfl) (by with_unfolding_all rfl) (by decide) (by rfl) (by decide) (by rfl) (by rfl) (by rfl) ?_)))
                    k_with "m24" => ((k_here; k_dflt (refine Assign_C (by assumption) rfl (by with_unfolding_all rfl) (by with_unfolding_all rfl) (fun _ => by rfl) (fun _ => by rfl) (by rfl) (by decide) (by rfl) (by rfl) (by rfl) ?_)))
                    refine ⟨_, _, _, _, _, _, ds.length, _, rfl, rfl, F7, N7, R7, (range_up _ hn6).1, (range_up _ hn6).2, by rw [sizeLine_eq]; omega, FaJ ds wh (s1.heap.objs.size + 1 + 1 + 1 + 1 + 1 + 1 + 1) (fun inner => (lC, listOf uv.toArray uv.length) :: (lR, listOf rv.toArray rv.length) :: (lG, listOf sv.toArray sv.length) :: (lP, listOf ps kp) :: (lY, listOf ys ky) :: (lN, listOf ns kn) :: (lW, listOf ws kw) :: (lA, listOf as ka) :: (s1.heap.objs.size + 1 + 1 + 1 + 1 + 1 + 1 + 1, o7) :: (s1.heap.objs.size + 1 + 1 + 1 + 1 + 1 + 1, oR) :: (s1.heap.objs.size + 1 + 1 + 1 + 1 + 1, oT) :: (s1.heap.objs.size + 1 + 1 + 1 + 1, oY) :: (s1.heap.objs.size + 1 + 1 + 1, oN) :: (s1.heap.objs.size + 1 + 1, oC) :: (s1.heap.objs.size + 1, oW) :: inner), ⟨[], rfl, rfl, fun k hk => absurd hk (Nat.not_lt_zero _), fun p hp => absurd hp List.not_mem_nil⟩, fun g6 => ?_, fun g6 fv nw hJ6 => ?_⟩
                    · intro i yl nw v I6 oI6 C6 oC6 D6 Y6 oY6 h6 tk6 E6 hi6 hJ6 hv6 hY6 F6 N6 off6 offY ne6 neY
                      obtain ⟨inner, rfl, hyl, hin, hig⟩ := hJ6
                      obtain ⟨tv, rfl⟩ := hv6
                      dsimp only at N6 off6 offY
                      k_here
                      refine LCt.ListComp_T (F₀ := F6) (closure_two rfl (a := Y6) (b := s1.heap.objs.size + 1 + 1 + 1 + 1 + 1 + 1) rfl rfl) (by decide) (by rfl) (by decide) (by rfl) ?_
                      iterate 7 walk1
                      rename Fr _ _ _ _ => F8
                      rename News _ _ _ _ => N8
                      rename IsRange _ _ _ _ _ _ _ _ => R8
                      have hwi : (wrS ds wh i).length ≤ 200 := Nat.le_trans (wr_len hn6 i) (by omega)
                      have hsi := wr_starts (wh := wh) hn6 hi6
                      obtain ⟨twi, hwki⟩ : ∃ t, rv[((0 : Int) + (i : Int)).toNat]? = some (.str (wrS ds wh i) t) := by
                        rw [show ((0 : Int) + (i : Int)).toNat = i from a_0i i, ← wrL_get hi6 (Str.ofString "")]
                        exact strs_at hrv _ (by simp [wrL, hi6])
                      refine LCt.CompSrcT.range (by rfl) F8 N8 R8 (range_up _ hn6).1 (range_up _ hn6).2 (by rw [sizeLine_eq]; omega) ?_
                      intro g7
                      refine restT_inv (fun q ys nw => nw = _ ∧ IntsAre ys (faTo ds wh i q)) ⟨rfl, .nil⟩ ?_ ?_
                      · intro j yl2 nw v I7 oI7 C7 oC7 D7 m7 h7 tk7 E7 hj7 hJ7 hv7 hC7 hx7 F9 N9 off7 ne7
                        obtain ⟨rfl, hys⟩ := hJ7
                        obtain ⟨tv7, rfl⟩ := hv7
                        have hwj : (wrS ds wh j).length ≤ 200 := Nat.le_trans (wr_len hn6 j) (by omega)
                        have hsj := wr_starts (wh := wh) hn6 hj7
                        obtain ⟨twj, hwkj⟩ : ∃ t, rv[((0 : Int) + (j : Int)).toNat]? = some (.str (wrS ds wh j) t) := by
                          rw [show ((0 : Int) + (j : Int)).toNat = j from a_0i j, ← wrL_get hj7 (Str.ofString "")]
                          exact strs_at hrv _ (by simp [wrL, hj7])
                        k_with "my sub" => (rename News _ _ _ _ => N2; first
                          | ((with_reducible show wpAny _ _ (subscriptTail _ _ (Value.ref lR) (Value.int (_ + (i : Int)) _)) _ _ _); refine item_news (l := lR) N2 (by k_mem) (by first | (with_reducible first | exact a_nn _ | exact a_nn0 _ | exact a_nn1 _ | exact a_nn41 _ | exact a_nn43 _) | omega) (by first | (with_reducible first | exact a_lt (by assumption) hn6 | exact a_lt0 (by assumption) hn6 | exact a_lt1 (by assumption) hn6 | exact a_lt41 (by assumption) hn6 | exact a_lt43 (by assumption) hn6 | fail "no") | omega) hwki ?_)
                          | ((with_reducible show wpAny _ _ (subscriptTail _ _ (Value.ref lR) (Value.int (_ + (j : Int)) _)) _ _ _); refine item_news (l := lR) N2 (by k_mem) (by first | (with_reducible first | exact a_nn _ | exact a_nn0 _ | exact a_nn1 _ | exact a_nn41 _ | exact a_nn43 _) | omega) (by first | (with_reducible first | exact a_lt (by assumption) hn6 | exact a_lt0 (by assumption) hn6 | exact a_lt1 (by assumption) hn6 | exact a_lt41 (by assumption) hn6 | exact a_lt43 (by assumption) hn6 | fail "no") | omega) hwkj ?_))
                        k_with "my call" => (refine' claim_use (common_spec _ _ _ _ _ (wrS ds wh i) (wrS ds wh j) _ _ _ hwi hwj hsi hsj) ?k1 ?k2 ?k3 ?k4 ?k5 ?kK ?kn ?kd ?ku ?kt ?_; (case k1 => k_asm); (case k2 => k_asm); (case k3 => k_asm); (case k4 => k_asm); (case k5 => k_asm); (case kK => first | exact rfl | assumption); (case kn => (intro p9 h9; rw [List.mem_singleton.mp h9]; exact .head _)); (case kd => ktr_room); (case ku => ktr_units); (case kt => first | exact Nat.zero_le _ | (dsimp only; omega)); intro r9 h9 tk9 R9 F9 N9; obtain ⟨t9, e9⟩ := R9; subst e9; (try dsimp only); (try k_fold))
                        k_steps
                        all_goals (rename News _ _ _ _ => NZ; rename Fr _ _ _ _ => FZ)
                        · rename (_ == _) = true => hcp
                          exact end_same off7 FZ (news_sub NZ (fun p hp => .tail _ hp)) trivial ⟨rfl, ints_more hys ((faTo_yes hcp).trans (by rw [Int.zero_add]))⟩
                        · rename (_ == _) = false => hcp
                          refine end_same off7 FZ (news_sub NZ (fun p hp => .tail _ hp)) trivial ⟨rfl, ?_⟩
                          rw [faTo_no hcp]
                          exact hys
                      · intro fz nw hJ7
                        obtain ⟨rfl, hfz⟩ := hJ7
                        unfold LCg.FinE
                        intro lS hS tkS FS NS oS1
                        exact endC_new (A := [(lC, listOf uv.toArray uv.length), (lR, listOf rv.toArray rv.length), (lG, listOf sv.toArray sv.length), (lP, listOf ps kp), (lY, listOf ys ky), (lN, listOf ns kn), (lW, listOf ws kw), (lA, listOf as ka), (s1.heap.objs.size + 1 + 1 + 1 + 1 + 1 + 1 + 1, o7), (s1.heap.objs.size + 1 + 1 + 1 + 1 + 1 + 1, oR), (s1.heap.objs.size + 1 + 1 + 1 + 1 + 1, oT), (s1.heap.objs.size + 1 + 1 + 1 + 1, oY), (s1.heap.objs.size + 1 + 1 + 1, oN), (s1.heap.objs.size + 1 + 1, oC), (s1.heap.objs.size + 1, oW)]) (fun _ => rfl) off6 offY FS NS oS1 (faJ_more hyl hin hig hfz (off1_mem oS1 (s1.heap.objs.size + 1 + 1 + 1 + 1 + 1 + 1 + 1, o7) (.tail _ (.tail _ (.tail _ (.tail _ (.tail _ (.tail _ (.tail _ (.tail _ (.tail _ (.tail _ (.tail _ (.tail _ (.head _)))))))))))))))
                    · obtain ⟨inner, rfl, hfl, hin, hig⟩ := hJ6
                      dsimp only
                      unfold LCg.FinA
                      intro lF hF tkF FF NF oF1
                      k_with "ne" => (refine neN ?_; (try dsimp only); first | (with_reducible first | assumption | (refine Ne.symm ?_; assumption)) | (with_reducible first | exact cd1 _ | exact (cd1 _).symm | exact cd2 _ | exact (cd2 _).symm | exact cd3 _ | exact (cd3 _).symm | exact cd4 _ | exact (cd4 _).symm | exact cd5 _ | exact (cd5 _).symm | exact cd6 _ | exact (cd6 _).symm) | (with_reducible first | exact cne7 hl1 | exact (cne7 hl1).symm | exact cne6 hl1 | exact (cne6 hl1).symm | exact cne5 hl1 | exact (cne5 hl1).symm | exact cne4 hl1 | exact (cne4 hl1).symm | exact cne3 hl1 | exact (cne3 hl1).symm | exact cne2 hl1 | exact (cne2 hl1).symm | exact cne1 hl1 | exact (cne1 hl1).symm | exact cne7 hA7 | exact (cne7 hA7).symm | exact cne6 hA7 | exact (cne6 hA7).symm | exact cne5 hA7 | exact (cne5 hA7).symm | exact cne4 hA7 | exact (cne4 hA7).symm | exact cne3 hA7 | exact (cne3 hA7).symm | exact cne2 hA7 | exact (cne2 hA7).symm | exact cne1 hA7 | exact (cne1 hA7).symm | exact cne7 hW7 | exact (cne7 hW7).symm | exact cne6 hW7 | exact (cne6 hW7).symm | exact cne5 hW7 | exact (cne5 hW7).symm | exact cne4 hW7 | exact (cne4 hW7).symm | exact cne3 hW7 | exact (cne3 hW7).symm | exact cne2 hW7 | exact (cne2 hW7).symm | exact cne1 hW7 | exact (cne1 hW7).symm | exact cne7 hN7 | exact (cne7 hN7).symm | exact cne6 hN7 | exact (cne6 hN7).symm | exact cne5 hN7 | exact (cne5 hN7).symm | exact cne4 hN7 | exact (cne4 hN7).symm | exact cne3 hN7 | exact (cne3 hN7).symm | exact cne2 hN7 | exact (cne2 hN7).symm | exact cne1 hN7 | exact (cne1 hN7).symm | exact cne7 hY7 | exact (cne7 hY7).symm | exact cne6 hY7 | exact (cne6 hY7).symm | exact cne5 hY7 | exact (cne5 hY7).symm | exact cne4 hY7 | exact (cne4 hY7).symm | exact cne3 hY7 | exact (cne3 hY7).symm | exact cne2 hY7 | exact (cne2 hY7).symm | exact cne1 hY7 | exact (cne1 hY7).symm | exact cne7 hP7 | exact (cne7 hP7).symm | exact cne6 hP7 | exact (cne6 hP7).symm | exact cne5 hP7 | exact (cne5 hP7).symm | exact cne4 hP7 | exact (cne4 hP7).symm | exact cne3 hP7 | exact (cne3 hP7).symm | exact cne2 hP7 | exact (cne2 hP7).symm | exact cne1 hP7 | exact (cne1 hP7).symm) | exact oF1.1 | exact (oF1.1).symm | exact oF1.2.1 | exact (oF1.2.1).symm | exact oF1.2.2.1 | exact (oF1.2.2.1).symm | exact oF1.2.2.2.1 | exact (oF1.2.2.2.1).symm | exact oF1.2.2.2.2.1 | exact (oF1.2.2.2.2.1).symm | exact oF1.2.2.2.2.2.1 | exact (oF1.2.2.2.2.2.1).symm | exact oF1.2.2.2.2.2.2.1 | exact (oF1.2.2.2.2.2.2.1).symm | exact oF1.2.2.2.2.2.2.2.1 | exact (oF1.2.2.2.2.2.2.2.1).symm | exact oF1.2.2.2.2.2.2.2.2.1 | exact (oF1.2.2.2.2.2.2.2.2.1).symm | exact oF1.2.2.2.2.2.2.2.2.2.1 | exact (oF1.2.2.2.2.2.2.2.2.2.1).symm | exact oF1.2.2.2.2.2.2.2.2.2.2.1 | exact (oF1.2.2.2.2.2.2.2.2.2.2.1).symm | exact oF1.2.2.2.2.2.2.2.2.2.2.2.1 | exact (oF1.2.2.2.2.2.2.2.2.2.2.2.1).symm | exact oF1.2.2.2.2.2.2.2.2.2.2.2.2.1 | exact (oF1.2.2.2.2.2.2.2.2.2.2.2.2.1).symm | exact oF1.2.2.2.2.2.2.2.2.2.2.2.2.2.1 | exact (oF1.2.2.2.2.2.2.2.2.2.2.2.2.2.1).symm | exact oF1.2.2.2.2.2.2.2.2.2.2.2.2.2.2.1 | exact (oF1.2.2.2.2.2.2.2.2.2.2.2.2.2.2.1).symm | exact oC1.1 | exact (oC1.1).symm | exact oC1.2.1 | exact (oC1.2.1).symm | exact oC1.2.2.1 | exact (oC1.2.2.1).symm | exact oC1.2.2.2.1 | exact (oC1.2.2.2.1).symm | exact oC1.2.2.2.2.1 | exact (oC1.2.2.2.2.1).symm | exact oC1.2.2.2.2.2.1 | exact (oC1.2.2.2.2.2.1).symm | exact oC1.2.2.2.2.2.2.1 | exact (oC1.2.2.2.2.2.2.1).symm | exact oC1.2.2.2.2.2.2.2.1 | exact (oC1.2.2.2.2.2.2.2.1).symm | exact oC1.2.2.2.2.2.2.2.2.1 | exact (oC1.2.2.2.2.2.2.2.2.1).symm | exact oC1.2.2.2.2.2.2.2.2.2.1 | exact (oC1.2.2.2.2.2.2.2.2.2.1).symm | exact oC1.2.2.2.2.2.2.2.2.2.2.1 | exact (oC1.2.2.2.2.2.2.2.2.2.2.1).symm | exact oC1.2.2.2.2.2.2.2.2.2.2.2.1 | exact (oC1.2.2.2.2.2.2.2.2.2.2.2.1).symm | exact oC1.2.2.2.2.2.2.2.2.2.2.2.2.1 | exact (oC1.2.2.2.2.2.2.2.2.2.2.2.2.1).symm | exact oC1.2.2.2.2.2.2.2.2.2.2.2.2.2.1 | exact (oC1.2.2.2.2.2.2.2.2.2.2.2.2.2.1).symm | exact Nat.ne_of_lt hC.1.1 | exact Nat.ne_of_gt hC.1.1 | exact Nat.ne_of_lt hC.1.2.1 | exact Nat.ne_of_gt hC.1.2.1 | exact Nat.ne_of_lt hC.1.2.2.1 | exact Nat.ne_of_gt hC.1.2.2.1 | exact Nat.ne_of_lt hC.1.2.2.2.1 | exact Nat.ne_of_gt hC.1.2.2.2.1 | exact Nat.ne_of_lt hC.1.2.2.2.2.1 | exact Nat.ne_of_gt hC.1.2.2.2.2.1 | exact Nat.ne_of_lt hC.2.1.1 | exact Nat.ne_of_gt hC.2.1.1 | exact Nat.ne_of_lt hC.2.1.2.1 | exact Nat.ne_of_gt hC.2.1.2.1 | exact Nat.ne_of_lt hC.2.1.2.2.1 | exact Nat.ne_of_gt hC.2.1.2.2.1 | exact Nat.ne_of_lt hC.2.1.2.2.2.1 | exact Nat.ne_of_gt hC.2.1.2.2.2.1 | exact Nat.ne_of_lt hC.2.2.1.1 | exact Nat.ne_of_gt hC.2.2.1.1 | exact Nat.ne_of_lt hC.2.2.1.2.1 | exact Nat.ne_of_gt hC.2.2.1.2.1 | exact Nat.ne_of_lt hC.2.2.1.2.2.1 | exact Nat.ne_of_gt hC.2.2.1.2.2.1 | exact Nat.ne_of_lt hC.2.2.2.1.1 | exact Nat.ne_of_gt hC.2.2.2.1.1 | exact Nat.ne_of_lt hC.2.2.2.1.2.1 | exact Nat.ne_of_gt hC.2.2.2.1.2.1 | exact Nat.ne_of_lt hC.2.2.2.2.1.1 | exact Nat.ne_of_gt hC.2.2.2.2.1.1 | (with_reducible first | exact Nat.ne_of_lt (by assumption) | exact Nat.ne_of_gt (by assumption) | fail "ne") | fail "ne")
                      dsimp only
                      iterate 1 walk1
                      rename (0 < _) => htk9
                      obtain ⟨m6, F6, q1, q2, q3, q4⟩ : ∃ m6 : Str → Option Value, Fr _ _ _ m6 ∧ m6 (Str.ofString "aboves") = some (.ref lA) ∧ m6 (Str.ofString "whose") = some (.ref lW) ∧ m6 (Str.ofString "cuts") = some (.ref lC) ∧ m6 (Str.ofString "falls") = some (.ref lF) :=
                        ⟨_, FF, k2, k3, rfl, rfl⟩
                      clear FF F7 N7 R7 k1 k2 k3 k4 hsv hrv b5
                      have NK : News s1.heap s1.heap.objs.size _ ((lF, listOf fv.toArray fv.length) :: (lC, listOf uv.toArray uv.length) :: (lW, listOf ws kw) :: (lA, listOf as ka) :: (s1.heap.objs.size + 1 + 1 + 1 + 1 + 1 + 1 + 1, o7) :: (s1.heap.objs.size + 1 + 1, oC) :: inner) := news_sub NF (by
                        intro p hp
                        rcases List.mem_cons.mp hp with rfl | hp
                        · exact .head _
                        rcases List.mem_cons.mp hp with rfl | hp
                        · exact .tail _ (.head _)
                        rcases List.mem_cons.mp hp with rfl | hp
                        · exact .tail _ (.tail _ (.tail _ (.tail _ (.tail _ (.tail _ (.tail _ (.head _)))))))
                        rcases List.mem_cons.mp hp with rfl | hp
                        · exact .tail _ (.tail _ (.tail _ (.tail _ (.tail _ (.tail _ (.tail _ (.tail _ (.head _))))))))
                        rcases List.mem_cons.mp hp with rfl | hp
                        · exact .tail _ (.tail _ (.tail _ (.tail _ (.tail _ (.tail _ (.tail _ (.tail _ (.tail _ (.head _)))))))))
                        rcases List.mem_cons.mp hp with rfl | hp
                        · exact .tail _ (.tail _ (.tail _ (.tail _ (.tail _ (.tail _ (.tail _ (.tail _ (.tail _ (.tail _ (.tail _ (.tail _ (.tail _ (.tail _ (.head _))))))))))))))
                        · exact .tail _ (.tail _ (.tail _ (.tail _ (.tail _ (.tail _ (.tail _ (.tail _ (.tail _ (.tail _ (.tail _ (.tail _ (.tail _ (.tail _ (.tail _ (.tail _ hp))))))))))))))))
                      clear NF
                      try dsimp only
                      k_with_none
                      k_with "m1" => ((k_here; refine execs_cons_t (by first | exact Nat.succ_pos _ | assumption | (dsimp only; omega)) ?_))
                      k_with "m2" => (first | (refine tnext_next ?_; intro tk9 htk9) | refine tnext_ret ?_ | refine tnext_brk ?_ | refine tnext_cont ?_)
                      k_with "m19" => (first | refine postG_next ?_ | refine postG_cont ?_ | refine postG_ret ?_ | refine postG_brk ?_)
                      k_with "m20" => ((k_here; (rename Fr _ _ _ _ => lF'); (with_unfolding_all refine' For_invVF lF' ?k1 ?k2 ?_; (case k1 => exact rfl); (case k2 => exact rfl); k_whole)))
                      k_with "m21" => ((k_here; (rename Fr _ _ _ _ => F7); (rename News _ _ _ _ => N7); first | (with_unfolding_all refine range1_rows F7 N7 ?_; clear F7 N7; intro h7 tk7 t7 u7 v7 R7 F7 N7 K7; clear K7) | (with_unfolding_all refine range2_rows F7 N7 ?_; clear F7 N7; intro h7 tk7 t7 u7 v7 R7 F7 N7 K7; clear K7)))
                      k_with "m22" => ((k_here; k_dflt (first | refine LCg.ListComp_U (F₀ := by assumption) (by with_unfolding_all rfl) (by decide) (by rfl) (by decide) (by rfl) ?_ | refine LCt.ListComp_T (F₀ := by assumption) (by with_unfolding_all rfl) (by decide) (by rfl) (by decide) (by rfl) ?_)))
                      k_with "m23" => ((k_here; k_dflt (first | refine LCg.Assign_ListComp_U (F₀ := by assumption) rfl (by with_unfolding_all rfl) (by with_unfolding_all rfl) (by decide) (by rfl) (by decide) (by rfl) (by rfl) (by rfl) ?_)))
                      k_with "m24" => ((k_here; k_dflt (refine Assign_C (by assumption) rfl (by with_unfolding_all rfl) (by with_unfolding_all rfl) (fun _ => by rfl) (fun _ => by rfl) (by rfl) (by decide) (by rfl) (by rfl) (by rfl) ?_)))
                      k_with "my list" => (rename Fr _ _ _ _ => F2; rename News _ _ _ _ => N2; rename IsRange _ _ _ _ _ _ _ _ => R2; refine list_rangeN (by rfl) F2 N2 R2 (range_up _ hn6).1 (range_up _ hn6).2 (by omega) ?_; clear F2 N2 R2; intro lE hE tkE ev ke FE NE lEl hev)
                      iterate 21 walk1
                      rename News _ _ _ _ => N1
                      rename Fr _ _ _ _ => F1
                      rename (0 < _) => htk
                      dsimp only
                      have hE7 : s1.heap.objs.size + 1 + 1 + 1 + 1 + 1 + 1 + 1 < lE := lEl _ (.tail _ (.tail _ (.tail _ (.tail _ (.head _)))))
                      have hKJ := kj_start (ds := ds) F1 N1 (by assumption) hE7 c7 hev hig q1 q2 q3 q4 rfl
                      clear F1 N1 q1 q2 q3 q4
                      obtain ⟨m7, nx7, lH, F1, N1, hH1, hH2, hH3, hH4, hH5, hH6, hKJ⟩ := hKJ
                      refine stage (KJ ds s1.heap.objs.size inner lH lF lC lW lA (listOf fv.toArray fv.length) (listOf uv.toArray uv.length) (listOf ws kw) (listOf as ka) oC ds.length) F1 htk ?_ ?_
                      · k_with_none
                        k_with "m1" => ((k_here; refine execs_cons_t (by first | exact Nat.succ_pos _ | assumption | (dsimp only; omega)) ?_))
                        k_with "m2" => (first | (refine tnext_next ?_; intro tk9 htk9) | refine tnext_ret ?_ | refine tnext_brk ?_ | refine tnext_cont ?_)
                        k_with "m19" => (first | refine postG_next ?_ | refine postG_cont ?_ | refine postG_ret ?_ | refine postG_brk ?_)
                        k_with "m20" => ((k_here; (rename Fr _ _ _ _ => lF'); (with_unfolding_all refine' For_invVF lF' ?k1 ?k2 ?_; (case k1 => exact rfl); (case k2 => exact rfl); k_whole)))
                        k_with "m21" => ((k_here; (rename Fr _ _ _ _ => F7); (rename News _ _ _ _ => N7); first | (with_unfolding_all refine range1_rows F7 N7 ?_; clear F7 N7; intro h7 tk7 t7 u7 v7 R7 F7 N7 K7; clear K7) | (with_unfolding_all refine range2_rows F7 N7 ?_; clear F7 N7; intro h7 tk7 t7 u7 v7 R7 F7 N7 K7; clear K7)))
                        k_with "m22" => ((k_here; k_dflt (first | refine LCg.ListComp_U (F₀ := by assumption) (by with_unfolding_all rfl) (by decide) (by rfl) (by decide) (by rfl) ?_ | refine LCt.ListComp_T (F₀ := by assumption) (by with_unfolding_all rfl) (by decide) (by rfl) (by decide) (by rfl) ?_)))
                        k_with "m23" => ((k_here; k_dflt (first | refine LCg.Assign_ListComp_U (F₀ := by assumption) rfl (by with_unfolding_all rfl) (by with_unfolding_all rfl) (by decide) (by rfl) (by decide) (by rfl) (by rfl) (by rfl) ?_)))
                        k_with "m24" => ((k_here; k_dflt (refine Assign_C (by assumption) rfl (by with_unfolding_all rfl) (by with_unfolding_all rfl) (fun _ => by rfl) (fun _ => by rfl) (by rfl) (by decide) (by rfl) (by rfl) (by rfl) ?_)))
                        have hKJ0 := hKJ
                        obtain ⟨hv0, kh0, og0, vg0, tail0, rfl, b1', b2', b3', b4', b5', b6', q1, q2, q3, q4, q5⟩ := hKJ0
                        iterate 8 walk1
                        rename Fr _ _ _ _ => F1
                        rename News _ _ _ _ => N1
                        rename IsRange _ _ _ _ _ _ _ _ => R1
                        refine rangeInv (KJ ds s1.heap.objs.size inner lH lF lC lW lA (listOf fv.toArray fv.length) (listOf uv.toArray uv.length) (listOf ws kw) (listOf as ka) oC) rfl R1 (range_up _ hn6).1 (range_up _ hn6).2 F1 N1 hKJ ?_ ?_
                        · clear F1 N1 R1 hKJ b1' b2' b3' b4' b5' b6' q1 q2 q3 q4 q5
                          intro i ti m₁ nx h3 tk3 I3 oI3 hi hJ hoff F3 N3
                          obtain ⟨hv, kh, og, vg, tail, rfl, cg, hhs, hhe, hsub, htH, htg, q1, q2, q3, q4, q5⟩ := hJ
                          rw [show (0 : Int) + (i : Int) * 1 = (i : Int) from a_one i] at F3
                          have F3a := fr_know (x := Str.ofString "aboves") F3 (by rw [if_neg (by decide)]; exact q1)
                          have F3b := fr_know (x := Str.ofString "falls") F3a (by rw [if_neg (by decide), if_neg (by decide)]; exact q4)
                          have F3c := fr_know (x := Str.ofString "heres") F3b (by rw [if_neg (by decide), if_neg (by decide), if_neg (by decide)]; exact q5)
                          have oCa : lC ≠ lA := fun q => oC1.2.2.2.2.2.2.1 q.symm
                          have oCg : lC ≠ s1.heap.objs.size + 1 + 1 + 1 + 1 + 1 + 1 + 1 := fun q => oC1.2.2.2.2.2.2.2.1 q.symm
                          have oCc : lC ≠ s1.heap.objs.size + 1 + 1 := fun q => oC1.2.2.2.2.2.2.2.2.2.2.2.2.1 q.symm
                          have oFg : lF ≠ s1.heap.objs.size + 1 + 1 + 1 + 1 + 1 + 1 + 1 := fun q => oF1.2.2.2.2.2.2.2.2.1 q.symm
                          have oFc : lF ≠ s1.heap.objs.size + 1 + 1 := fun q => oF1.2.2.2.2.2.2.2.2.2.2.2.2.2.1 q.symm
                          have oFC : lC ≠ lF := oF1.1
                          clear oC1 oF1
                          clear F3 F3a F3b
                          have hoffN := offN_of hoff
                          k_with "ne" => (refine neN ?_; (try dsimp only); first | (with_reducible first | assumption | (refine Ne.symm ?_; assumption)) | (with_reducible first | exact cd1 _ | exact (cd1 _).symm | exact cd2 _ | exact (cd2 _).symm | exact cd3 _ | exact (cd3 _).symm | exact cd4 _ | exact (cd4 _).symm | exact cd5 _ | exact (cd5 _).symm | exact cd6 _ | exact (cd6 _).symm) | (with_reducible first | exact cne7 hl1 | exact (cne7 hl1).symm | exact cne6 hl1 | exact (cne6 hl1).symm | exact cne5 hl1 | exact (cne5 hl1).symm | exact cne4 hl1 | exact (cne4 hl1).symm | exact cne3 hl1 | exact (cne3 hl1).symm | exact cne2 hl1 | exact (cne2 hl1).symm | exact cne1 hl1 | exact (cne1 hl1).symm | exact cne7 hA7 | exact (cne7 hA7).symm | exact cne6 hA7 | exact (cne6 hA7).symm | exact cne5 hA7 | exact (cne5 hA7).symm | exact cne4 hA7 | exact (cne4 hA7).symm | exact cne3 hA7 | exact (cne3 hA7).symm | exact cne2 hA7 | exact (cne2 hA7).symm | exact cne1 hA7 | exact (cne1 hA7).symm | exact cne7 hW7 | exact (cne7 hW7).symm | exact cne6 hW7 | exact (cne6 hW7).symm | exact cne5 hW7 | exact (cne5 hW7).symm | exact cne4 hW7 | exact (cne4 hW7).symm | exact cne3 hW7 | exact (cne3 hW7).symm | exact cne2 hW7 | exact (cne2 hW7).symm | exact cne1 hW7 | exact (cne1 hW7).symm | exact cne7 hN7 | exact (cne7 hN7).symm | exact cne6 hN7 | exact (cne6 hN7).symm | exact cne5 hN7 | exact (cne5 hN7).symm | exact cne4 hN7 | exact (cne4 hN7).symm | exact cne3 hN7 | exact (cne3 hN7).symm | exact cne2 hN7 | exact (cne2 hN7).symm | exact cne1 hN7 | exact (cne1 hN7).symm | exact cne7 hY7 | exact (cne7 hY7).symm | exact cne6 hY7 | exact (cne6 hY7).symm | exact cne5 hY7 | exact (cne5 hY7).symm | exact cne4 hY7 | exact (cne4 hY7).symm | exact cne3 hY7 | exact (cne3 hY7).symm | exact cne2 hY7 | exact (cne2 hY7).symm | exact cne1 hY7 | exact (cne1 hY7).symm | exact cne7 hP7 | exact (cne7 hP7).symm | exact cne6 hP7 | exact (cne6 hP7).symm | exact cne5 hP7 | exact (cne5 hP7).symm | exact cne4 hP7 | exact (cne4 hP7).symm | exact cne3 hP7 | exact (cne3 hP7).symm | exact cne2 hP7 | exact (cne2 hP7).symm | exact cne1 hP7 | exact (cne1 hP7).symm) | exact hoffN.1 | exact (hoffN.1).symm | exact hoffN.2.1 | exact (hoffN.2.1).symm | exact hoffN.2.2.1 | exact (hoffN.2.2.1).symm | exact hoffN.2.2.2.1 | exact (hoffN.2.2.2.1).symm | exact hoffN.2.2.2.2.1 | exact (hoffN.2.2.2.2.1).symm | exact hoffN.2.2.2.2.2.1 | exact (hoffN.2.2.2.2.2.1).symm | exact hoffN.2.2.2.2.2.2.1 | exact (hoffN.2.2.2.2.2.2.1).symm | exact Nat.ne_of_lt hC.1.1 | exact Nat.ne_of_gt hC.1.1 | exact Nat.ne_of_lt hC.1.2.1 | exact Nat.ne_of_gt hC.1.2.1 | exact Nat.ne_of_lt hC.1.2.2.1 | exact Nat.ne_of_gt hC.1.2.2.1 | exact Nat.ne_of_lt hC.1.2.2.2.1 | exact Nat.ne_of_gt hC.1.2.2.2.1 | exact Nat.ne_of_lt hC.1.2.2.2.2.1 | exact Nat.ne_of_gt hC.1.2.2.2.2.1 | exact Nat.ne_of_lt hC.2.1.1 | exact Nat.ne_of_gt hC.2.1.1 | exact Nat.ne_of_lt hC.2.1.2.1 | exact Nat.ne_of_gt hC.2.1.2.1 | exact Nat.ne_of_lt hC.2.1.2.2.1 | exact Nat.ne_of_gt hC.2.1.2.2.1 | exact Nat.ne_of_lt hC.2.1.2.2.2.1 | exact Nat.ne_of_gt hC.2.1.2.2.2.1 | exact Nat.ne_of_lt hC.2.2.1.1 | exact Nat.ne_of_gt hC.2.2.1.1 | exact Nat.ne_of_lt hC.2.2.1.2.1 | exact Nat.ne_of_gt hC.2.2.1.2.1 | exact Nat.ne_of_lt hC.2.2.1.2.2.1 | exact Nat.ne_of_gt hC.2.2.1.2.2.1 | exact Nat.ne_of_lt hC.2.2.2.1.1 | exact Nat.ne_of_gt hC.2.2.2.1.1 | exact Nat.ne_of_lt hC.2.2.2.1.2.1 | exact Nat.ne_of_gt hC.2.2.2.1.2.1 | exact Nat.ne_of_lt hC.2.2.2.2.1.1 | exact Nat.ne_of_gt hC.2.2.2.2.1.1 | (with_reducible first | exact Nat.ne_of_lt (by assumption) | exact Nat.ne_of_gt (by assumption) | fail "ne") | (with_reducible first | exact Nat.ne_of_gt (And.left (by assumption)) | exact Nat.ne_of_lt (And.left (by assumption)) | exact Nat.ne_of_gt (And.left (And.right (by assumption))) | exact Nat.ne_of_lt (And.left (And.right (by assumption))) | exact Nat.ne_of_gt (And.left (And.right (And.right (by assumption)))) | exact Nat.ne_of_lt (And.left (And.right (And.right (by assumption)))) | exact Nat.ne_of_gt (And.left (And.right (And.right (And.right (by assumption))))) | exact Nat.ne_of_lt (And.left (And.right (And.right (And.right (by assumption))))) | exact Nat.ne_of_gt (And.left (And.right (And.right (And.right (And.right (by assumption)))))) | exact Nat.ne_of_lt (And.left (And.right (And.right (And.right (And.right (by assumption)))))) | exact Nat.ne_of_gt (And.left (And.right (And.right (And.right (And.right (And.right (by assumption))))))) | exact Nat.ne_of_lt (And.left (And.right (And.right (And.right (And.right (And.right (by assumption))))))) | exact Nat.ne_of_gt (And.left (And.right (And.right (And.right (And.right (And.right (And.right (by assumption)))))))) | exact Nat.ne_of_lt (And.left (And.right (And.right (And.right (And.right (And.right (And.right (by assumption)))))))) | exact Nat.ne_of_gt (And.left (And.right (And.right (And.right (And.right (And.right (And.right (And.right (by assumption))))))))) | exact Nat.ne_of_lt (And.left (And.right (And.right (And.right (And.right (And.right (And.right (And.right (by assumption))))))))) | exact Nat.ne_of_gt (And.left (And.right (And.right (And.right (And.right (And.right (And.right (And.right (And.right (by assumption)))))))))) | exact Nat.ne_of_lt (And.left (And.right (And.right (And.right (And.right (And.right (And.right (And.right (And.right (by assumption)))))))))) | exact Nat.ne_of_gt (And.left (And.right (And.right (And.right (And.right (And.right (And.right (And.right (And.right (And.right (by assumption))))))))))) | exact Nat.ne_of_lt (And.left (And.right (And.right (And.right (And.right (And.right (And.right (And.right (And.right (And.right (by assumption))))))))))) | exact Nat.ne_of_gt (And.left (And.right (And.right (And.right (And.right (And.right (And.right (And.right (And.right (And.right (And.right (by assumption)))))))))))) | exact Nat.ne_of_lt (And.left (And.right (And.right (And.right (And.right (And.right (And.right (And.right (And.right (And.right (And.right (by assumption)))))))))))) | exact Nat.ne_of_gt (And.left (And.right (And.right (And.right (And.right (And.right (And.right (And.right (And.right (And.right (And.right (And.right (by assumption))))))))))))) | exact Nat.ne_of_lt (And.left (And.right (And.right (And.right (And.right (And.right (And.right (And.right (And.right (And.right (And.right (And.right (by assumption))))))))))))) | exact Nat.ne_of_gt (And.left (And.right (And.right (And.right (And.right (And.right (And.right (And.right (And.right (And.right (And.right (And.right (And.right (by assumption)))))))))))))) | exact Nat.ne_of_lt (And.left (And.right (And.right (And.right (And.right (And.right (And.right (And.right (And.right (And.right (And.right (And.right (And.right (by assumption)))))))))))))) | exact Nat.ne_of_gt (And.left (And.right (And.right (And.right (And.right (And.right (And.right (And.right (And.right (And.right (And.right (And.right (And.right (And.right (by assumption))))))))))))))) | exact Nat.ne_of_lt (And.left (And.right (And.right (And.right (And.right (And.right (And.right (And.right (And.right (And.right (And.right (And.right (And.right (And.right (by assumption))))))))))))))) | exact cne1 (And.left (by assumption)) | exact Ne.symm (cne1 (And.left (by assumption))) | exact cne2 (And.left (by assumption)) | exact Ne.symm (cne2 (And.left (by assumption))) | exact cne3 (And.left (by assumption)) | exact Ne.symm (cne3 (And.left (by assumption))) | exact cne4 (And.left (by assumption)) | exact Ne.symm (cne4 (And.left (by assumption))) | exact cne5 (And.left (by assumption)) | exact Ne.symm (cne5 (And.left (by assumption))) | exact cne6 (And.left (by assumption)) | exact Ne.symm (cne6 (And.left (by assumption))) | exact cne7 (And.left (by assumption)) | exact Ne.symm (cne7 (And.left (by assumption))) | exact cne1 (And.left (And.right (by assumption))) | exact Ne.symm (cne1 (And.left (And.right (by assumption)))) | exact cne2 (And.left (And.right (by assumption))) | exact Ne.symm (cne2 (And.left (And.right (by assumption)))) | exact cne3 (And.left (And.right (by assumption))) | exact Ne.symm (cne3 (And.left (And.right (by assumption)))) | exact cne4 (And.left (And.right (by assumption))) | exact Ne.symm (cne4 (And.left (And.right (by assumption)))) | exact cne5 (And.left (And.right (by assumption))) | exact Ne.symm (cne5 (And.left (And.right (by assumption)))) | exact cne6 (And.left (And.right (by assumption))) | exact Ne.symm (cne6 (And.left (And.right (by assumption)))) | exact cne7 (And.left (And.right (by assumption))) | exact Ne.symm (cne7 (And.left (And.right (by assumption)))) | exact cne1 (And.left (And.right (And.right (by assumption)))) | exact Ne.symm (cne1 (And.left (And.right (And.right (by assumption))))) | exact cne2 (And.left (And.right (And.right (by assumption)))) | exact Ne.symm (cne2 (And.left (And.right (And.right (by assumption))))) | exact cne3 (And.left (And.right (And.right (by assumption)))) | exact Ne.symm (cne3 (And.left (And.right (And.right (by assumption))))) | exact cne4 (And.left (And.right (And.right (by assumption)))) | exact Ne.symm (cne4 (And.left (And.right (And.right (by assumption))))) | exact cne5 (And.left (And.right (And.right (by assumption)))) | exact Ne.symm (cne5 (And.left (And.right (And.right (by assumption))))) | exact cne6 (And.left (And.right (And.right (by assumption)))) | exact Ne.symm (cne6 (And.left (And.right (And.right (by assumption))))) | exact cne7 (And.left (And.right (And.right (by assumption)))) | exact Ne.symm (cne7 (And.left (And.right (And.right (by assumption))))) | exact cne1 (And.left (And.right (And.right (And.right (by assumption))))) | exact Ne.symm (cne1 (And.left (And.right (And.right (And.right (by assumption)))))) | exact cne2 (And.left (And.right (And.right (And.right (by assumption))))) | exact Ne.symm (cne2 (And.left (And.right (And.right (And.right (by assumption)))))) | exact cne3 (And.left (And.right (And.right (And.right (by assumption))))) | exact Ne.symm (cne3 (And.left (And.right (And.right (And.right (by assumption)))))) | exact cne4 (And.left (And.right (And.right (And.right (by assumption))))) | exact Ne.symm (cne4 (And.left (And.right (And.right (And.right (by assumption)))))) | exact cne5 (And.left (And.right (And.right (And.right (by assumption))))) | exact Ne.symm (cne5 (And.left (And.right (And.right (And.right (by assumption)))))) | exact cne6 (And.left (And.right (And.right (And.right (by assumption))))) | exact Ne.symm (cne6 (And.left (And.right (And.right (And.right (by assumption)))))) | exact cne7 (And.left (And.right (And.right (And.right (by assumption))))) | exact Ne.symm (cne7 (And.left (And.right (And.right (And.right (by assumption)))))) | exact cne1 (And.left (And.right (And.right (And.right (And.right (by assumption)))))) | exact Ne.symm (cne1 (And.left (And.right (And.right (And.right (And.right (by assumption))))))) | exact cne2 (And.left (And.right (And.right (And.right (And.right (by assumption)))))) | exact Ne.symm (cne2 (And.left (And.right (And.right (And.right (And.right (by assumption))))))) | exact cne3 (And.left (And.right (And.right (And.right (And.right (by assumption)))))) | exact Ne.symm (cne3 (And.left (And.right (And.right (And.right (And.right (by assumption))))))) | exact cne4 (And.left (And.right (And.right (And.right (And.right (by assumption)))))) | exact Ne.symm (cne4 (And.left (And.right (And.right (And.right (And.right (by assumption))))))) | exact cne5 (And.left (And.right (And.right (And.right (And.right (by assumption)))))) | exact Ne.symm (cne5 (And.left (And.right (And.right (And.right (And.right (by assumption))))))) | exact cne6 (And.left (And.right (And.right (And.right (And.right (by assumption)))))) | exact Ne.symm (cne6 (And.left (And.right (And.right (And.right (And.right (by assumption))))))) | exact cne7 (And.left (And.right (And.right (And.right (And.right (by assumption)))))) | exact Ne.symm (cne7 (And.left (And.right (And.right (And.right (And.right (by assumption))))))) | exact cne1 (And.left (And.right (And.right (And.right (And.right (And.right (by assumption))))))) | exact Ne.symm (cne1 (And.left (And.right (And.right (And.right (And.right (And.right (by assumption)))))))) | exact cne2 (And.left (And.right (And.right (And.right (And.right (And.right (by assumption))))))) | exact Ne.symm (cne2 (And.left (And.right (And.right (And.right (And.right (And.right (by assumption)))))))) | exact cne3 (And.left (And.right (And.right (And.right (And.right (And.right (by assumption))))))) | exact Ne.symm (cne3 (And.left (And.right (And.right (And.right (And.right (And.right (by assumption)))))))) | exact cne4 (And.left (And.right (And.right (And.right (And.right (And.right (by assumption))))))) | exact Ne.symm (cne4 (And.left (And.right (And.right (And.right (And.right (And.right (by assumption)))))))) | exact cne5 (And.left (And.right (And.right (And.right (And.right (And.right (by assumption))))))) | exact Ne.symm (cne5 (And.left (And.right (And.right (And.right (And.right (And.right (by assumption)))))))) | exact cne6 (And.left (And.right (And.right (And.right (And.right (And.right (by assumption))))))) | exact Ne.symm (cne6 (And.left (And.right (And.right (And.right (And.right (And.right (by assumption)))))))) | exact cne7 (And.left (And.right (And.right (And.right (And.right (And.right (by assumption))))))) | exact Ne.symm (cne7 (And.left (And.right (And.right (And.right (And.right (And.right (by assumption)))))))) | exact cne1 (And.left (And.right (And.right (And.right (And.right (And.right (And.right (by assumption)))))))) | exact Ne.symm (cne1 (And.left (And.right (And.right (And.right (And.right (And.right (And.right (by assumption))))))))) | exact cne2 (And.left (And.right (And.right (And.right (And.right (And.right (And.right (by assumption)))))))) | exact Ne.symm (cne2 (And.left (And.right (And.right (And.right (And.right (And.right (And.right (by assumption))))))))) | exact cne3 (And.left (And.right (And.right (And.right (And.right (And.right (And.right (by assumption)))))))) | exact Ne.symm (cne3 (And.left (And.right (And.right (And.right (And.right (And.right (And.right (by assumption))))))))) | exact cne4 (And.left (And.right (And.right (And.right (And.right (And.right (And.right (by assumption)))))))) | exact Ne.symm (cne4 (And.left (And.right (And.right (And.right (And.right (And.right (And.right (by assumption))))))))) | exact cne5 (And.left (And.right (And.right (And.right (And.right (And.right (And.right (by assumption)))))))) | exact Ne.symm (cne5 (And.left (And.right (And.right (And.right (And.right (And.right (And.right (by assumption))))))))) | exact cne6 (And.left (And.right (And.right (And.right (And.right (And.right (And.right (by assumption)))))))) | exact Ne.symm (cne6 (And.left (And.right (And.right (And.right (And.right (And.right (And.right (by assumption))))))))) | exact cne7 (And.left (And.right (And.right (And.right (And.right (And.right (And.right (by assumption)))))))) | exact Ne.symm (cne7 (And.left (And.right (And.right (And.right (And.right (And.right (And.right (by assumption))))))))) | exact cne1 (And.left (And.right (And.right (And.right (And.right (And.right (And.right (And.right (by assumption))))))))) | exact Ne.symm (cne1 (And.left (And.right (And.right (And.right (And.right (And.right (And.right (And.right (by assumption)))))))))) | exact cne2 (And.left (And.right (And.right (And.right (And.right (And.right (And.right (And.right (by assumption))))))))) | exact Ne.symm (cne2 (And.left (And.right (And.right (And.right (And.right (And.right (And.right (And.right (by assumption)))))))))) | exact cne3 (And.left (And.right (And.right (And.right (And.right (And.right (And.right (And.right (by assumption))))))))) | exact Ne.symm (cne3 (And.left (And.right (And.right (And.right (And.right (And.right (And.right (And.right (by assumption)))))))))) | exact cne4 (And.left (And.right (And.right (And.right (And.right (And.right (And.right (And.right (by assumption))))))))) | exact Ne.symm (cne4 (And.left (And.right (And.right (And.right (And.right (And.right (And.right (And.right (by assumption)))))))))) | exact cne5 (And.left (And.right (And.right (And.right (And.right (And.right (And.right (And.right (by assumption))))))))) | exact Ne.symm (cne5 (And.left (And.right (And.right (And.right (And.right (And.right (And.right (And.right (by assumption)))))))))) | exact cne6 (And.left (And.right (And.right (And.right (And.right (And.right (And.right (And.right (by assumption))))))))) | exact Ne.symm (cne6 (And.left (And.right (And.right (And.right (And.right (And.right (And.right (And.right (by assumption)))))))))) | exact cne7 (And.left (And.right (And.right (And.right (And.right (And.right (And.right (And.right (by assumption))))))))) | exact Ne.symm (cne7 (And.left (And.right (And.right (And.right (And.right (And.right (And.right (And.right (by assumption)))))))))) | exact cne1 (And.left (And.right (And.right (And.right (And.right (And.right (And.right (And.right (And.right (by assumption)))))))))) | exact Ne.symm (cne1 (And.left (And.right (And.right (And.right (And.right (And.right (And.right (And.right (And.right (by assumption))))))))))) | exact cne2 (And.left (And.right (And.right (And.right (And.right (And.right (And.right (And.right (And.right (by assumption)))))))))) | exact Ne.symm (cne2 (And.left (And.right (And.right (And.right (And.right (And.right (And.right (And.right (And.right (by assumption))))))))))) | exact cne3 (And.left (And.right (And.right (And.right (And.right (And.right (And.right (And.right (And.right (by assumption)))))))))) | exact Ne.symm (cne3 (And.left (And.right (And.right (And.right (And.right (And.right (And.right (And.right (And.right (by assumption))))))))))) | exact cne4 (And.left (And.right (And.right (And.right (And.right (And.right (And.right (And.right (And.right (by assumption)))))))))) | exact Ne.symm (cne4 (And.left (And.right (And.right (And.right (And.right (And.right (And.right (And.right (And.right (by assumption))))))))))) | exact cne5 (And.left (And.right (And.right (And.right (And.right (And.right (And.right (And.right (And.right (by assumption)))))))))) | exact Ne.symm (cne5 (And.left (And.right (And.right (And.right (And.right (And.right (And.right (And.right (And.right (by assumption))))))))))) | exact cne6 (And.left (And.right (And.right (And.right (And.right (And.right (And.right (And.right (And.right (by assumption)))))))))) | exact Ne.symm (cne6 (And.left (And.right (And.right (And.right (And.right (And.right (And.right (And.right (And.right (by assumption))))))))))) | exact cne7 (And.left (And.right (And.right (And.right (And.right (And.right (And.right (And.right (And.right (by assumption)))))))))) | exact Ne.symm (cne7 (And.left (And.right (And.right (And.right (And.right (And.right (And.right (And.right (And.right (by assumption))))))))))) | exact cne1 (And.left (And.right (And.right (And.right (And.right (And.right (And.right (And.right (And.right (And.right (by assumption))))))))))) | exact Ne.symm (cne1 (And.left (And.right (And.right (And.right (And.right (And.right (And.right (And.right (And.right (And.right (by assumption)))))))))))) | exact cne2 (And.left (And.right (And.right (And.right (And.right (And.right (And.right (And.right (And.right (And.right (by assumption))))))))))) | exact Ne.symm (cne2 (And.left (And.right (And.right (And.right (And.right (And.right (And.right (And.right (And.right (And.right (by assumption)))))))))))) | exact cne3 (And.left (And.right (And.right (And.right (And.right (And.right (And.right (And.right (And.right (And.right (by assumption))))))))))) | exact Ne.symm (cne3 (And.left (And.right (And.right (And.right (And.right (And.right (And.right (And.right (And.right (And.right (by assumption)))))))))))) | exact cne4 (And.left (And.right (And.right (And.right (And.right (And.right (And.right (And.right (And.right (And.right (by assumption))))))))))) | exact Ne.symm (cne4 (And.left (And.right (And.right (And.right (And.right (And.right (And.right (And.right (And.right (And.right (by assumption)))))))))))) | exact cne5 (And.left (And.right (And.right (And.right (And.right (And.right (And.right (And.right (And.right (And.right (by assumption))))))))))) | exact Ne.symm (cne5 (And.left (And.right (And.right (And.right (And.right (And.right (And.right (And.right (And.right (And.right (by assumption)))))))))))) | exact cne6 (And.left (And.right (And.right (And.right (And.right (And.right (And.right (And.right (And.right (And.right (by assumption))))))))))) | exact Ne.symm (cne6 (And.left (And.right (And.right (And.right (And.right (And.right (And.right (And.right (And.right (And.right (by assumption)))))))))))) | exact cne7 (And.left (And.right (And.right (And.right (And.right (And.right (And.right (And.right (And.right (And.right (by assumption))))))))))) | exact Ne.symm (cne7 (And.left (And.right (And.right (And.right (And.right (And.right (And.right (And.right (And.right (And.right (by assumption)))))))))))) | fail "ne") | fail "ne")
                          k_with "all" => first | exact htg | exact htH
                          iterate 23 walk1
                          rename Fr _ _ _ _ => F1
                          rename News _ _ _ _ => N1
                          rename IsRange _ _ _ _ _ _ _ _ => R1
                          rename _ < _ ∧ _ => l1
                          refine rangeInv (GoJ ds i ti _ lA lW lC lF lH _) rfl R1 (range_ab _ hn6 i hi).1 (range_ab _ hn6 i hi).2 F1 N1 ⟨_, _, rfl, .cons _ _ .nil, rfl, q2, q3, rfl, rfl, rfl⟩ ?_ ?_
                          · clear F1 N1 R1
                            intro q tq m₂ nx h4 tk4 I4 oI4 hq hJ hoff4 F4 N4
                            obtain ⟨gv, kg, rfl, hgv, e1, e2, e3, e4, e5, e6⟩ := hJ
                            rw [show ((i : Int) + 1 + (q : Int) * 1) = ((i + 1 + q : Nat) : Int) from a_iq i q] at F4
                            have F4a := fr_know (x := Str.ofString "aboves") F4 (by rw [if_neg (by decide)]; exact e1)
                            clear F4
                            have hoffN4 := offN_of hoff4
                            k_with "ne" => (refine neN ?_; (try dsimp only); first | (with_reducible first | assumption | (refine Ne.symm ?_; assumption)) | (with_reducible first | exact cd1 _ | exact (cd1 _).symm | exact cd2 _ | exact (cd2 _).symm | exact cd3 _ | exact (cd3 _).symm | exact cd4 _ | exact (cd4 _).symm | exact cd5 _ | exact (cd5 _).symm | exact cd6 _ | exact (cd6 _).symm) | (with_reducible first | exact cne7 hl1 | exact (cne7 hl1).symm | exact cne6 hl1 | exact (cne6 hl1).symm | exact cne5 hl1 | exact (cne5 hl1).symm | exact cne4 hl1 | exact (cne4 hl1).symm | exact cne3 hl1 | exact (cne3 hl1).symm | exact cne2 hl1 | exact (cne2 hl1).symm | exact cne1 hl1 | exact (cne1 hl1).symm | exact cne7 hA7 | exact (cne7 hA7).symm | exact cne6 hA7 | exact (cne6 hA7).symm | exact cne5 hA7 | exact (cne5 hA7).symm | exact cne4 hA7 | exact (cne4 hA7).symm | exact cne3 hA7 | exact (cne3 hA7).symm | exact cne2 hA7 | exact (cne2 hA7).symm | exact cne1 hA7 | exact (cne1 hA7).symm | exact cne7 hW7 | exact (cne7 hW7).symm | exact cne6 hW7 | exact (cne6 hW7).symm | exact cne5 hW7 | exact (cne5 hW7).symm | exact cne4 hW7 | exact (cne4 hW7).symm | exact cne3 hW7 | exact (cne3 hW7).symm | exact cne2 hW7 | exact (cne2 hW7).symm | exact cne1 hW7 | exact (cne1 hW7).symm | exact cne7 hN7 | exact (cne7 hN7).symm | exact cne6 hN7 | exact (cne6 hN7).symm | exact cne5 hN7 | exact (cne5 hN7).symm | exact cne4 hN7 | exact (cne4 hN7).symm | exact cne3 hN7 | exact (cne3 hN7).symm | exact cne2 hN7 | exact (cne2 hN7).symm | exact cne1 hN7 | exact (cne1 hN7).symm | exact cne7 hY7 | exact (cne7 hY7).symm | exact cne6 hY7 | exact (cne6 hY7).symm | exact cne5 hY7 | exact (cne5 hY7).symm | exact cne4 hY7 | exact (cne4 hY7).symm | exact cne3 hY7 | exact (cne3 hY7).symm | exact cne2 hY7 | exact (cne2 hY7).symm | exact cne1 hY7 | exact (cne1 hY7).symm | exact cne7 hP7 | exact (cne7 hP7).symm | exact cne6 hP7 | exact (cne6 hP7).symm | exact cne5 hP7 | exact (cne5 hP7).symm | exact cne4 hP7 | exact (cne4 hP7).symm | exact cne3 hP7 | exact (cne3 hP7).symm | exact cne2 hP7 | exact (cne2 hP7).symm | exact cne1 hP7 | exact (cne1 hP7).symm) | exact hoffN4.1 | exact (hoffN4.1).symm | exact hoffN4.2.1 | exact (hoffN4.2.1).symm | exact hoffN4.2.2.1 | exact (hoffN4.2.2.1).symm | exact hoffN4.2.2.2.1 | exact (hoffN4.2.2.2.1).symm | exact hoffN4.2.2.2.2.1 | exact (hoffN4.2.2.2.2.1).symm | exact hoffN4.2.2.2.2.2.1 | exact (hoffN4.2.2.2.2.2.1).symm | exact hoffN4.2.2.2.2.2.2.1 | exact (hoffN4.2.2.2.2.2.2.1).symm | exact hoffN4.2.2.2.2.2.2.2.1 | exact (hoffN4.2.2.2.2.2.2.2.1).symm | exact hoffN4.2.2.2.2.2.2.2.2.1 | exact (hoffN4.2.2.2.2.2.2.2.2.1).symm | exact hoffN.1 | exact (hoffN.1).symm | exact hoffN.2.1 | exact (hoffN.2.1).symm | exact hoffN.2.2.1 | exact (hoffN.2.2.1).symm | exact hoffN.2.2.2.1 | exact (hoffN.2.2.2.1).symm | exact hoffN.2.2.2.2.1 | exact (hoffN.2.2.2.2.1).symm | exact hoffN.2.2.2.2.2.1 | exact (hoffN.2.2.2.2.2.1).symm | exact hoffN.2.2.2.2.2.2.1 | exact (hoffN.2.2.2.2.2.2.1).symm | exact Nat.ne_of_lt hC.1.1 | exact Nat.ne_of_gt hC.1.1 | exact Nat.ne_of_lt hC.1.2.1 | exact Nat.ne_of_gt hC.1.2.1 | exact Nat.ne_of_lt hC.1.2.2.1 | exact Nat.ne_of_gt hC.1.2.2.1 | exact Nat.ne_of_lt hC.1.2.2.2.1 | exact Nat.ne_of_gt hC.1.2.2.2.1 | exact Nat.ne_of_lt hC.1.2.2.2.2.1 | exact Nat.ne_of_gt hC.1.2.2.2.2.1 | exact Nat.ne_of_lt hC.2.1.1 | exact Nat.ne_of_gt hC.2.1.1 | exact Nat.ne_of_lt hC.2.1.2.1 | exact Nat.ne_of_gt hC.2.1.2.1 | exact Nat.ne_of_lt hC.2.1.2.2.1 | exact Nat.ne_of_gt hC.2.1.2.2.1 | exact Nat.ne_of_lt hC.2.1.2.2.2.1 | exact Nat.ne_of_gt hC.2.1.2.2.2.1 | exact Nat.ne_of_lt hC.2.2.1.1 | exact Nat.ne_of_gt hC.2.2.1.1 | exact Nat.ne_of_lt hC.2.2.1.2.1 | exact Nat.ne_of_gt hC.2.2.1.2.1 | exact Nat.ne_of_lt hC.2.2.1.2.2.1 | exact Nat.ne_of_gt hC.2.2.1.2.2.1 | exact Nat.ne_of_lt hC.2.2.2.1.1 | exact Nat.ne_of_gt hC.2.2.2.1.1 | exact Nat.ne_of_lt hC.2.2.2.1.2.1 | exact Nat.ne_of_gt hC.2.2.2.1.2.1 | exact Nat.ne_of_lt hC.2.2.2.2.1.1 | exact Nat.ne_of_gt hC.2.2.2.2.1.1 | (with_reducible first | exact Nat.ne_of_lt (by assumption) | exact Nat.ne_of_gt (by assumption) | fail "ne") | (with_reducible first | exact Nat.ne_of_gt (And.left (by assumption)) | exact Nat.ne_of_lt (And.left (by assumption)) | exact Nat.ne_of_gt (And.left (And.right (by assumption))) | exact Nat.ne_of_lt (And.left (And.right (by assumption))) | exact Nat.ne_of_gt (And.left (And.right (And.right (by assumption)))) | exact Nat.ne_of_lt (And.left (And.right (And.right (by assumption)))) | exact Nat.ne_of_gt (And.left (And.right (And.right (And.right (by assumption))))) | exact Nat.ne_of_lt (And.left (And.right (And.right (And.right (by assumption))))) | exact Nat.ne_of_gt (And.left (And.right (And.right (And.right (And.right (by assumption)))))) | exact Nat.ne_of_lt (And.left (And.right (And.right (And.right (And.right (by assumption)))))) | exact Nat.ne_of_gt (And.left (And.right (And.right (And.right (And.right (And.right (by assumption))))))) | exact Nat.ne_of_lt (And.left (And.right (And.right (And.right (And.right (And.right (by assumption))))))) | exact Nat.ne_of_gt (And.left (And.right (And.right (And.right (And.right (And.right (And.right (by assumption)))))))) | exact Nat.ne_of_lt (And.left (And.right (And.right (And.right (And.right (And.right (And.right (by assumption)))))))) | exact Nat.ne_of_gt (And.left (And.right (And.right (And.right (And.right (And.right (And.right (And.right (by assumption))))))))) | exact Nat.ne_of_lt (And.left (And.right (And.right (And.right (And.right (And.right (And.right (And.right (by assumption))))))))) | exact Nat.ne_of_gt (And.left (And.right (And.right (And.right (And.right (And.right (And.right (And.right (And.right (by assumption)))))))))) | exact Nat.ne_of_lt (And.left (And.right (And.right (And.right (And.right (And.right (And.right (And.right (And.right (by assumption)))))))))) | exact Nat.ne_of_gt (And.left (And.right (And.right (And.right (And.right (And.right (And.right (And.right (And.right (And.right (by assumption))))))))))) | exact Nat.ne_of_lt (And.left (And.right (And.right (And.right (And.right (And.right (And.right (And.right (And.right (And.right (by assumption))))))))))) | exact Nat.ne_of_gt (And.left (And.right (And.right (And.right (And.right (And.right (And.right (And.right (And.right (And.right (And.right (by assumption)))))))))))) | exact Nat.ne_of_lt (And.left (And.right (And.right (And.right (And.right (And.right (And.right (And.right (And.right (And.right (And.right (by assumption)))))))))))) | exact Nat.ne_of_gt (And.left (And.right (And.right (And.right (And.right (And.right (And.right (And.right (And.right (And.right (And.right (And.right (by assumption))))))))))))) | exact Nat.ne_of_lt (And.left (And.right (And.right (And.right (And.right (And.right (And.right (And.right (And.right (And.right (And.right (And.right (by assumption))))))))))))) | exact Nat.ne_of_gt (And.left (And.right (And.right (And.right (And.right (And.right (And.right (And.right (And.right (And.right (And.right (And.right (And.right (by assumption)))))))))))))) | exact Nat.ne_of_lt (And.left (And.right (And.right (And.right (And.right (And.right (And.right (And.right (And.right (And.right (And.right (And.right (And.right (by assumption)))))))))))))) | exact Nat.ne_of_gt (And.left (And.right (And.right (And.right (And.right (And.right (And.right (And.right (And.right (And.right (And.right (And.right (And.right (And.right (by assumption))))))))))))))) | exact Nat.ne_of_lt (And.left (And.right (And.right (And.right (And.right (And.right (And.right (And.right (And.right (And.right (And.right (And.right (And.right (And.right (by assumption))))))))))))))) | exact cne1 (And.left (by assumption)) | exact Ne.symm (cne1 (And.left (by assumption))) | exact cne2 (And.left (by assumption)) | exact Ne.symm (cne2 (And.left (by assumption))) | exact cne3 (And.left (by assumption)) | exact Ne.symm (cne3 (And.left (by assumption))) | exact cne4 (And.left (by assumption)) | exact Ne.symm (cne4 (And.left (by assumption))) | exact cne5 (And.left (by assumption)) | exact Ne.symm (cne5 (And.left (by assumption))) | exact cne6 (And.left (by assumption)) | exact Ne.symm (cne6 (And.left (by assumption))) | exact cne7 (And.left (by assumption)) | exact Ne.symm (cne7 (And.left (by assumption))) | exact cne1 (And.left (And.right (by assumption))) | exact Ne.symm (cne1 (And.left (And.right (by assumption)))) | exact cne2 (And.left (And.right (by assumption))) | exact Ne.symm (cne2 (And.left (And.right (by assumption)))) | exact cne3 (And.left (And.right (by assumption))) | exact Ne.symm (cne3 (And.left (And.right (by assumption)))) | exact cne4 (And.left (And.right (by assumption))) | exact Ne.symm (cne4 (And.left (And.right (by assumption)))) | exact cne5 (And.left (And.right (by assumption))) | exact Ne.symm (cne5 (And.left (And.right (by assumption)))) | exact cne6 (And.left (And.right (by assumption))) | exact Ne.symm (cne6 (And.left (And.right (by assumption)))) | exact cne7 (And.left (And.right (by assumption))) | exact Ne.symm (cne7 (And.left (And.right (by assumption)))) | exact cne1 (And.left (And.right (And.right (by assumption)))) | exact Ne.symm (cne1 (And.left (And.right (And.right (by assumption))))) | exact cne2 (And.left (And.right (And.right (by assumption)))) | exact Ne.symm (cne2 (And.left (And.right (And.right (by assumption))))) | exact cne3 (And.left (And.right (And.right (by assumption)))) | exact Ne.symm (cne3 (And.left (And.right (And.right (by assumption))))) | exact cne4 (And.left (And.right (And.right (by assumption)))) | exact Ne.symm (cne4 (And.left (And.right (And.right (by assumption))))) | exact cne5 (And.left (And.right (And.right (by assumption)))) | exact Ne.symm (cne5 (And.left (And.right (And.right (by assumption))))) | exact cne6 (And.left (And.right (And.right (by assumption)))) | exact Ne.symm (cne6 (And.left (And.right (And.right (by assumption))))) | exact cne7 (And.left (And.right (And.right (by assumption)))) | exact Ne.symm (cne7 (And.left (And.right (And.right (by assumption))))) | exact cne1 (And.left (And.right (And.right (And.right (by assumption))))) | exact Ne.symm (cne1 (And.left (And.right (And.right (And.right (by assumption)))))) | exact cne2 (And.left (And.right (And.right (And.right (by assumption))))) | exact Ne.symm (cne2 (And.left (And.right (And.right (And.right (by assumption)))))) | exact cne3 (And.left (And.right (And.right (And.right (by assumption))))) | exact Ne.symm (cne3 (And.left (And.right (And.right (And.right (by assumption)))))) | exact cne4 (And.left (And.right (And.right (And.right (by assumption))))) | exact Ne.symm (cne4 (And.left (And.right (And.right (And.right (by assumption)))))) | exact cne5 (And.left (And.right (And.right (And.right (by assumption))))) | exact Ne.symm (cne5 (And.left (And.right (And.right (And.right (by assumption)))))) | exact cne6 (And.left (And.right (And.right (And.right (by assumption))))) | exact Ne.symm (cne6 (And.left (And.right (And.right (And.right (by assumption)))))) | exact cne7 (And.left (And.right (And.right (And.right (by assumption))))) | exact Ne.symm (cne7 (And.left (And.right (And.right (And.right (by assumption)))))) | exact cne1 (And.left (And.right (And.right (And.right (And.right (by assumption)))))) | exact Ne.symm (cne1 (And.left (And.right (And.right (And.right (And.right (by assumption))))))) | exact cne2 (And.left (And.right (And.right (And.right (And.right (by assumption)))))) | exact Ne.symm (cne2 (And.left (And.right (And.right (And.right (And.right (by assumption))))))) | exact cne3 (And.left (And.right (And.right (And.right (And.right (by assumption)))))) | exact Ne.symm (cne3 (And.left (And.right (And.right (And.right (And.right (by assumption))))))) | exact cne4 (And.left (And.right (And.right (And.right (And.right (by assumption)))))) | exact Ne.symm (cne4 (And.left (And.right (And.right (And.right (And.right (by assumption))))))) | exact cne5 (And.left (And.right (And.right (And.right (And.right (by assumption)))))) | exact Ne.symm (cne5 (And.left (And.right (And.right (And.right (And.right (by assumption))))))) | exact cne6 (And.left (And.right (And.right (And.right (And.right (by assumption)))))) | exact Ne.symm (cne6 (And.left (And.right (And.right (And.right (And.right (by assumption))))))) | exact cne7 (And.left (And.right (And.right (And.right (And.right (by assumption)))))) | exact Ne.symm (cne7 (And.left (And.right (And.right (And.right (And.right (by assumption))))))) | exact cne1 (And.left (And.right (And.right (And.right (And.right (And.right (by assumption))))))) | exact Ne.symm (cne1 (And.left (And.right (And.right (And.right (And.right (And.right (by assumption)))))))) | exact cne2 (And.left (And.right (And.right (And.right (And.right (And.right (by assumption))))))) | exact Ne.symm (cne2 (And.left (And.right (And.right (And.right (And.right (And.right (by assumption)))))))) | exact cne3 (And.left (And.right (And.right (And.right (And.right (And.right (by assumption))))))) | exact Ne.symm (cne3 (And.left (And.right (And.right (And.right (And.right (And.right (by assumption)))))))) | exact cne4 (And.left (And.right (And.right (And.right (And.right (And.right (by assumption))))))) | exact Ne.symm (cne4 (And.left (And.right (And.right (And.right (And.right (And.right (by assumption)))))))) | exact cne5 (And.left (And.right (And.right (And.right (And.right (And.right (by assumption))))))) | exact Ne.symm (cne5 (And.left (And.right (And.right (And.right (And.right (And.right (by assumption)))))))) | exact cne6 (And.left (And.right (And.right (And.right (And.right (And.right (by assumption))))))) | exact Ne.symm (cne6 (And.left (And.right (And.right (And.right (And.right (And.right (by assumption)))))))) | exact cne7 (And.left (And.right (And.right (And.right (And.right (And.right (by assumption))))))) | exact Ne.symm (cne7 (And.left (And.right (And.right (And.right (And.right (And.right (by assumption)))))))) | exact cne1 (And.left (And.right (And.right (And.right (And.right (And.right (And.right (by assumption)))))))) | exact Ne.symm (cne1 (And.left (And.right (And.right (And.right (And.right (And.right (And.right (by assumption))))))))) | exact cne2 (And.left (And.right (And.right (And.right (And.right (And.right (And.right (by assumption)))))))) | exact Ne.symm (cne2 (And.left (And.right (And.right (And.right (And.right (And.right (And.right (by assumption))))))))) | exact cne3 (And.left (And.right (And.right (And.right (And.right (And.right (And.right (by assumption)))))))) | exact Ne.symm (cne3 (And.left (And.right (And.right (And.right (And.right (And.right (And.right (by assumption))))))))) | exact cne4 (And.left (And.right (And.right (And.right (And.right (And.right (And.right (by assumption)))))))) | exact Ne.symm (cne4 (And.left (And.right (And.right (And.right (And.right (And.right (And.right (by assumption))))))))) | exact cne5 (And.left (And.right (And.right (And.right (And.right (And.right (And.right (by assumption)))))))) | exact Ne.symm (cne5 (And.left (And.right (And.right (And.right (And.right (And.right (And.right (by assumption))))))))) | exact cne6 (And.left (And.right (And.right (And.right (And.right (And.right (And.right (by assumption)))))))) | exact Ne.symm (cne6 (And.left (And.right (And.right (And.right (And.right (And.right (And.right (by assumption))))))))) | exact cne7 (And.left (And.right (And.right (And.right (And.right (And.right (And.right (by assumption)))))))) | exact Ne.symm (cne7 (And.left (And.right (And.right (And.right (And.right (And.right (And.right (by assumption))))))))) | exact cne1 (And.left (And.right (And.right (And.right (And.right (And.right (And.right (And.right (by assumption))))))))) | exact Ne.symm (cne1 (And.left (And.right (And.right (And.right (And.right (And.right (And.right (And.right (by assumption)))))))))) | exact cne2 (And.left (And.right (And.right (And.right (And.right (And.right (And.right (And.right (by assumption))))))))) | exact Ne.symm (cne2 (And.left (And.right (And.right (And.right (And.right (And.right (And.right (And.right (by assumption)))))))))) | exact cne3 (And.left (And.right (And.right (And.right (And.right (And.right (And.right (And.right (by assumption))))))))) | exact Ne.symm (cne3 (And.left (And.right (And.right (And.right (And.right (And.right (And.right (And.right (by assumption)))))))))) | exact cne4 (And.left (And.right (And.right (And.right (And.right (And.right (And.right (And.right (by assumption))))))))) | exact Ne.symm (cne4 (And.left (And.right (And.right (And.right (And.right (And.right (And.right (And.right (by assumption)))))))))) | exact cne5 (And.left (And.right (And.right (And.right (And.right (And.right (And.right (And.right (by assumption))))))))) | exact Ne.symm (cne5 (And.left (And.right (And.right (And.right (And.right (And.right (And.right (And.right (by assumption)))))))))) | exact cne6 (And.left (And.right (And.right (And.right (And.right (And.right (And.right (And.right (by assumption))))))))) | exact Ne.symm (cne6 (And.left (And.right (And.right (And.right (And.right (And.right (And.right (And.right (by assumption)))))))))) | exact cne7 (And.left (And.right (And.right (And.right (And.right (And.right (And.right (And.right (by assumption))))))))) | exact Ne.symm (cne7 (And.left (And.right (And.right (And.right (And.right (And.right (And.right (And.right (by assumption)))))))))) | exact cne1 (And.left (And.right (And.right (And.right (And.right (And.right (And.right (And.right (And.right (by assumption)))))))))) | exact Ne.symm (cne1 (And.left (And.right (And.right (And.right (And.right (And.right (And.right (And.right (And.right (by assumption))))))))))) | exact cne2 (And.left (And.right (And.right (And.right (And.right (And.right (And.right (And.right (And.right (by assumption)))))))))) | exact Ne.symm (cne2 (And.left (And.right (And.right (And.right (And.right (And.right (And.right (And.right (And.right (by assumption))))))))))) | exact cne3 (And.left (And.right (And.right (And.right (And.right (And.right (And.right (And.right (And.right (by assumption)))))))))) | exact Ne.symm (cne3 (And.left (And.right (And.right (And.right (And.right (And.right (And.right (And.right (And.right (by assumption))))))))))) | exact cne4 (And.left (And.right (And.right (And.right (And.right (And.right (And.right (And.right (And.right (by assumption)))))))))) | exact Ne.symm (cne4 (And.left (And.right (And.right (And.right (And.right (And.right (And.right (And.right (And.right (by assumption))))))))))) | exact cne5 (And.left (And.right (And.right (And.right (And.right (And.right (And.right (And.right (And.right (by assumption)))))))))) | exact Ne.symm (cne5 (And.left (And.right (And.right (And.right (And.right (And.right (And.right (And.right (And.right (by assumption))))))))))) | exact cne6 (And.left (And.right (And.right (And.right (And.right (And.right (And.right (And.right (And.right (by assumption)))))))))) | exact Ne.symm (cne6 (And.left (And.right (And.right (And.right (And.right (And.right (And.right (And.right (And.right (by assumption))))))))))) | exact cne7 (And.left (And.right (And.right (And.right (And.right (And.right (And.right (And.right (And.right (by assumption)))))))))) | exact Ne.symm (cne7 (And.left (And.right (And.right (And.right (And.right (And.right (And.right (And.right (And.right (by assumption))))))))))) | exact cne1 (And.left (And.right (And.right (And.right (And.right (And.right (And.right (And.right (And.right (And.right (by assumption))))))))))) | exact Ne.symm (cne1 (And.left (And.right (And.right (And.right (And.right (And.right (And.right (And.right (And.right (And.right (by assumption)))))))))))) | exact cne2 (And.left (And.right (And.right (And.right (And.right (And.right (And.right (And.right (And.right (And.right (by assumption))))))))))) | exact Ne.symm (cne2 (And.left (And.right (And.right (And.right (And.right (And.right (And.right (And.right (And.right (And.right (by assumption)))))))))))) | exact cne3 (And.left (And.right (And.right (And.right (And.right (And.right (And.right (And.right (And.right (And.right (by assumption))))))))))) | exact Ne.symm (cne3 (And.left (And.right (And.right (And.right (And.right (And.right (And.right (And.right (And.right (And.right (by assumption)))))))))))) | exact cne4 (And.left (And.right (And.right (And.right (And.right (And.right (And.right (And.right (And.right (And.right (by assumption))))))))))) | exact Ne.symm (cne4 (And.left (And.right (And.right (And.right (And.right (And.right (And.right (And.right (And.right (And.right (by assumption)))))))))))) | exact cne5 (And.left (And.right (And.right (And.right (And.right (And.right (And.right (And.right (And.right (And.right (by assumption))))))))))) | exact Ne.symm (cne5 (And.left (And.right (And.right (And.right (And.right (And.right (And.right (And.right (And.right (And.right (by assumption)))))))))))) | exact cne6 (And.left (And.right (And.right (And.right (And.right (And.right (And.right (And.right (And.right (And.right (by assumption))))))))))) | exact Ne.symm (cne6 (And.left (And.right (And.right (And.right (And.right (And.right (And.right (And.right (And.right (And.right (by assumption)))))))))))) | exact cne7 (And.left (And.right (And.right (And.right (And.right (And.right (And.right (And.right (And.right (And.right (by assumption))))))))))) | exact Ne.symm (cne7 (And.left (And.right (And.right (And.right (And.right (And.right (And.right (And.right (And.right (And.right (by assumption)))))))))))) | fail "ne") | fail "ne")
                            obtain ⟨ta9, hak⟩ : ∃ t, as.toList[(((i + 1 + q : Nat) : Int)).toNat]? = some (.int (abvS ds (i + 1 + q)) t) := by
                              rw [← abL_get (show i + 1 + q < ds.length from a_q hq)]
                              exact ints_at b1 _ (by rw [abL_len]; exact a_q hq)
                            have hgl := ints_size hgv
                            have hgl2 := goTo_len ds i q
                            k_with "my sub" => (rename News _ _ _ _ => N2; refine item_news (l := lA) N2 (by k_mem) (a_nn _) (a_lt (a_q hq) hn6) hak ?_)
                            k_with "my in" => (rename News _ _ _ _ => N2; refine in_list_ints (vs := gv.toList) ⟨_, (N2 _ (.tail _ (.head _))).1, rfl, _, rfl⟩ hgv ?_)
                            k_with "my append" => (k_dflt (refine' append_K ?k1 ?k2 ?k3 ?_ ?z; (case k1 => k_asm); (case k2 => k_asm); (case k3 => k_upd); (case z => (rw [sizeLine_eq]; first | exact sz_le4 hgl hgl2 hq hn6 | omega | (dsimp only; omega))); k_whole); intro h8 F8 N8; (try k_sweep))
                            k_steps
                            · rename News _ _ _ _ => NZ
                              rename Fr _ _ _ _ => FZ
                              exact ⟨_, _, _, _, rfl, FZ, NZ, offN_to hoffN4, _, _, rfl, ints_push hgv (goTo_yes (by assumption)), rfl, e2, e3, e4, e5, e6⟩
                            · rename News _ _ _ _ => NZ
                              rename Fr _ _ _ _ => FZ
                              exact ⟨_, _, _, _, rfl, FZ, NZ, hoff4, _, _, rfl, (goTo_no (by assumption)).symm ▸ hgv, rfl, e2, e3, e4, e5, e6⟩
                          · intro m₂ nx h4 tk4 hJ F4 N4
                            clear F1 N1 R1
                            obtain ⟨gv, kg, rfl, hgv, e1, e2, e3, e4, e5, e6⟩ := hJ
                            have F4a := fr_know (x := Str.ofString "falls") F4 e4
                            have F4b := fr_know (x := Str.ofString "heres") F4a (by rw [if_neg (by decide)]; exact e5)
                            have F4c := fr_know (x := Str.ofString "i") F4b (by rw [if_neg (by decide), if_neg (by decide)]; exact e6)
                            clear F4 F4a F4b
                            have hgS : IntsAre gv.toList (goS ds i) := hgv
                            obtain ⟨lJ, us, nJ, hfk, hmt, hus⟩ := hin i hi
                            have hmt2 := hsub _ hmt
                            have hfk2 : (fv.toArray).toList[(i : Int).toNat]? = some (.ref lJ) := hfk
                            k_with "my sub" => (rename News _ _ _ _ => N2; refine item_news (l := lF) N2 (by k_mem) (by first | (with_reducible first | exact a_nn _ | exact a_nn0 _ | exact a_nn1 _ | exact a_nn41 _ | exact a_nn43 _) | omega) (by first | (with_reducible first | exact a_lt (by assumption) hn6 | exact a_lt0 (by assumption) hn6 | exact a_lt1 (by assumption) hn6 | exact a_lt41 (by assumption) hn6 | exact a_lt43 (by assumption) hn6 | fail "no") | omega) hfk2 ?_)
                            k_with "my ne" => (rename News _ _ _ _ => N2; refine ne_ints_same (vs := us) (us := gv.toList) ⟨_, (N2 (lJ, listOf us.toArray nJ) (by repeat (first | exact hmt2 | apply List.Mem.tail))).1, rfl, _, rfl⟩ hus ⟨_, (N2 _ (.head _)).1, rfl, _, rfl⟩ hgS ?ku (fa_gone hdb hn6 hi) ?_; (case ku => ktr_units))
                            dsimp only
                            iterate 12 walk1
                            dsimp only
                            k_with_none
                            k_with "m1" => ((k_here; refine execs_cons_t (by first | exact Nat.succ_pos _ | assumption | (dsimp only; omega)) ?_))
                            k_with "m2" => (first | (refine tnext_next ?_; intro tk9 htk9) | refine tnext_ret ?_ | refine tnext_brk ?_ | refine tnext_cont ?_)
                            k_with "m19" => (first | refine postG_next ?_ | refine postG_cont ?_ | refine postG_ret ?_ | refine postG_brk ?_)
                            k_with "m20" => ((k_here; (rename Fr _ _ _ _ => lF'); (with_unfolding_all refine' For_invVF lF' ?k1 ?k2 ?_; (case k1 => exact rfl); (case k2 => exact rfl); k_whole)))
                            k_with "m21" => ((k_here; (rename Fr _ _ _ _ => F7); (rename News _ _ _ _ => N7); first | (with_unfolding_all refine range1_rows F7 N7 ?_; clear F7 N7; intro h7 tk7 t7 u7 v7 R7 F7 N7 K7; clear K7) | (with_unfolding_all refine range2_rows F7 N7 ?_; clear F7 N7; intro h7 tk7 t7 u7 v7 R7 F7 N7 K7; clear K7)))
                            k_with "m22" => ((k_here; k_dflt (first | refine LCg.ListComp_U (F₀ := by assumption) (by with_unfolding_all rfl) (by decide) (by rfl) (by decide) (by rfl) ?_ | refine LCt.ListComp_T (F₀ := by assumption) (by with_unfolding_all rfl) (by decide) (by rfl) (by decide) (by rfl) ?_)))
                            k_with "m23" => ((k_here; k_dflt (first | refine LCg.Assign_ListComp_U (F₀ := by assumption) rfl (by with_unfolding_all rfl) (by with_unfolding_all rfl) (by decide) (by rfl) (by decide) (by rfl) (by rfl) (by rfl) ?_)))
                            k_with "m24" => ((k_here; k_dflt (refine Assign_C (by assumption) rfl (by with_unfolding_all rfl) (by with_unfolding_all rfl) (fun _ => by rfl) (fun _ => by rfl) (by rfl) (by decide) (by rfl) (by rfl) (by rfl) ?_)))
                            k_with "all" => first | exact htg | exact htH
                            k_with "my append" => (k_dflt (refine' append_K ?k1 ?k2 ?k3 ?_ ?z; (case k1 => k_asm); (case k2 => k_asm); (case k3 => k_upd); (case z => (rw [sizeLine_eq]; first | exact sz_le3 hhs hi hn6 | omega | (dsimp only; omega))); k_whole); intro h8 F8 N8; (try k_sweep))
                            iterate 7 walk1
                            k_here
                            refine LCt.ListComp_T (F₀ := F4c) (closure_one rfl (a := s1.heap.objs.size + 1 + 1 + 1 + 1 + 1 + 1 + 1) rfl) (by decide) (by rfl) (by decide) (by rfl) ?_
                            iterate 7 walk1
                            rename Fr _ _ _ _ => F8
                            rename News _ _ _ _ => N8
                            rename IsRange _ _ _ _ _ _ _ _ => R8
                            refine LCt.CompSrcT.range (by rfl) F8 N8 R8 (range_up _ hn6).1 (range_up _ hn6).2 (by rw [sizeLine_eq]; omega) ?_
                            intro g7
                            refine restT_inv (fun q ys nw => nw = _ ∧ IntsAre ys (leTo ds i q)) ⟨rfl, .nil⟩ ?_ ?_
                            · intro j yl2 nw v I7 oI7 C7 oC7 D7 m7 h7 tk7 E7 hj7 hJ7 hv7 hC7 hx7 F9 N9 off7 ne7
                              obtain ⟨rfl, hys⟩ := hJ7
                              obtain ⟨tv7, rfl⟩ := hv7
                              k_with "my in" => (rename News _ _ _ _ => N2; refine notin_list_ints (vs := gv.toList) ⟨_, (N2 (_, listOf gv kg) (.tail _ (.tail _ (.tail _ (.head _))))).1, rfl, _, rfl⟩ hgS ?_)
                              k_steps
                              · rename ((goS ds i).any _ = true) => hgo
                                rename News _ _ _ _ => NZ
                                rename Fr _ _ _ _ => FZ
                                refine end_same off7 FZ NZ trivial ⟨rfl, ?_⟩
                                rw [Int.zero_add] at hgo
                                rw [leTo_no hgo]
                                exact hys
                              · rename ((goS ds i).any _ = false) => hgo
                                rename News _ _ _ _ => NZ
                                rename Fr _ _ _ _ => FZ
                                rw [Int.zero_add] at hgo
                                exact end_same off7 FZ NZ trivial ⟨rfl, ints_more hys ((leTo_yes hgo).trans (by rw [Int.zero_add]))⟩
                            · intro xs nw hJ7
                              obtain ⟨rfl, hxs⟩ := hJ7
                              unfold LCg.FinE
                              intro lX hX tkX FX NX oX
                              have oX2 := off1_mem oX
                              k_with "ne" => (refine neN ?_; (try dsimp only); first | (with_reducible first | assumption | (refine Ne.symm ?_; assumption)) | (with_reducible first | exact cd1 _ | exact (cd1 _).symm | exact cd2 _ | exact (cd2 _).symm | exact cd3 _ | exact (cd3 _).symm | exact cd4 _ | exact (cd4 _).symm | exact cd5 _ | exact (cd5 _).symm | exact cd6 _ | exact (cd6 _).symm) | (with_reducible first | exact cne7 hl1 | exact (cne7 hl1).symm | exact cne6 hl1 | exact (cne6 hl1).symm | exact cne5 hl1 | exact (cne5 hl1).symm | exact cne4 hl1 | exact (cne4 hl1).symm | exact cne3 hl1 | exact (cne3 hl1).symm | exact cne2 hl1 | exact (cne2 hl1).symm | exact cne1 hl1 | exact (cne1 hl1).symm | exact cne7 hA7 | exact (cne7 hA7).symm | exact cne6 hA7 | exact (cne6 hA7).symm | exact cne5 hA7 | exact (cne5 hA7).symm | exact cne4 hA7 | exact (cne4 hA7).symm | exact cne3 hA7 | exact (cne3 hA7).symm | exact cne2 hA7 | exact (cne2 hA7).symm | exact cne1 hA7 | exact (cne1 hA7).symm | exact cne7 hW7 | exact (cne7 hW7).symm | exact cne6 hW7 | exact (cne6 hW7).symm | exact cne5 hW7 | exact (cne5 hW7).symm | exact cne4 hW7 | exact (cne4 hW7).symm | exact cne3 hW7 | exact (cne3 hW7).symm | exact cne2 hW7 | exact (cne2 hW7).symm | exact cne1 hW7 | exact (cne1 hW7).symm | exact cne7 hN7 | exact (cne7 hN7).symm | exact cne6 hN7 | exact (cne6 hN7).symm | exact cne5 hN7 | exact (cne5 hN7).symm | exact cne4 hN7 | exact (cne4 hN7).symm | exact cne3 hN7 | exact (cne3 hN7).symm | exact cne2 hN7 | exact (cne2 hN7).symm | exact cne1 hN7 | exact (cne1 hN7).symm | exact cne7 hY7 | exact (cne7 hY7).symm | exact cne6 hY7 | exact (cne6 hY7).symm | exact cne5 hY7 | exact (cne5 hY7).symm | exact cne4 hY7 | exact (cne4 hY7).symm | exact cne3 hY7 | exact (cne3 hY7).symm | exact cne2 hY7 | exact (cne2 hY7).symm | exact cne1 hY7 | exact (cne1 hY7).symm | exact cne7 hP7 | exact (cne7 hP7).symm | exact cne6 hP7 | exact (cne6 hP7).symm | exact cne5 hP7 | exact (cne5 hP7).symm | exact cne4 hP7 | exact (cne4 hP7).symm | exact cne3 hP7 | exact (cne3 hP7).symm | exact cne2 hP7 | exact (cne2 hP7).symm | exact cne1 hP7 | exact (cne1 hP7).symm) | exact oX.1 | exact (oX.1).symm | exact oX.2.1 | exact (oX.2.1).symm | exact oX.2.2.1 | exact (oX.2.2.1).symm | exact oX.2.2.2.1 | exact (oX.2.2.2.1).symm | exact oX.2.2.2.2.1 | exact (oX.2.2.2.2.1).symm | exact oX.2.2.2.2.2.1 | exact (oX.2.2.2.2.2.1).symm | exact oX.2.2.2.2.2.2.1 | exact (oX.2.2.2.2.2.2.1).symm | exact oX.2.2.2.2.2.2.2.1 | exact (oX.2.2.2.2.2.2.2.1).symm | exact oX.2.2.2.2.2.2.2.2.1 | exact (oX.2.2.2.2.2.2.2.2.1).symm | exact hoffN.1 | exact (hoffN.1).symm | exact hoffN.2.1 | exact (hoffN.2.1).symm | exact hoffN.2.2.1 | exact (hoffN.2.2.1).symm | exact hoffN.2.2.2.1 | exact (hoffN.2.2.2.1).symm | exact hoffN.2.2.2.2.1 | exact (hoffN.2.2.2.2.1).symm | exact hoffN.2.2.2.2.2.1 | exact (hoffN.2.2.2.2.2.1).symm | exact hoffN.2.2.2.2.2.2.1 | exact (hoffN.2.2.2.2.2.2.1).symm | exact Nat.ne_of_lt hC.1.1 | exact Nat.ne_of_gt hC.1.1 | exact Nat.ne_of_lt hC.1.2.1 | exact Nat.ne_of_gt hC.1.2.1 | exact Nat.ne_of_lt hC.1.2.2.1 | exact Nat.ne_of_gt hC.1.2.2.1 | exact Nat.ne_of_lt hC.1.2.2.2.1 | exact Nat.ne_of_gt hC.1.2.2.2.1 | exact Nat.ne_of_lt hC.1.2.2.2.2.1 | exact Nat.ne_of_gt hC.1.2.2.2.2.1 | exact Nat.ne_of_lt hC.2.1.1 | exact Nat.ne_of_gt hC.2.1.1 | exact Nat.ne_of_lt hC.2.1.2.1 | exact Nat.ne_of_gt hC.2.1.2.1 | exact Nat.ne_of_lt hC.2.1.2.2.1 | exact Nat.ne_of_gt hC.2.1.2.2.1 | exact Nat.ne_of_lt hC.2.1.2.2.2.1 | exact Nat.ne_of_gt hC.2.1.2.2.2.1 | exact Nat.ne_of_lt hC.2.2.1.1 | exact Nat.ne_of_gt hC.2.2.1.1 | exact Nat.ne_of_lt hC.2.2.1.2.1 | exact Nat.ne_of_gt hC.2.2.1.2.1 | exact Nat.ne_of_lt hC.2.2.1.2.2.1 | exact Nat.ne_of_gt hC.2.2.1.2.2.1 | exact Nat.ne_of_lt hC.2.2.2.1.1 | exact Nat.ne_of_gt hC.2.2.2.1.1 | exact Nat.ne_of_lt hC.2.2.2.1.2.1 | exact Nat.ne_of_gt hC.2.2.2.1.2.1 | exact Nat.ne_of_lt hC.2.2.2.2.1.1 | exact Nat.ne_of_gt hC.2.2.2.2.1.1 | (with_reducible first | exact Nat.ne_of_lt (by assumption) | exact Nat.ne_of_gt (by assumption) | fail "ne") | (with_reducible first | exact Nat.ne_of_gt (And.left (by assumption)) | exact Nat.ne_of_lt (And.left (by assumption)) | exact Nat.ne_of_gt (And.left (And.right (by assumption))) | exact Nat.ne_of_lt (And.left (And.right (by assumption))) | exact Nat.ne_of_gt (And.left (And.right (And.right (by assumption)))) | exact Nat.ne_of_lt (And.left (And.right (And.right (by assumption)))) | exact Nat.ne_of_gt (And.left (And.right (And.right (And.right (by assumption))))) | exact Nat.ne_of_lt (And.left (And.right (And.right (And.right (by assumption))))) | exact Nat.ne_of_gt (And.left (And.right (And.right (And.right (And.right (by assumption)))))) | exact Nat.ne_of_lt (And.left (And.right (And.right (And.right (And.right (by assumption)))))) | exact Nat.ne_of_gt (And.left (And.right (And.right (And.right (And.right (And.right (by assumption))))))) | exact Nat.ne_of_lt (And.left (And.right (And.right (And.right (And.right (And.right (by assumption))))))) | exact Nat.ne_of_gt (And.left (And.right (And.right (And.right (And.right (And.right (And.right (by assumption)))))))) | exact Nat.ne_of_lt (And.left (And.right (And.right (And.right (And.right (And.right (And.right (by assumption)))))))) | exact Nat.ne_of_gt (And.left (And.right (And.right (And.right (And.right (And.right (And.right (And.right (by assumption))))))))) | exact Nat.ne_of_lt (And.left (And.right (And.right (And.right (And.right (And.right (And.right (And.right (by assumption))))))))) | exact Nat.ne_of_gt (And.left (And.right (And.right (And.right (And.right (And.right (And.right (And.right (And.right (by assumption)))))))))) | exact Nat.ne_of_lt (And.left (And.right (And.right (And.right (And.right (And.right (And.right (And.right (And.right (by assumption)))))))))) | exact Nat.ne_of_gt (And.left (And.right (And.right (And.right (And.right (And.right (And.right (And.right (And.right (And.right (by assumption))))))))))) | exact Nat.ne_of_lt (And.left (And.right (And.right (And.right (And.right (And.right (And.right (And.right (And.right (And.right (by assumption))))))))))) | exact Nat.ne_of_gt (And.left (And.right (And.right (And.right (And.right (And.right (And.right (And.right (And.right (And.right (And.right (by assumption)))))))))))) | exact Nat.ne_of_lt (And.left (And.right (And.right (And.right (And.right (And.right (And.right (And.right (And.right (And.right (And.right (by assumption)))))))))))) | exact Nat.ne_of_gt (And.left (And.right (And.right (And.right (And.right (And.right (And.right (And.right (And.right (And.right (And.right (And.right (by assumption))))))))))))) | exact Nat.ne_of_lt (And.left (And.right (And.right (And.right (And.right (And.right (And.right (And.right (And.right (And.right (And.right (And.right (by assumption))))))))))))) | exact Nat.ne_of_gt (And.left (And.right (And.right (And.right (And.right (And.right (And.right (And.right (And.right (And.right (And.right (And.right (And.right (by assumption)))))))))))))) | exact Nat.ne_of_lt (And.left (And.right (And.right (And.right (And.right (And.right (And.right (And.right (And.right (And.right (And.right (And.right (And.right (by assumption)))))))))))))) | exact Nat.ne_of_gt (And.left (And.right (And.right (And.right (And.right (And.right (And.right (And.right (And.right (And.right (And.right (And.right (And.right (And.right (by assumption))))))))))))))) | exact Nat.ne_of_lt (And.left (And.right (And.right (And.right (And.right (And.right (And.right (And.right (And.right (And.right (And.right (And.right (And.right (And.right (by assumption))))))))))))))) | exact cne1 (And.left (by assumption)) | exact Ne.symm (cne1 (And.left (by assumption))) | exact cne2 (And.left (by assumption)) | exact Ne.symm (cne2 (And.left (by assumption))) | exact cne3 (And.left (by assumption)) | exact Ne.symm (cne3 (And.left (by assumption))) | exact cne4 (And.left (by assumption)) | exact Ne.symm (cne4 (And.left (by assumption))) | exact cne5 (And.left (by assumption)) | exact Ne.symm (cne5 (And.left (by assumption))) | exact cne6 (And.left (by assumption)) | exact Ne.symm (cne6 (And.left (by assumption))) | exact cne7 (And.left (by assumption)) | exact Ne.symm (cne7 (And.left (by assumption))) | exact cne1 (And.left (And.right (by assumption))) | exact Ne.symm (cne1 (And.left (And.right (by assumption)))) | exact cne2 (And.left (And.right (by assumption))) | exact Ne.symm (cne2 (And.left (And.right (by assumption)))) | exact cne3 (And.left (And.right (by assumption))) | exact Ne.symm (cne3 (And.left (And.right (by assumption)))) | exact cne4 (And.left (And.right (by assumption))) | exact Ne.symm (cne4 (And.left (And.right (by assumption)))) | exact cne5 (And.left (And.right (by assumption))) | exact Ne.symm (cne5 (And.left (And.right (by assumption)))) | exact cne6 (And.left (And.right (by assumption))) | exact Ne.symm (cne6 (And.left (And.right (by assumption)))) | exact cne7 (And.left (And.right (by assumption))) | exact Ne.symm (cne7 (And.left (And.right (by assumption)))) | exact cne1 (And.left (And.right (And.right (by assumption)))) | exact Ne.symm (cne1 (And.left (And.right (And.right (by assumption))))) | exact cne2 (And.left (And.right (And.right (by assumption)))) | exact Ne.symm (cne2 (And.left (And.right (And.right (by assumption))))) | exact cne3 (And.left (And.right (And.right (by assumption)))) | exact Ne.symm (cne3 (And.left (And.right (And.right (by assumption))))) | exact cne4 (And.left (And.right (And.right (by assumption)))) | exact Ne.symm (cne4 (And.left (And.right (And.right (by assumption))))) | exact cne5 (And.left (And.right (And.right (by assumption)))) | exact Ne.symm (cne5 (And.left (And.right (And.right (by assumption))))) | exact cne6 (And.left (And.right (And.right (by assumption)))) | exact Ne.symm (cne6 (And.left (And.right (And.right (by assumption))))) | exact cne7 (And.left (And.right (And.right (by assumption)))) | exact Ne.symm (cne7 (And.left (And.right (And.right (by assumption))))) | exact cne1 (And.left (And.right (And.right (And.right (by assumption))))) | exact Ne.symm (cne1 (And.left (And.right (And.right (And.right (by assumption)))))) | exact cne2 (And.left (And.right (And.right (And.right (by assumption))))) | exact Ne.symm (cne2 (And.left (And.right (And.right (And.right (by assumption)))))) | exact cne3 (And.left (And.right (And.right (And.right (by assumption))))) | exact Ne.symm (cne3 (And.left (And.right (And.right (And.right (by assumption)))))) | exact cne4 (And.left (And.right (And.right (And.right (by assumption))))) | exact Ne.symm (cne4 (And.left (And.right (And.right (And.right (by assumption)))))) | exact cne5 (And.left (And.right (And.right (And.right (by assumption))))) | exact Ne.symm (cne5 (And.left (And.right (And.right (And.right (by assumption)))))) | exact cne6 (And.left (And.right (And.right (And.right (by assumption))))) | exact Ne.symm (cne6 (And.left (And.right (And.right (And.right (by assumption)))))) | exact cne7 (And.left (And.right (And.right (And.right (by assumption))))) | exact Ne.symm (cne7 (And.left (And.right (And.right (And.right (by assumption)))))) | exact cne1 (And.left (And.right (And.right (And.right (And.right (by assumption)))))) | exact Ne.symm (cne1 (And.left (And.right (And.right (And.right (And.right (by assumption))))))) | exact cne2 (And.left (And.right (And.right (And.right (And.right (by assumption)))))) | exact Ne.symm (cne2 (And.left (And.right (And.right (And.right (And.right (by assumption))))))) | exact cne3 (And.left (And.right (And.right (And.right (And.right (by assumption)))))) | exact Ne.symm (cne3 (And.left (And.right (And.right (And.right (And.right (by assumption))))))) | exact cne4 (And.left (And.right (And.right (And.right (And.right (by assumption)))))) | exact Ne.symm (cne4 (And.left (And.right (And.right (And.right (And.right (by assumption))))))) | exact cne5 (And.left (And.right (And.right (And.right (And.right (by assumption)))))) | exact Ne.symm (cne5 (And.left (And.right (And.right (And.right (And.right (by assumption))))))) | exact cne6 (And.left (And.right (And.right (And.right (And.right (by assumption)))))) | exact Ne.symm (cne6 (And.left (And.right (And.right (And.right (And.right (by assumption))))))) | exact cne7 (And.left (And.right (And.right (And.right (And.right (by assumption)))))) | exact Ne.symm (cne7 (And.left (And.right (And.right (And.right (And.right (by assumption))))))) | exact cne1 (And.left (And.right (And.right (And.right (And.right (And.right (by assumption))))))) | exact Ne.symm (cne1 (And.left (And.right (And.right (And.right (And.right (And.right (by assumption)))))))) | exact cne2 (And.left (And.right (And.right (And.right (And.right (And.right (by assumption))))))) | exact Ne.symm (cne2 (And.left (And.right (And.right (And.right (And.right (And.right (by assumption)))))))) | exact cne3 (And.left (And.right (And.right (And.right (And.right (And.right (by assumption))))))) | exact Ne.symm (cne3 (And.left (And.right (And.right (And.right (And.right (And.right (by assumption)))))))) | exact cne4 (And.left (And.right (And.right (And.right (And.right (And.right (by assumption))))))) | exact Ne.symm (cne4 (And.left (And.right (And.right (And.right (And.right (And.right (by assumption)))))))) | exact cne5 (And.left (And.right (And.right (And.right (And.right (And.right (by assumption))))))) | exact Ne.symm (cne5 (And.left (And.right (And.right (And.right (And.right (And.right (by assumption)))))))) | exact cne6 (And.left (And.right (And.right (And.right (And.right (And.right (by assumption))))))) | exact Ne.symm (cne6 (And.left (And.right (And.right (And.right (And.right (And.right (by assumption)))))))) | exact cne7 (And.left (And.right (And.right (And.right (And.right (And.right (by assumption))))))) | exact Ne.symm (cne7 (And.left (And.right (And.right (And.right (And.right (And.right (by assumption)))))))) | exact cne1 (And.left (And.right (And.right (And.right (And.right (And.right (And.right (by assumption)))))))) | exact Ne.symm (cne1 (And.left (And.right (And.right (And.right (And.right (And.right (And.right (by assumption))))))))) | exact cne2 (And.left (And.right (And.right (And.right (And.right (And.right (And.right (by assumption)))))))) | exact Ne.symm (cne2 (And.left (And.right (And.right (And.right (And.right (And.right (And.right (by assumption))))))))) | exact cne3 (And.left (And.right (And.right (And.right (And.right (And.right (And.right (by assumption)))))))) | exact Ne.symm (cne3 (And.left (And.right (And.right (And.right (And.right (And.right (And.right (by assumption))))))))) | exact cne4 (And.left (And.right (And.right (And.right (And.right (And.right (And.right (by assumption)))))))) | exact Ne.symm (cne4 (And.left (And.right (And.right (And.right (And.right (And.right (And.right (by assumption))))))))) | exact cne5 (And.left (And.right (And.right (And.right (And.right (And.right (And.right (by assumption)))))))) | exact Ne.symm (cne5 (And.left (And.right (And.right (And.right (And.right (And.right (And.right (by assumption))))))))) | exact cne6 (And.left (And.right (And.right (And.right (And.right (And.right (And.right (by assumption)))))))) | exact Ne.symm (cne6 (And.left (And.right (And.right (And.right (And.right (And.right (And.right (by assumption))))))))) | exact cne7 (And.left (And.right (And.right (And.right (And.right (And.right (And.right (by assumption)))))))) | exact Ne.symm (cne7 (And.left (And.right (And.right (And.right (And.right (And.right (And.right (by assumption))))))))) | exact cne1 (And.left (And.right (And.right (And.right (And.right (And.right (And.right (And.right (by assumption))))))))) | exact Ne.symm (cne1 (And.left (And.right (And.right (And.right (And.right (And.right (And.right (And.right (by assumption)))))))))) | exact cne2 (And.left (And.right (And.right (And.right (And.right (And.right (And.right (And.right (by assumption))))))))) | exact Ne.symm (cne2 (And.left (And.right (And.right (And.right (And.right (And.right (And.right (And.right (by assumption)))))))))) | exact cne3 (And.left (And.right (And.right (And.right (And.right (And.right (And.right (And.right (by assumption))))))))) | exact Ne.symm (cne3 (And.left (And.right (And.right (And.right (And.right (And.right (And.right (And.right (by assumption)))))))))) | exact cne4 (And.left (And.right (And.right (And.right (And.right (And.right (And.right (And.right (by assumption))))))))) | exact Ne.symm (cne4 (And.left (And.right (And.right (And.right (And.right (And.right (And.right (And.right (by assumption)))))))))) | exact cne5 (And.left (And.right (And.right (And.right (And.right (And.right (And.right (And.right (by assumption))))))))) | exact Ne.symm (cne5 (And.left (And.right (And.right (And.right (And.right (And.right (And.right (And.right (by assumption)))))))))) | exact cne6 (And.left (And.right (And.right (And.right (And.right (And.right (And.right (And.right (by assumption))))))))) | exact Ne.symm (cne6 (And.left (And.right (And.right (And.right (And.right (And.right (And.right (And.right (by assumption)))))))))) | exact cne7 (And.left (And.right (And.right (And.right (And.right (And.right (And.right (And.right (by assumption))))))))) | exact Ne.symm (cne7 (And.left (And.right (And.right (And.right (And.right (And.right (And.right (And.right (by assumption)))))))))) | exact cne1 (And.left (And.right (And.right (And.right (And.right (And.right (And.right (And.right (And.right (by assumption)))))))))) | exact Ne.symm (cne1 (And.left (And.right (And.right (And.right (And.right (And.right (And.right (And.right (And.right (by assumption))))))))))) | exact cne2 (And.left (And.right (And.right (And.right (And.right (And.right (And.right (And.right (And.right (by assumption)))))))))) | exact Ne.symm (cne2 (And.left (And.right (And.right (And.right (And.right (And.right (And.right (And.right (And.right (by assumption))))))))))) | exact cne3 (And.left (And.right (And.right (And.right (And.right (And.right (And.right (And.right (And.right (by assumption)))))))))) | exact Ne.symm (cne3 (And.left (And.right (And.right (And.right (And.right (And.right (And.right (And.right (And.right (by assumption))))))))))) | exact cne4 (And.left (And.right (And.right (And.right (And.right (And.right (And.right (And.right (And.right (by assumption)))))))))) | exact Ne.symm (cne4 (And.left (And.right (And.right (And.right (And.right (And.right (And.right (And.right (And.right (by assumption))))))))))) | exact cne5 (And.left (And.right (And.right (And.right (And.right (And.right (And.right (And.right (And.right (by assumption)))))))))) | exact Ne.symm (cne5 (And.left (And.right (And.right (And.right (And.right (And.right (And.right (And.right (And.right (by assumption))))))))))) | exact cne6 (And.left (And.right (And.right (And.right (And.right (And.right (And.right (And.right (And.right (by assumption)))))))))) | exact Ne.symm (cne6 (And.left (And.right (And.right (And.right (And.right (And.right (And.right (And.right (And.right (by assumption))))))))))) | exact cne7 (And.left (And.right (And.right (And.right (And.right (And.right (And.right (And.right (And.right (by assumption)))))))))) | exact Ne.symm (cne7 (And.left (And.right (And.right (And.right (And.right (And.right (And.right (And.right (And.right (by assumption))))))))))) | exact cne1 (And.left (And.right (And.right (And.right (And.right (And.right (And.right (And.right (And.right (And.right (by assumption))))))))))) | exact Ne.symm (cne1 (And.left (And.right (And.right (And.right (And.right (And.right (And.right (And.right (And.right (And.right (by assumption)))))))))))) | exact cne2 (And.left (And.right (And.right (And.right (And.right (And.right (And.right (And.right (And.right (And.right (by assumption))))))))))) | exact Ne.symm (cne2 (And.left (And.right (And.right (And.right (And.right (And.right (And.right (And.right (And.right (And.right (by assumption)))))))))))) | exact cne3 (And.left (And.right (And.right (And.right (And.right (And.right (And.right (And.right (And.right (And.right (by assumption))))))))))) | exact Ne.symm (cne3 (And.left (And.right (And.right (And.right (And.right (And.right (And.right (And.right (And.right (And.right (by assumption)))))))))))) | exact cne4 (And.left (And.right (And.right (And.right (And.right (And.right (And.right (And.right (And.right (And.right (by assumption))))))))))) | exact Ne.symm (cne4 (And.left (And.right (And.right (And.right (And.right (And.right (And.right (And.right (And.right (And.right (by assumption)))))))))))) | exact cne5 (And.left (And.right (And.right (And.right (And.right (And.right (And.right (And.right (And.right (And.right (by assumption))))))))))) | exact Ne.symm (cne5 (And.left (And.right (And.right (And.right (And.right (And.right (And.right (And.right (And.right (And.right (by assumption)))))))))))) | exact cne6 (And.left (And.right (And.right (And.right (And.right (And.right (And.right (And.right (And.right (And.right (by assumption))))))))))) | exact Ne.symm (cne6 (And.left (And.right (And.right (And.right (And.right (And.right (And.right (And.right (And.right (And.right (by assumption)))))))))))) | exact cne7 (And.left (And.right (And.right (And.right (And.right (And.right (And.right (And.right (And.right (And.right (by assumption))))))))))) | exact Ne.symm (cne7 (And.left (And.right (And.right (And.right (And.right (And.right (And.right (And.right (And.right (And.right (by assumption)))))))))))) | fail "ne") | fail "ne")
                              dsimp only
                              iterate 1 walk1
                              k_here
                              k_dflt (refine' append_K ?k1 ?k2 ?k3 ?_ ?z)
                              case k1 => k_asm
                              case k2 => k_asm
                              case k3 => k_upd
                              case z => rw [sizeLine_eq]; exact sz_le3 hhs hi hn6
                              k_whole
                              intro h8 F8 N8
                              iterate 2 walk1
                              obtain ⟨a1, a2, a3, a4, a5, a6, a7, a8⟩ := hoffN
                              rename Obj => oZ
                              rename oZ.data = _ => cZ
                              refine ⟨_, _, _, (lH, listOf (hv.push (.ref lX)) (kh + 1)) :: (lF, listOf fv.toArray fv.length) :: (lC, listOf uv.toArray uv.length) :: (lW, listOf ws kw) :: (lA, listOf as ka) :: (s1.heap.objs.size + 1 + 1 + 1 + 1 + 1 + 1 + 1, oZ) :: (s1.heap.objs.size + 1 + 1, oC) :: (lX, listOf xs.toArray xs.length) :: tail, rfl, F8, news_sub N8 ?_, offN_to (by simp only [OffN]; exact ⟨a1, a2, a3, a4, a5, a6, a7, fun e => oX.2.1 e.symm, a8⟩), kj_more cZ hhs hhe hsub htH htg oX.2.2.1 oX.2.2.2.2.2.2.2.1 hxs e1 e2 e3 rfl rfl⟩
                              intro p hp
                              rcases List.mem_cons.mp hp with rfl | hp
                              · exact .tail _ (.tail _ (.head _))
                              rcases List.mem_cons.mp hp with rfl | hp
                              · exact .tail _ (.tail _ (.tail _ (.head _)))
                              rcases List.mem_cons.mp hp with rfl | hp
                              · exact .tail _ (.tail _ (.tail _ (.tail _ (.head _))))
                              rcases List.mem_cons.mp hp with rfl | hp
                              · exact .tail _ (.tail _ (.tail _ (.tail _ (.tail _ (.head _)))))
                              rcases List.mem_cons.mp hp with rfl | hp
                              · exact .tail _ (.tail _ (.tail _ (.tail _ (.tail _ (.tail _ (.head _))))))
                              rcases List.mem_cons.mp hp with rfl | hp
                              · exact .tail _ (.tail _ (.tail _ (.tail _ (.tail _ (.tail _ (.tail _ (.head _)))))))
                              rcases List.mem_cons.mp hp with rfl | hp
                              · exact .tail _ (.tail _ (.tail _ (.tail _ (.tail _ (.tail _ (.tail _ (.tail _ (.head _))))))))
                              rcases List.mem_cons.mp hp with rfl | hp
                              · exact .tail _ (.tail _ (.tail _ (.tail _ (.tail _ (.tail _ (.tail _ (.tail _ (.tail _ (.head _)))))))))
                              rcases List.mem_cons.mp hp with rfl | hp
                              · exact .head _
                              · exact .tail _ (.tail _ (.tail _ (.tail _ (.tail _ (.tail _ (.tail _ (.tail _ (.tail _ (.tail _ hp)))))))))
                        · clear F1 N1 R1 hKJ
                          intro m₁ nx h3 tk3 hJ F3 N3
                          exact ⟨_, _, _, _, rfl, F3, N3, hJ⟩
                      · clear F1 N1 hKJ htk
                        intro h2 tk2 m2 nx2 htk F1 N1 hKJ
                        try dsimp only
                        k_with_none
                        k_with "m1" => ((k_here; refine execs_cons_t (by first | exact Nat.succ_pos _ | assumption | (dsimp only; omega)) ?_))
                        k_with "m2" => (first | (refine tnext_next ?_; intro tk9 htk9) | refine tnext_ret ?_ | refine tnext_brk ?_ | refine tnext_cont ?_)
                        k_with "m19" => (first | refine postG_next ?_ | refine postG_cont ?_ | refine postG_ret ?_ | refine postG_brk ?_)
                        k_with "m20" => ((k_here; (rename Fr _ _ _ _ => lF'); (with_unfolding_all refine' For_invVF lF' ?k1 ?k2 ?_; (case k1 => exact rfl); (case k2 => exact rfl); k_whole)))
                        k_with "m21" => ((k_here; (rename Fr _ _ _ _ => F7); (rename News _ _ _ _ => N7); first | (with_unfolding_all refine range1_rows F7 N7 ?_; clear F7 N7; intro h7 tk7 t7 u7 v7 R7 F7 N7 K7; clear K7) | (with_unfolding_all refine range2_rows F7 N7 ?_; clear F7 N7; intro h7 tk7 t7 u7 v7 R7 F7 N7 K7; clear K7)))
                        k_with "m22" => ((k_here; k_dflt (first | refine LCg.ListComp_U (F₀ := by assumption) (by with_unfolding_all rfl) (by decide) (by rfl) (by decide) (by rfl) ?_ | refine LCt.ListComp_T (F₀ := by assumption) (by with_unfolding_all rfl) (by decide) (by rfl) (by decide) (by rfl) ?_)))
                        k_with "m23" => ((k_here; k_dflt (first | refine LCg.Assign_ListComp_U (F₀ := by assumption) rfl (by with_unfolding_all rfl) (by with_unfolding_all rfl) (by decide) (by rfl) (by decide) (by rfl) (by rfl) (by rfl) ?_)))
                        k_with "m24" => ((k_here; k_dflt (refine Assign_C (by assumption) rfl (by with_unfolding_all rfl) (by with_unfolding_all rfl) (fun _ => by rfl) (fun _ => by rfl) (by rfl) (by decide) (by rfl) (by rfl) (by rfl) ?_)))
                        obtain ⟨hv, kh, og, vg, tail, rfl, cg, hhs, hhe, hsub, htH, htg, q1, q2, q3, q4, q5⟩ := hKJ
                        have F1a := fr_know (x := Str.ofString "heres") F1 q5
                        clear F1
                        have hcl : (abL ds ds.length).length = ds.length := abL_len ds ds.length
                        walk1
                        rename Fr _ _ _ _ => F1
                        (with_unfolding_all refine' For_invVF F1 ?k1 ?k2 ?_; (case k1 => exact rfl); (case k2 => exact rfl))
                        iterate 1 walk1
                        rename Fr _ _ _ _ => F1
                        refine listInv (vs := hv.toList) (MJ ((lH, listOf hv kh) :: (lF, listOf fv.toArray fv.length) :: (lC, listOf uv.toArray uv.length) :: (lW, listOf ws kw) :: (lA, listOf as ka) :: (s1.heap.objs.size + 1 + 1 + 1 + 1 + 1 + 1 + 1, og) :: (s1.heap.objs.size + 1 + 1, oC) :: tail) lH lF lC lW lA) rfl rfl F1 N1 (.head _) ⟨rfl, q1, q2, q3, q4, rfl⟩ ?_ ?_
                        · intro i v m₁ nx h3 tk3 I3 oI3 hv3 hJ hml hoff F3 N3
                          obtain ⟨rfl, e1, e2, e3, e4, e5⟩ := hJ
                          have hik : i ≤ ds.length := by
                            have := (List.getElem?_eq_some_iff.mp hv3).1
                            rw [Array.length_toList, hhs] at this
                            exact Nat.le_of_lt_succ this
                          obtain ⟨D, us, nD, hD, hmD, hus⟩ := hhe i hik
                          have hvD : v = .ref D := by rw [hv3] at hD; exact Option.some.inj hD
                          subst hvD
                          have F3a := fr_know (x := Str.ofString "aboves") F3 (by rw [if_neg (by decide)]; exact e1)
                          have F3b := fr_know (x := Str.ofString "whose") F3a (by rw [if_neg (by decide), if_neg (by decide)]; exact e2)
                          have F3c := fr_know (x := Str.ofString "cuts") F3b (by rw [if_neg (by decide), if_neg (by decide), if_neg (by decide)]; exact e3)
                          have F3d := fr_know (x := Str.ofString "falls") F3c (by rw [if_neg (by decide), if_neg (by decide), if_neg (by decide), if_neg (by decide)]; exact e4)
                          clear F3 F3a F3b F3c
                          have hwo := fun mean mg mb => worth_spec w mean mg mb lA lW D as.toList ws.toList us.toList (abL ds ds.length) (whL ds ds.length) (heS ds i) b1 b2 hus ka kw nD (by rw [whL_len, abL_len]) (by rw [abL_len]; exact hn6) (fun k hk => by rw [abL_len] at hk; rw [abL_get hk]; exact abv_bd ds k) (Nat.le_trans (heS_len i) hn6)
                          have hfi := fun mean mg mb who tw => first_spec w mean mg mb lC lF uv fv (cuL ds ds.length) (faLL ds wh) (by rw [faLL_len, cuL_len]) (by rw [cuL_len]; exact hn6) huv uv.length fv.length inner
                            (fun k h0 h1 => by
                              rw [faLL_len] at h1
                              obtain ⟨D, us, n, e, hm, hi⟩ := hin k.toNat (a_tlt h0 h1)
                              exact ⟨D, us, n, e, hm, by rw [faLL_get (a_tlt h0 h1)]; exact hi⟩)
                            (fun k h0 h1 => by
                              rw [faLL_len] at h1
                              rw [faLL_get (a_tlt h0 h1), fa_gone hdb hn6 (a_tlt h0 h1), List.any_eq_true]
                              exact ⟨k, by have := go_self ds k.toNat (ds.length - (k.toNat + 1)); rwa [show ((k.toNat : Nat) : Int) = k from a_tn h0] at this, by simp⟩) 6 (by omega) D us.toList (heS ds i) nD who tw (fun j hj => by rw [cuL_len]; exact heS_in i j hj) hus (Nat.le_trans (heS_len i) hn6)
                          have hg0 := game_0 (wh := wh) hdb hn6 hik
                          have hg1 := game_1 (wh := wh) hdb hn6 hik
                          have hnW : ∀ p ∈ [(lA, listOf as.toList.toArray ka), (lW, listOf ws.toList.toArray kw), (D, listOf us.toList.toArray nD)], p ∈ (I3, oI3) :: (lH, listOf hv kh) :: (lF, listOf fv.toArray fv.length) :: (lC, listOf uv.toArray uv.length) :: (lW, listOf ws kw) :: (lA, listOf as ka) :: (s1.heap.objs.size + 1 + 1 + 1 + 1 + 1 + 1 + 1, og) :: (s1.heap.objs.size + 1 + 1, oC) :: tail := by
                            intro p hp
                            simp only [List.mem_cons, List.not_mem_nil, or_false] at hp
                            rcases hp with rfl | rfl | rfl
                            · exact .tail _ (.tail _ (.tail _ (.tail _ (.tail _ (.head _)))))
                            · exact .tail _ (.tail _ (.tail _ (.tail _ (.head _))))
                            · exact .tail _ (.tail _ (.tail _ (.tail _ (.tail _ (.tail _ (.tail _ (.tail _ hmD)))))))
                          have hnF : ∀ p ∈ FwNeed lC lF D uv fv us.toList uv.length fv.length nD inner, p ∈ (I3, oI3) :: (lH, listOf hv kh) :: (lF, listOf fv.toArray fv.length) :: (lC, listOf uv.toArray uv.length) :: (lW, listOf ws kw) :: (lA, listOf as ka) :: (s1.heap.objs.size + 1 + 1 + 1 + 1 + 1 + 1 + 1, og) :: (s1.heap.objs.size + 1 + 1, oC) :: tail := by
                            intro p hp
                            unfold FwNeed at hp
                            rcases List.mem_cons.mp hp with rfl | hp
                            · exact .tail _ (.tail _ (.tail _ (.head _)))
                            rcases List.mem_cons.mp hp with rfl | hp
                            · exact .tail _ (.tail _ (.head _))
                            rcases List.mem_cons.mp hp with rfl | hp
                            · exact .tail _ (.tail _ (.tail _ (.tail _ (.tail _ (.tail _ (.tail _ (.tail _ hmD)))))))
                            · exact .tail _ (.tail _ (.tail _ (.tail _ (.tail _ (.tail _ (.tail _ (.tail _ (hsub _ hp))))))))
                          k_with "my call" => ((first | (with_reducible show wpAny _ _ (call _ [_, _, _]) _ _ _); refine' claim_use (hwo _ _ _) ?k1 ?k2 ?k3 ?k4 ?k5 ?kK ?kn ?kd ?ku ?kt ?_ | (with_reducible show wpAny _ _ (call _ [_, _, _, Value.int 0 _]) _ _ _); refine' claim_use (hfi _ _ _ 0 _ (by omega) (by omega)) ?k1 ?k2 ?k3 ?k4 ?k5 ?kK ?kn ?kd ?ku ?kt ?_ | (with_reducible show wpAny _ _ (call _ [_, _, _, Value.int 1 _]) _ _ _); refine' claim_use (hfi _ _ _ 1 _ (by omega) (by omega)) ?k1 ?k2 ?k3 ?k4 ?k5 ?kK ?kn ?kd ?ku ?kt ?_); (case k1 => k_asm); (case k2 => k_asm); (case k3 => k_asm); (case k4 => k_asm); (case k5 => k_asm); (case kK => first | exact rfl | assumption); (case kn => first | exact hnW | exact hnF); (case kd => ktr_room); (case ku => ktr_units); (case kt => first | exact Nat.zero_le _ | (dsimp only; omega)); intro r9 h9 tk9 R9 F9 N9; (first | (obtain ⟨t9, e9⟩ := R9; subst e9) | subst R9); (try dsimp only); (try k_fold))
                          k_steps
                          rename News _ _ _ _ => NZ
                          rename Fr _ _ _ _ => FZ
                          exact ⟨_, _, _, _, rfl, FZ, NZ, hoff, hml, rfl, rfl, rfl, rfl, rfl, e5⟩
                        · intro m₁ nx h3 tk3 hJ hml F3 N3
                          obtain ⟨rfl, e1, e2, e3, e4, e5⟩ := hJ
                          k_steps
end
end Mine
theorem PySem.Challenge.cw_il0079_01_holds : PySem.Challenge.rw_il0079_01.Holds :=
  Mine.law_holds
