import PyProof.Rows.All
import Wide.All
import OpenK.AllK
import Wide.FinOn
import PySem.Challenge.RW_rl0026_01
open PySem PySem.W PyProof.Rows
set_option Elab.async false
namespace Mine
set_option maxRecDepth 100000 in
set_option maxHeartbeats 8000000 in
open_top hd for PySem.Challenge.rw_rl0026_01
-- CSpec
/-- a call of the text's def at f, from any frame, over the ledger news: it ends in Out, the ledger stands -/
abbrev CS (w : World) (f : Addr) (vs : List Value) (news : List (Addr × Obj)) (dD dU : Nat) (Out : Value → Prop) : Prop :=
  ∀ (loose : List Str) (mean : ExcName → Option Value) (mg mb : Str → Option Value) (dp un : Nat) (gd : Option (List Code)) (cn : Str) (cs : Scope) (a : Addr) (ccd : Value) (cl : List (Str × Addr)) (outer : List Env) (A₀ : Around) (base h₀ : Heap) (L : Addr) (m : Str → Option Value) (s : Shared) (Q E : Value → Shared → Prop),
    Below A₀ base outer h₀ → Fr h₀ L s.heap m → (hd.heap_39 w.params).In h₀ → News h₀ L s.heap news → Top topProg loose mean mg mb h₀ → cs.kind = .function → dp + dD < recursionLimit → un + dU < cLine →
    (∀ r h' tk', Fr h₀ L h' m → News h₀ L h' news → Out r → Q r { s with heap := h', toks := tk' }) →
    wpAny (model (PySem.Challenge.rw_rl0026_01.row.prog) w) (ktrTop dp un gd cn cs L a ccd cl outer) (call (.ref f) vs) Q E s

theorem CS.use {w : World} {f : Addr} {vs : List Value} {news : List (Addr × Obj)} {dD dU : Nat} {Out : Value → Prop} (C : CS w f vs news dD dU Out)
    {loose : List Str} {mean : ExcName → Option Value} {mg mb : Str → Option Value} {dp un : Nat} {gd : Option (List Code)} {cn : Str} {cs : Scope} {a : Addr} {ccd : Value} {cl : List (Str × Addr)} {outer : List Env} {A₀ : Around} {base h₀ : Heap} {L : Addr} {m : Str → Option Value} {s : Shared} {Q E : Value → Shared → Prop}
    (B : Below A₀ base outer h₀) (F : Fr h₀ L s.heap m) (X : (hd.heap_39 w.params).In h₀) (N : News h₀ L s.heap news) (T : Top topProg loose mean mg mb h₀) (hk : cs.kind = .function) (hd : dp + dD < recursionLimit) (hu : un + dU < cLine)
    (ret : ∀ r h' tk', Fr h₀ L h' m → News h₀ L h' news → Out r → Q r { s with heap := h', toks := tk' }) :
    wpAny (model (PySem.Challenge.rw_rl0026_01.row.prog) w) (ktrTop dp un gd cn cs L a ccd cl outer) (call (.ref f) vs) Q E s :=
  C _ _ _ _ _ _ _ _ _ _ _ _ _ _ _ _ _ _ _ _ _ B F X N T hk hd hu ret

/-- a call of the text's def at f, from any frame, over the ledger news: it ends in Out, the ledger stands; the tokens so far are T0 or more -/
abbrev CST (w : World) (f : Addr) (vs : List Value) (news : List (Addr × Obj)) (dD dU T0 : Nat) (Out : Value → Prop) : Prop :=
  ∀ (loose : List Str) (mean : ExcName → Option Value) (mg mb : Str → Option Value) (dp un : Nat) (gd : Option (List Code)) (cn : Str) (cs : Scope) (a : Addr) (ccd : Value) (cl : List (Str × Addr)) (outer : List Env) (A₀ : Around) (base h₀ : Heap) (L : Addr) (m : Str → Option Value) (s : Shared) (Q E : Value → Shared → Prop),
    Below A₀ base outer h₀ → Fr h₀ L s.heap m → (hd.heap_39 w.params).In h₀ → News h₀ L s.heap news → Top topProg loose mean mg mb h₀ → cs.kind = .function → dp + dD < recursionLimit → un + dU < cLine → T0 ≤ s.toks →
    (∀ r h' tk', Fr h₀ L h' m → News h₀ L h' news → Out r → Q r { s with heap := h', toks := tk' }) →
    wpAny (model (PySem.Challenge.rw_rl0026_01.row.prog) w) (ktrTop dp un gd cn cs L a ccd cl outer) (call (.ref f) vs) Q E s

theorem CST.use {w : World} {f : Addr} {vs : List Value} {news : List (Addr × Obj)} {dD dU T0 : Nat} {Out : Value → Prop} (C : CST w f vs news dD dU T0 Out)
    {loose : List Str} {mean : ExcName → Option Value} {mg mb : Str → Option Value} {dp un : Nat} {gd : Option (List Code)} {cn : Str} {cs : Scope} {a : Addr} {ccd : Value} {cl : List (Str × Addr)} {outer : List Env} {A₀ : Around} {base h₀ : Heap} {L : Addr} {m : Str → Option Value} {s : Shared} {Q E : Value → Shared → Prop}
    (B : Below A₀ base outer h₀) (F : Fr h₀ L s.heap m) (X : (hd.heap_39 w.params).In h₀) (N : News h₀ L s.heap news) (T : Top topProg loose mean mg mb h₀) (hk : cs.kind = .function) (hd : dp + dD < recursionLimit) (hu : un + dU < cLine) (hT : T0 ≤ s.toks)
    (ret : ∀ r h' tk', Fr h₀ L h' m → News h₀ L h' news → Out r → Q r { s with heap := h', toks := tk' }) :
    wpAny (model (PySem.Challenge.rw_rl0026_01.row.prog) w) (ktrTop dp un gd cn cs L a ccd cl outer) (call (.ref f) vs) Q E s :=
  C _ _ _ _ _ _ _ _ _ _ _ _ _ _ _ _ _ _ _ _ _ B F X N T hk hd hu hT ret

theorem news_dup {h₀ h : Heap} {L a : Addr} {o : Obj} {news : List (Addr × Obj)} (N : News h₀ L h news) (hm : (a, o) ∈ news) : News h₀ L h ((a, o) :: news) := fun p hp => by
  rcases List.mem_cons.mp hp with rfl | hp
  · exact N _ hm
  · exact N _ hp

section
set_option maxRecDepth 100000
set_option maxHeartbeats 8000000
variable (w : World) (news : List (Addr × Obj))
theorem xor_spec (a b : Int) (t u : Tok) : CS w 91 [.int a t, .int b u] news 1 8 (fun r => ∃ t, r = .int (Builtin.bitXor a b) t) := by
  k_with_none
  unfold CS; k_fill; w_on
  intro loose mean mg mb dp un gd cn cs a ccd cl outer A₀ base h₀ L m s Q E B F X N T hk hd hu hret
  (refine wpAny_call ?_; k_dflt (refine' code_def ?k1 ?k2 ?k3 ?k4 ?k5 ?kA ?kF ?kK ?k6 ?k7 ?k8 ?k9 ?kB ?_ ?c2 ?c3 ?c4 ?c5; (case kA | kF => exact rfl); (case kK => assumption); (case k1 | k2 | k3 | k4 | k5 => k_asm); (case k6 | k7 => k_is); (case k8 => ktr_room); (case k9 => exact BindsTo.of_eq rfl); (case c5 => decide); (case kB => exact locs rfl); (case c2 | c3 | c4 => exact rfl); k_whole))
  intro g' L' h' FG' F' N' B' X' T'
  ((try dsimp only); (try k_fold))
  k_steps
  exact hret _ _ _ (by assumption) (by assumption) ⟨_, rfl⟩
theorem lt_spec (a b : Int) (t u : Tok) : CS w 70 [.int a t, .int b u] news 1 8 (fun r => r = .bool (decide (a < b))) := by
  k_with_none
  unfold CS; k_fill; w_on
  intro loose mean mg mb dp un gd cn cs a ccd cl outer A₀ base h₀ L m s Q E B F X N T hk hd hu hret
  (refine wpAny_call ?_; k_dflt (refine' code_def ?k1 ?k2 ?k3 ?k4 ?k5 ?kA ?kF ?kK ?k6 ?k7 ?k8 ?k9 ?kB ?_ ?c2 ?c3 ?c4 ?c5; (case kA | kF => exact rfl); (case kK => assumption); (case k1 | k2 | k3 | k4 | k5 => k_asm); (case k6 | k7 => k_is); (case k8 => ktr_room); (case k9 => exact BindsTo.of_eq rfl); (case c5 => decide); (case kB => exact locs rfl); (case c2 | c3 | c4 => exact rfl); k_whole))
  intro g' L' h' FG' F' N' B' X' T'
  ((try dsimp only); (try k_fold))
  k_steps
  exact hret _ _ _ (by assumption) (by assumption) rfl
theorem truth_spec (a : Int) (t : Tok) : CS w 77 [.int a t] news 1 8 (fun r => r = .bool (decide (a ≠ 0))) := by
  k_with_none
  unfold CS; k_fill; w_on
  intro loose mean mg mb dp un gd cn cs a ccd cl outer A₀ base h₀ L m s Q E B F X N T hk hd hu hret
  (refine wpAny_call ?_; k_dflt (refine' code_def ?k1 ?k2 ?k3 ?k4 ?k5 ?kA ?kF ?kK ?k6 ?k7 ?k8 ?k9 ?kB ?_ ?c2 ?c3 ?c4 ?c5; (case kA | kF => exact rfl); (case kK => assumption); (case k1 | k2 | k3 | k4 | k5 => k_asm); (case k6 | k7 => k_is); (case k8 => ktr_room); (case k9 => exact BindsTo.of_eq rfl); (case c5 => decide); (case kB => exact locs rfl); (case c2 | c3 | c4 => exact rfl); k_whole))
  intro g' L' h' FG' F' N' B' X' T'
  ((try dsimp only); (try k_fold))
  k_steps
  all_goals (refine hret _ _ _ (by assumption) (by assumption) ?_; simp_all)
theorem mul_spec (a : Int) (t : Tok) (b : Bool) : CS w 84 [.int a t, .bool b] news 1 8 (fun r => ∃ t, r = .int (a * (if b then 1 else 0)) t) := by
  k_with_none
  unfold CS; k_fill; w_on
  intro loose mean mg mb dp un gd cn cs a ccd cl outer A₀ base h₀ L m s Q E B F X N T hk hd hu hret
  (refine wpAny_call ?_; k_dflt (refine' code_def ?k1 ?k2 ?k3 ?k4 ?k5 ?kA ?kF ?kK ?k6 ?k7 ?k8 ?k9 ?kB ?_ ?c2 ?c3 ?c4 ?c5; (case kA | kF => exact rfl); (case kK => assumption); (case k1 | k2 | k3 | k4 | k5 => k_asm); (case k6 | k7 => k_is); (case k8 => ktr_room); (case k9 => exact BindsTo.of_eq rfl); (case c5 => decide); (case kB => exact locs rfl); (case c2 | c3 | c4 => exact rfl); k_whole))
  intro g' L' h' FG' F' N' B' X' T'
  ((try dsimp only); (try k_fold))
  k_steps
  exact hret _ _ _ (by assumption) (by assumption) ⟨_, rfl⟩
end
-- CL
/-- a call of the text's def at f, from any frame, over the ledger news: it ends in a new list with Out, the ledger stands -/
abbrev CL (w : World) (f : Addr) (vs : List Value) (news : List (Addr × Obj)) (dD dU : Nat) (Pre : Heap → Prop) (Out : List Value → Prop) : Prop :=
  ∀ (loose : List Str) (mean : ExcName → Option Value) (mg mb : Str → Option Value) (dp un : Nat) (gd : Option (List Code)) (cn : Str) (cs : Scope) (a : Addr) (ccd : Value) (cl : List (Str × Addr)) (outer : List Env) (A₀ : Around) (base h₀ : Heap) (L : Addr) (m : Str → Option Value) (s : Shared) (Q E : Value → Shared → Prop),
    Below A₀ base outer h₀ → Fr h₀ L s.heap m → (hd.heap_39 w.params).In h₀ → News h₀ L s.heap news → Top topProg loose mean mg mb h₀ → cs.kind = .function → dp + dD < recursionLimit → un + dU < cLine → Pre h₀ →
    (∀ l vs n h' tk', Fr h₀ L h' m → News h₀ L h' ((l, W.listOf vs.toArray n) :: news) → (∀ p ∈ news, p.1 ≠ l) → Out vs → Q (.ref l) { s with heap := h', toks := tk' }) →
    wpAny (model (PySem.Challenge.rw_rl0026_01.row.prog) w) (ktrTop dp un gd cn cs L a ccd cl outer) (call (.ref f) vs) Q E s

theorem CL.use {w : World} {f : Addr} {vs : List Value} {news : List (Addr × Obj)} {dD dU : Nat} {Pre : Heap → Prop} {Out : List Value → Prop} (C : CL w f vs news dD dU Pre Out)
    {loose : List Str} {mean : ExcName → Option Value} {mg mb : Str → Option Value} {dp un : Nat} {gd : Option (List Code)} {cn : Str} {cs : Scope} {a : Addr} {ccd : Value} {cl : List (Str × Addr)} {outer : List Env} {A₀ : Around} {base h₀ : Heap} {L : Addr} {m : Str → Option Value} {s : Shared} {Q E : Value → Shared → Prop}
    (B : Below A₀ base outer h₀) (F : Fr h₀ L s.heap m) (X : (hd.heap_39 w.params).In h₀) (N : News h₀ L s.heap news) (T : Top topProg loose mean mg mb h₀) (hk : cs.kind = .function) (hd : dp + dD < recursionLimit) (hu : un + dU < cLine) (hP : Pre h₀)
    (ret : ∀ l vs n h' tk', Fr h₀ L h' m → News h₀ L h' ((l, W.listOf vs.toArray n) :: news) → (∀ p ∈ news, p.1 ≠ l) → Out vs → Q (.ref l) { s with heap := h', toks := tk' }) :
    wpAny (model (PySem.Challenge.rw_rl0026_01.row.prog) w) (ktrTop dp un gd cn cs L a ccd cl outer) (call (.ref f) vs) Q E s :=
  C _ _ _ _ _ _ _ _ _ _ _ _ _ _ _ _ _ _ _ _ _ B F X N T hk hd hu hP ret
theorem off1_mem {D : Addr} : ∀ {l : List (Addr × Obj)}, LCg.Off1 D l → ∀ p ∈ l, p.1 ≠ D
  | [], _, _, h => nomatch h
  | _ :: _, x, p, h => by
    rcases List.mem_cons.mp h with rfl | h
    · exact x.1
    · exact off1_mem x.2 p h
theorem news_cut2 {h₀ h : Heap} {L : Addr} {a b : Addr × Obj} {news : List (Addr × Obj)} (N : News h₀ L h (a :: b :: news)) : News h₀ L h (a :: news) := fun p hp => N p ((List.mem_cons.mp hp).elim (fun e => e ▸ .head _) fun q => .tail _ (.tail _ q))
/-- the walk stops here -/
structure Hold (p : Prop) : Prop where
  on : p
-- LcT
section
open LCg LCt
variable {prog : Program} {w : World} {A : Around} {s : Shared} {h₀ : Heap} {L : Addr} {m : Str → Option Value} {env : Env}
/-- the end of a comprehension's turn: the ledger stands -/
noncomputable def TOut (h₀ : Heap) (L : Addr) (m : Str → Option Value) (s : Shared) (led : List (Addr × Obj)) (K : Value → Prop) (y : Value) (s₂ : Shared) : Prop :=
  ∃ h' tk', s₂ = { s with heap := h', toks := tk' } ∧ Fr h₀ L h' m ∧ News h₀ L h' led ∧ K y
theorem TOut.intro {led : List (Addr × Obj)} {K : Value → Prop} {y : Value} {h' : Heap} {tk' : Nat} (F : Fr h₀ L h' m) (N : News h₀ L h' led) (k : K y) : TOut h₀ L m s led K y { s with heap := h', toks := tk' } := ⟨h', tk', rfl, F, N, k⟩
/-- a comprehension with a test, by an invariant of its number of turns and its list -/
theorem restT_inv {ct elt : Expr} {x : Str} {scope : Scope} {cl : List (Str × Addr)} {S : List (Addr × Obj) → Prop} {P : Nat → Value → Prop} {Fin : List Value → List (Addr × Obj) → Prop} {n : Nat} {news : List (Addr × Obj)} (J : Nat → List Value → Prop) (hS : S news)
    (turn : ∀ i ys v I oI C oC D m₂ h tk (E' : Value → Shared → Prop), i < n → J i ys → P i v → NsObj oC m₂ → m₂ x = some v → Fr h₀ L h m → News h₀ L h ((I, oI) :: (C, oC) :: (D, lst ys) :: news) → Off3 I C D news →
      wpAny (model prog w) A (isTrue ct (compEnvC scope cl C env) (eval ct (compEnvC scope cl C env))) (fun ok s' => if ok = true then
        wpAny (model prog w) A (eval elt (compEnvC scope cl C env)) (TOut h₀ L m { s with heap := h, toks := tk } ((I, oI) :: (C, oC) :: (D, lst ys) :: news) (fun y => J (i + 1) (ys ++ [y]))) E' s'
        else TOut h₀ L m { s with heap := h, toks := tk } ((I, oI) :: (C, oC) :: (D, lst ys) :: news) (fun _ => J (i + 1) ys) Value.none s') E' { s with heap := h, toks := tk })
    (fin : ∀ ys, J n ys → Fin ys news) : ∀ k i ys, i + k = n → J i ys → CompRestT prog w A h₀ L m env ct elt x scope cl s S P Fin k i ys news := by
  intro k
  induction k with
  | zero =>
    intro i ys hi hj
    refine CompRestT.zero (fin ys ?_)
    rw [← hi]; exact hj
  | succ k ih =>
    intro i ys hi hj
    refine CompRestT.succ ?_
    intro v I oI C oC D m₂ h tk E' hP hC hx F N off ne
    refine wpAny_mono (turn i ys v I oI C oC D m₂ h tk E' (by omega) hj hP hC hx F N off) (fun ok s' q => ?_) fun _ _ q => q
    cases ok with
    | true =>
      simp only [if_true] at q ⊢
      refine wpAny_mono q (fun y s₂ z => ?_) fun _ _ z => z
      obtain ⟨h', tk', rfl, F', N', hj'⟩ := z
      exact ⟨h', tk', news, rfl, F', N', off, hS, ih (i + 1) _ (by omega) hj'⟩
    | false =>
      simp only [Bool.false_eq_true, if_false] at q ⊢
      obtain ⟨h', tk', rfl, F', N', hj'⟩ := q
      exact ⟨h', tk', news, rfl, F', N', off, hS, ih (i + 1) _ (by omega) hj'⟩
/-- a comprehension without a test, by an invariant -/
theorem rest_inv {elt : Expr} {x : Str} {scope : Scope} {cl : List (Str × Addr)} {S : List (Addr × Obj) → Prop} {P : Nat → Value → Prop} {Fin : List Value → List (Addr × Obj) → Prop} {n : Nat} {news : List (Addr × Obj)} (J : Nat → List Value → Prop) (hS : S news)
    (turn : ∀ i ys v I oI C oC D m₂ h tk (E' : Value → Shared → Prop), i < n → J i ys → P i v → NsObj oC m₂ → m₂ x = some v → Fr h₀ L h m → News h₀ L h ((I, oI) :: (C, oC) :: (D, lst ys) :: news) → Off3 I C D news →
        wpAny (model prog w) A (eval elt (compEnvC scope cl C env)) (TOut h₀ L m { s with heap := h, toks := tk } ((I, oI) :: (C, oC) :: (D, lst ys) :: news) (fun y => J (i + 1) (ys ++ [y]))) E' { s with heap := h, toks := tk })
    (fin : ∀ ys, J n ys → Fin ys news) : ∀ k i ys, i + k = n → J i ys → CompRest prog w A h₀ L m env elt x scope cl s S P Fin k i ys news := by
  intro k
  induction k with
  | zero =>
    intro i ys hi hj
    refine CompRest.zero (fin ys ?_)
    rw [← hi]; exact hj
  | succ k ih =>
    intro i ys hi hj
    refine CompRest.succ ?_
    intro v I oI C oC D m₂ h tk E' hP hC hx F N off ne
    refine wpAny_mono (turn i ys v I oI C oC D m₂ h tk E' (by omega) hj hP hC hx F N off) (fun y s₂ z => ?_) fun _ _ z => z
    obtain ⟨h', tk', rfl, F', N', hj'⟩ := z
    exact ⟨h', tk', news, rfl, F', N', off, hS, ih (i + 1) _ (by omega) hj'⟩
end
-- Members
noncomputable def membersTo (n : Int) (i : Nat) : List Int := ((List.range i).filter fun k => decide ((n.fdiv (2 ^ k)).fmod 2 = 1)).map Int.ofNat
theorem intsAre_more {vs : List Value} {ns : List Int} (h : IntsAre vs ns) (n : Int) (t : Tok) : IntsAre (vs ++ [.int n t]) (ns ++ [n]) := by
  induction h with
  | nil => exact .cons n t .nil
  | cons a u _ ih => exact .cons a u ih
theorem membersTo_yes {n : Int} {i : Nat} (h : (n.fdiv (2 ^ (0 + (i : Int)).toNat)).fmod 2 = 1) : membersTo n (i + 1) = membersTo n i ++ [0 + (i : Int)] := by
  have e : (0 + (i : Int)).toNat = i := by omega
  rw [e] at h
  simp [membersTo, List.range_succ, h]
theorem membersTo_no {n : Int} {i : Nat} (h : (n.fdiv (2 ^ (0 + (i : Int)).toNat)).fmod 2 ≠ 1) : membersTo n (i + 1) = membersTo n i := by
  have e : (0 + (i : Int)).toNat = i := by omega
  rw [e] at h
  simp [membersTo, List.range_succ, h]
set_option maxRecDepth 100000 in
set_option maxHeartbeats 8000000 in
theorem members_spec (w : World) (news : List (Addr × Obj)) (n : Int) (t : Tok) (h0 : 0 ≤ n) (h32 : n < 32) : CL w 157 [.int n t] news 2 16 (fun h => True) (fun vs => IntsAre vs (membersTo n 5)) := by
  k_with_none
  unfold CL; k_fill; w_on
  intro loose mean mg mb dp un gd cn cs a ccd cl outer A₀ base h₀ L m s Q E B F X N T hk hd hu hP hret
  (refine wpAny_call ?_; k_dflt (refine' code_defC ?k1 ?k2 ?k3 ?k4 ?k5 ?kA ?kF ?kK ?k6 ?k7 ?k8 ?k9 ?kB ?kD ?_ ?c2 ?c3 ?c4; (case kA | kF => exact rfl); (case kK => assumption); (case k1 | k2 | k3 | k4 | k5 => k_asm); (case k6 | k7 => k_is); (case k8 => ktr_room); (case k9 => exact BindsTo.of_eq rfl); (case kB => exact rfl); (case kD => decide +kernel); (case c2 | c3 | c4 => exact rfl); k_whole))
  intro g' L' h' tk' cells' FG' F' N' Y' B' X' T' l1
  k_cells Y'
  rename_i oC dC
  have hdC : oC.data = Data.cell (some (.int n t)) := dC
  clear dC
  simp only [List.cons_append, List.nil_append] at N'
  ((try dsimp only); (try k_fold))
  obtain ⟨m0, F1⟩ : ∃ m0, Fr g' L' h' m0 := ⟨_, F'⟩
  clear F'
  k_with "eval ListComp" => (k_dflt (refine LCt.ListComp_T (F₀ := by k_asm) (by with_unfolding_all rfl) (by decide) (by rfl) (by decide) (by rfl) ?_))
  k_with "CompSrcT" => fail "x"
  k_steps
  refine LCt.CompSrcT.range (by rfl) (by k_asm) (by k_asm) (by assumption) (by first | decide | rfl) (n := 5) (by first | rfl | decide) (by exact Nat.le_of_ble_eq_true rfl) ?_
  intro g9
  refine restT_inv (fun i ys => IntsAre ys (membersTo n i)) trivial ?turn ?fin 5 0 [] rfl .nil
  case fin =>
    intro ys hys
    unfold LCg.FinE
    intro D9 h9 tk9 F9 N9 o9
    dsimp only
    k_steps
    exact hret D9 ys ys.length _ _ (by assumption) (news_cut2 (by assumption)) (fun p hp => off1_mem o9 p (.tail _ hp)) hys
  case turn =>
    intro i ys v I oI C oC D m₂ h tk E' hi hj hP hC hx F N off
    obtain ⟨tv, rfl⟩ := hP
    have hi0 : (0 : Int) ≤ 0 + (i : Int) := by omega
    have hi5 : 0 + (i : Int) < 5 := by omega
    k_steps
    · exact TOut.intro F N (by rw [membersTo_yes (by assumption)]; exact intsAre_more hj _ _)
    · exact TOut.intro F N (by rw [membersTo_no (by assumption)]; exact hj)
-- Loop
section
variable {prog : Program} {w : World} {A : Around} {s : Shared} {env : Env} {h₀ : Heap}
/-- the end of a loop's turn: the next turn's state, or the loop is left -/
noncomputable def LEnd (h₀ : Heap) (L : Addr) (wr : List Addr) (own : List (Addr × Obj)) (Jn : (Str → Option Value) → List (Addr × Obj) → Prop) (s₁ : Shared) (R : Result → Shared → Prop) (f : Flow) (s₃ : Shared) : Prop :=
  match f with
  | .ret v => R (.ok (.ret v)) s₃
  | .brk => R (.ok .next) s₃
  | _ => ∃ h' tk m' nw, s₃ = { s₁ with heap := h', toks := tk } ∧ Fr h₀ L h' m' ∧ News h₀ L h' nw ∧ (∀ p ∈ own, p ∈ nw) ∧ ∀ nw', (∀ p ∈ nw, p.1 ∉ wr → p ∈ nw') → Jn m' nw'
theorem LEnd.on {L : Addr} {wr : List Addr} {own : List (Addr × Obj)} {Jn : (Str → Option Value) → List (Addr × Obj) → Prop} {s₁ : Shared} {R : Result → Shared → Prop} {h' : Heap} {tk : Nat} {m' : Str → Option Value} {nw : List (Addr × Obj)}
    (F : Fr h₀ L h' m') (N : News h₀ L h' nw) (ho : ∀ p ∈ own, p ∈ nw) (hj : ∀ nw', (∀ p ∈ nw, p.1 ∉ wr → p ∈ nw') → Jn m' nw') : LEnd h₀ L wr own Jn s₁ R .next { s₁ with heap := h', toks := tk } := ⟨h', tk, m', nw, rfl, F, N, ho, hj⟩
/-- a for loop with one name as its target, by an invariant of the turn's number, the frame's map and the ledger -/
theorem for_W {R : Result → Shared → Prop} {x : Str} {px : Pos} {body : List Stmt} {I : Addr} {fp wr : List Addr} {n : Nat} {P : Nat → Value → Prop} {St : Nat → Heap → Prop} {m : Str → Option Value} {news : List (Addr × Obj)} (W : Walks prog w A I fp wr n P St)
    (hLf : env.locals ∉ fp) (hwr : ∀ b ∈ wr, h₀.get? b = none) (hst : St 0 s.heap) (F : Fr h₀ env.locals s.heap m) (N : News h₀ env.locals s.heap news)
    (J : Nat → (Str → Option Value) → List (Addr × Obj) → Prop) (h0 : ∀ nw, (∀ p ∈ news, p.1 ∉ wr → p ∈ nw) → J 0 m nw)
    (step : ∀ i v m₁ news₁ h tk own, i < n → P i v → J i m₁ news₁ → (∀ p ∈ news₁, p.1 ∉ wr) → (∀ p ∈ own, p.1 ∈ fp) →
      Fr h₀ env.locals h m₁ → News h₀ env.locals h (own ++ news₁) →
      wpAny (model prog w) A (storeName env x v) (fun _ s₂ => wpAny (model prog w) A (execs body env) (LEnd h₀ env.locals wr own (J (i + 1)) { s with heap := h, toks := tk } R) (notedBy (model prog w) A env fun e s' => R (.error e) s') s₂) (notedBy (model prog w) A env fun e s' => R (.error e) s') { s with heap := h, toks := tk })
    (hR : ∀ h' tk m' news', Fr h₀ env.locals h' m' → News h₀ env.locals h' news' → J n m' news' → R (.ok .next) { s with heap := h', toks := tk }) :
    codeAny (model prog w) A (.forLoop (.Name x px) (.ref I) body [] env) R s := by
  have hLw : env.locals ∉ wr := fun h => hLf (W.sub _ h)
  have old : ∀ b o, h₀.get? b = some o → b ∉ wr := fun b o e hb => by rw [hwr b hb] at e; cases e
  refine codeAny_forLoop_any
    (fun k s' => ∃ h' tk m' news' i, s' = { s with heap := h', toks := tk } ∧ St i h' ∧ Fr h₀ env.locals h' m' ∧ News h₀ env.locals h' news' ∧ (∀ p ∈ news', p.1 ∉ wr) ∧ J i m' news' ∧ i ≤ n ∧ k = n + 1 - i) ?_ (n + 1)
    ⟨s.heap, s.toks, m, news.filter (fun p => decide (p.1 ∉ wr)), 0, rfl, hst, F, fun p hp => N p (List.mem_filter.mp hp).1, fun p hp => by simpa using (List.mem_filter.mp hp).2, h0 _ fun p hp hw => List.mem_filter.mpr ⟨hp, by simpa using hw⟩, Nat.zero_le _, rfl⟩
  rintro k s' ⟨h', tk, m', news', i, rfl, hst', F', N', hnw', hJ, hi, rfl⟩
  have next : ∀ h₁ : Heap, (∀ b o, b ∉ wr → h'.get? b = some o → h₁.get? b = some o) → Fr h₀ env.locals h₁ m' ∧ News h₀ env.locals h₁ news' := fun h₁ hk₁ =>
    ⟨⟨F'.ns.at' fun o e => hk₁ _ o hLw e, fun b o e => hk₁ b o (old b o e) (F'.keep b o e), F'.above⟩, fun p hp => ⟨hk₁ _ _ (hnw' p hp) (N' p hp).1, (N' p hp).2⟩⟩
  by_cases hlt : i < n
  · refine W.item i _ _ _ hlt hst' fun v h₁ tk₁ hP hst₁ hk₁ => ?_
    obtain ⟨F₁, N₁⟩ := next h₁ hk₁
    have Nown : News h₀ env.locals h₁ (ownOf h₀ fp h₁) := news_ownOf hLf
    refine wpAny_of_eq (a := ()) rfl ?_
    refine wpAny_assign_Name ?_
    refine wpAny_mono (step i v m' news' h₁ tk₁ (ownOf h₀ fp h₁) hlt hP hJ hnw' ownOf_sub F₁ (Nown.append N₁))
      (fun _ s₂ h₂ => wpAny_mono h₂ (fun f s₃ h₃ => ?_) fun _ _ e => e) fun _ _ e => e
    have go : (∃ h' tk m' nw, s₃ = { s with heap := h', toks := tk } ∧ Fr h₀ env.locals h' m' ∧ News h₀ env.locals h' nw ∧ (∀ p ∈ ownOf h₀ fp h₁, p ∈ nw) ∧ ∀ nw', (∀ p ∈ nw, p.1 ∉ wr → p ∈ nw') → J (i + 1) m' nw') →
        ∃ k, k < n + 1 - i ∧ ∃ h' tk m' news' i, s₃ = { s with heap := h', toks := tk } ∧ St i h' ∧ Fr h₀ env.locals h' m' ∧ News h₀ env.locals h' news' ∧ (∀ p ∈ news', p.1 ∉ wr) ∧ J i m' news' ∧ i ≤ n ∧ k = n + 1 - i := by
      rintro ⟨h₃', tk₃, m₂, nw₂, rfl, F₃, N₃, ho₃, hJ₃⟩
      refine ⟨n + 1 - (i + 1), by omega, h₃', tk₃, m₂, nw₂.filter (fun p => decide (p.1 ∉ wr)), i + 1, rfl, ?_, F₃, fun p hp => N₃ p (List.mem_filter.mp hp).1, fun p hp => by simpa using (List.mem_filter.mp hp).2, hJ₃ _ fun p hp hw => List.mem_filter.mpr ⟨hp, by simpa using hw⟩, hlt, rfl⟩
      refine W.frame _ _ _ hst₁ fun b hb o e => ?_
      cases hn : h₀.get? b with
      | some o₀ =>
        have : o₀ = o := by have := F₁.keep b o₀ hn; rw [e] at this; exact (Option.some.inj this).symm
        exact this ▸ F₃.keep b o₀ hn
      | none => exact (N₃ _ (ho₃ _ (mem_ownOf hb hn e))).1
    cases f with
    | ret v => exact h₃
    | brk => exact h₃
    | next => exact go h₃
    | cont => exact go h₃
  · have hin : i = n := by omega
    subst hin
    refine W.done _ _ _ hst' fun h₁ tk₁ hk₁ => wpAny_execs_nil ?_
    obtain ⟨F₁, N₁⟩ := next h₁ hk₁
    exact hR h₁ tk₁ m' news' F₁ N₁ hJ
/-- `for x in range(a, a + n)` -/
theorem for_range {R : Result → Shared → Prop} {x : Str} {px : Pos} {body : List Stmt} {r : Addr} {a b : Int} {t u v : Tok} {m : Str → Option Value} {news : List (Addr × Obj)} (n : Nat) (hh : A.handled = none) (hr : IsRange s.heap r a b 1 t u v) (hsm : Builtin.Range.small a b 1 = true) (hn : Builtin.Range.rangeSize a b 1 = ((n : Nat) : Int))
    (F : Fr h₀ env.locals s.heap m) (N : News h₀ env.locals s.heap news) (J : Nat → (Str → Option Value) → List (Addr × Obj) → Prop) (h0 : ∀ nw, (∀ p ∈ news, p ∈ nw) → J 0 m nw)
    (step : ∀ I i t m₁ news₁ h tk own, i < n → J i m₁ news₁ → (∀ p ∈ news₁, p.1 ≠ I) → (∀ p ∈ own, p.1 = I) → (∀ p ∈ news, p.1 < I) →
      Fr h₀ env.locals h m₁ → News h₀ env.locals h (own ++ news₁) →
      wpAny (model prog w) A (storeName env x (.int (a + (i : Int)) t)) (fun _ s₂ => wpAny (model prog w) A (execs body env) (LEnd h₀ env.locals [I] own (J (i + 1)) { s with heap := h, toks := tk } R) (notedBy (model prog w) A env fun e s' => R (.error e) s') s₂) (notedBy (model prog w) A env fun e s' => R (.error e) s') { s with heap := h, toks := tk })
    (hR : ∀ h' tk m' news', Fr h₀ env.locals h' m' → News h₀ env.locals h' news' → J n m' news' → R (.ok .next) { s with heap := h', toks := tk })
    {Q : Value → Shared → Prop} {E : Value → Shared → Prop} (hQ : ∀ it s', codeAny (model prog w) A (.forLoop (.Name x px) it body [] env) R s' → Q it s') :
    wpAny (model prog w) A (pyIter (.ref r)) Q E s := by
  refine wpAny_pyIter_range hr hsm (hQ _ _ ?_)
  have hlt := F.ns.lt
  refine for_W (s := { s with heap := s.heap.push { cls := .type "range_iterator", data := .fields #[rawInt a, rawInt (Builtin.Range.rangeSize a b 1), rawInt 1] } }) (LCg.range_walks (I := s.heap.objs.size) hh a n) (fun h => by rw [List.mem_singleton.mp h] at hlt; exact Nat.lt_irrefl _ hlt) (fun b hb => ?_) ?_ (F.push _) (fun p hp => ⟨Heap.get?_push_of_some _ (N p hp).1, (N p hp).2⟩) J
    (fun nw h => h0 nw fun p hp => h p hp fun q => Nat.ne_of_lt (Heap.lt_size (N p hp).1) (List.mem_singleton.mp q)) (fun i v m₁ news₁ h tk own hi hP hJ hoff hown F₁ N₁ => ?_) hR
  · rw [List.mem_singleton.mp hb]; exact next_is_new F
  · show IsRangeIter _ _ _ _ _
    rw [hn]
    simpa using Heap.get?_push_size _ rfl
  · obtain ⟨t, rfl⟩ := hP
    exact step _ i t m₁ news₁ h tk own hi hJ (fun p hp q => hoff p hp (List.mem_singleton.mpr q)) (fun p hp => List.mem_singleton.mp (hown p hp)) (fun p hp => Heap.lt_size (N p hp).1) F₁ N₁
/-- `for x in range(a, b, c)` -/
theorem for_down {R : Result → Shared → Prop} {x : Str} {px : Pos} {body : List Stmt} {r : Addr} {a b c : Int} {t u v : Tok} {m : Str → Option Value} {news : List (Addr × Obj)} (n : Nat) (hh : A.handled = none) (hr : IsRange s.heap r a b c t u v) (hsm : Builtin.Range.small a b c = true) (hn : Builtin.Range.rangeSize a b c = ((n : Nat) : Int))
    (F : Fr h₀ env.locals s.heap m) (N : News h₀ env.locals s.heap news) (J : Nat → (Str → Option Value) → List (Addr × Obj) → Prop) (h0 : ∀ nw, (∀ p ∈ news, p ∈ nw) → J 0 m nw)
    (step : ∀ I i t m₁ news₁ h tk own, i < n → J i m₁ news₁ → (∀ p ∈ news₁, p.1 ≠ I) → (∀ p ∈ own, p.1 = I) → (∀ p ∈ news, p.1 < I) →
      Fr h₀ env.locals h m₁ → News h₀ env.locals h (own ++ news₁) →
      wpAny (model prog w) A (storeName env x (.int (a + (i : Int) * c) t)) (fun _ s₂ => wpAny (model prog w) A (execs body env) (LEnd h₀ env.locals [I] own (J (i + 1)) { s with heap := h, toks := tk } R) (notedBy (model prog w) A env fun e s' => R (.error e) s') s₂) (notedBy (model prog w) A env fun e s' => R (.error e) s') { s with heap := h, toks := tk })
    (hR : ∀ h' tk m' news', Fr h₀ env.locals h' m' → News h₀ env.locals h' news' → J n m' news' → R (.ok .next) { s with heap := h', toks := tk })
    {Q : Value → Shared → Prop} {E : Value → Shared → Prop} (hQ : ∀ it s', codeAny (model prog w) A (.forLoop (.Name x px) it body [] env) R s' → Q it s') :
    wpAny (model prog w) A (pyIter (.ref r)) Q E s := by
  refine wpAny_pyIter_range hr hsm (hQ _ _ ?_)
  have hlt := F.ns.lt
  refine for_W (s := { s with heap := s.heap.push { cls := .type "range_iterator", data := .fields #[rawInt a, rawInt (Builtin.Range.rangeSize a b c), rawInt c] } }) (Walks.range hh s.heap.objs.size a c n) (fun h => by rw [List.mem_singleton.mp h] at hlt; exact Nat.lt_irrefl _ hlt) (fun b hb => ?_) ?_ (F.push _) (fun p hp => ⟨Heap.get?_push_of_some _ (N p hp).1, (N p hp).2⟩) J
    (fun nw h => h0 nw fun p hp => h p hp fun q => Nat.ne_of_lt (Heap.lt_size (N p hp).1) (List.mem_singleton.mp q)) (fun i v m₁ news₁ h tk own hi hP hJ hoff hown F₁ N₁ => ?_) hR
  · rw [List.mem_singleton.mp hb]; exact next_is_new F
  · show IsRangeIter _ _ _ _ _
    rw [hn]
    simpa using Heap.get?_push_size _ rfl
  · obtain ⟨t, rfl⟩ := hP
    exact step _ i t m₁ news₁ h tk own hi hJ (fun p hp q => hoff p hp (List.mem_singleton.mpr q)) (fun p hp => List.mem_singleton.mp (hown p hp)) (fun p hp => Heap.lt_size (N p hp).1) F₁ N₁
/-- `for x in l`, a list of the ledger that no turn changes -/
theorem for_list {R : Result → Shared → Prop} {x : Str} {px : Pos} {body : List Stmt} {l : Addr} {vs : List Value} {k : Nat} {m : Str → Option Value} {news : List (Addr × Obj)} (hh : A.handled = none)
    (F : Fr h₀ env.locals s.heap m) (N : News h₀ env.locals s.heap news) (hl : (l, W.listOf vs.toArray k) ∈ news) (J : Nat → (Str → Option Value) → List (Addr × Obj) → Prop) (h0 : ∀ nw, (∀ p ∈ news, p ∈ nw) → J 0 m nw)
    (step : ∀ I i v m₁ news₁ h tk own, vs[i]? = some v → J i m₁ news₁ → (∀ p ∈ news₁, p.1 ≠ I) → (∀ p ∈ own, p.1 = I ∨ p.1 = l) → (∀ p ∈ news, p.1 < I) →
      Fr h₀ env.locals h m₁ → News h₀ env.locals h (own ++ news₁) →
      wpAny (model prog w) A (storeName env x v) (fun _ s₂ => wpAny (model prog w) A (execs body env) (LEnd h₀ env.locals [I] own (J (i + 1)) { s with heap := h, toks := tk } R) (notedBy (model prog w) A env fun e s' => R (.error e) s') s₂) (notedBy (model prog w) A env fun e s' => R (.error e) s') { s with heap := h, toks := tk })
    (hR : ∀ h' tk m' news', Fr h₀ env.locals h' m' → News h₀ env.locals h' news' → J vs.length m' news' → R (.ok .next) { s with heap := h', toks := tk })
    {Q : Value → Shared → Prop} {E : Value → Shared → Prop} (hQ : ∀ it s', codeAny (model prog w) A (.forLoop (.Name x px) it body [] env) R s' → Q it s') :
    wpAny (model prog w) A (pyIter (.ref l)) Q E s := by
  have hls : s.heap.IsList l vs.toArray := ⟨_, (N _ hl).1, rfl, _, rfl⟩
  refine wpAny_pyIter_list hls (hQ _ _ ?_)
  have hlt := F.ns.lt
  have hne : l ≠ s.heap.objs.size := Nat.ne_of_lt (Heap.lt_size (N _ hl).1)
  have WW := Walks.list (prog := prog) (w := w) hh s.heap.objs.size l hne vs.toArray
  rw [List.size_toArray] at WW
  refine for_W (s := { s with heap := s.heap.push { cls := .type "list_iterator", data := .fields #[.ref l, .int 0 0] } }) WW (fun h => ?_) (fun b hb => ?_) ⟨⟨_, Heap.get?_push_size _ rfl, rfl, rfl⟩, hls.at fun o e => Heap.get?_push_of_some _ e⟩ (F.push _) (fun p hp => ⟨Heap.get?_push_of_some _ (N p hp).1, (N p hp).2⟩) J
    (fun nw h => h0 nw fun p hp => h p hp fun q => Nat.ne_of_lt (Heap.lt_size (N p hp).1) (List.mem_singleton.mp q)) (fun i v m₁ news₁ h tk own hi hP hJ hoff hown F₁ N₁ => ?_) hR
  · rcases List.mem_cons.mp h with e | e
    · rw [e] at hlt; exact Nat.lt_irrefl _ hlt
    · exact (N _ hl).2.1 (List.mem_singleton.mp e).symm
  · rw [List.mem_singleton.mp hb]; exact next_is_new F
  · refine step _ i v m₁ news₁ h tk own (by simpa using hP) hJ (fun p hp q => hoff p hp (List.mem_singleton.mpr q)) (fun p hp => ?_) (fun p hp => Heap.lt_size (N p hp).1) F₁ N₁
    rcases List.mem_cons.mp (hown p hp) with e | e
    · exact .inl e
    · exact .inr (List.mem_singleton.mp e)
end
section
variable {prog : Program} {w : World} {A : Around} {E : Value → Shared → Prop} {s : Shared} {h₀ : Heap} {L : Addr} {news : List (Addr × Obj)}
theorem item_N {value slice : PySem.Expr} {l : Addr} {vs : List Value} {n : Nat} {k : Int} {u : Tok} {v : Value} {Q : Value → Shared → Prop} (N : News h₀ L s.heap news) (hl : (l, W.listOf vs.toArray n) ∈ news) (h0 : 0 ≤ k) (hhi : k < 2 ^ 63) (hx : vs[k.toNat]? = some v) (h : Q v s)
    (hs : subscripted slice false (.ref l) (.int k u) = operate [.ref l, .int k u] (getItem (.ref l) (.int k u)) := by with_unfolding_all rfl) :
    wpAny (model prog w) A (subscriptTail value slice (.ref l) (.int k u)) Q E s := by
  have hL : s.heap.IsList l vs.toArray := ⟨_, (N _ hl).1, rfl, _, rfl⟩
  exact tail_any hL.typeIs slot_list_getitem.lookup (wpAny_getItem_list hL h0 hhi (by simpa using hx) h) hs
theorem last_N {value slice : PySem.Expr} {l : Addr} {vs : List Value} {n : Nat} {u : Tok} {v : Value} {Q : Value → Shared → Prop} (N : News h₀ L s.heap news) (hl : (l, W.listOf vs.toArray n) ∈ news) (hx : vs[vs.length - 1]? = some v) (h : Q v s)
    (hs : subscripted slice false (.ref l) (.int (-1) u) = operate [.ref l, .int (-1) u] (getItem (.ref l) (.int (-1) u)) := by with_unfolding_all rfl) :
    wpAny (model prog w) A (subscriptTail value slice (.ref l) (.int (-1) u)) Q E s := by
  have hL : s.heap.IsList l vs.toArray := ⟨_, (N _ hl).1, rfl, _, rfl⟩
  have hlt := (List.getElem?_eq_some_iff.mp hx).1
  refine tail_any hL.typeIs slot_list_getitem.lookup (wpAny_getItem_list_neg hL (by decide) (by rw [List.size_toArray]; omega) (by decide) ?_ h) hs
  have e : ((-1 : Int) + (vs.toArray.size : Int)).toNat = vs.length - 1 := by rw [List.size_toArray]; omega
  rw [e]
  simpa using hx
end
-- Tok
open PySem.Calls in
section
variable {prog : Program} {w : World} {A : Around} {E : Value → Shared → Prop} {s : Shared}
/-- `is` of two strs: one token is one text; then it is true of equal texts alone -/
theorem is_str_tok {M : Model} {y z : Str} {u v : Tok} {Q : Value → Shared → Prop} (h0 : 0 < u) (h1 : 0 < v) (hb : NoneBooked s.heap) (hne : y ≠ z → u ≠ v) (hq : ∀ b : Bool, (b = true → y = z) → Q (.bool b) s) :
    wpAny M A (compareOp .Is (.str y u) (.str z v)) Q E s := by
  have z1 : (u == 0 || v == 0) = false := by
    rw [Bool.or_eq_false_iff]
    exact ⟨by simpa using Nat.ne_of_gt h0, by simpa using Nat.ne_of_gt h1⟩
  by_cases hyz : y = z
  · show wpAny M A (do return .bool (← isSame (.str y u) (.str z v))) Q E s
    exact wpAny_bind (wpAny_isSame_str z1 hb fun b => wpAny_pure (hq b fun _ => hyz))
  · show wpAny M A (do return .bool (← isSame (.str y u) (.str z v))) Q E s
    refine wpAny_bind ?_
    show wpAny M A (isSame.created (y == z) u v) _ E s
    have z2 : (u == v) = false := by simpa using hne hyz
    have z3 : (y == z) = false := by simpa using hyz
    unfold isSame.created
    rw [z1, z2, z3]
    exact wpAny_pure (wpAny_pure (hq false fun e => by cases e))

/-- enumerate over an ascii text: its next pair, the tokens told -/
theorem next_enum_str {e it : Addr} {x : Str} {t : Tok} {i c : Nat} {old : Value} {Q : Option Value → Shared → Prop} (he : IsEnum s.heap e it i old) (hit : s.heap.IsStrIter it "str_ascii_iterator" x t i) (hx : x.cps[i]? = some c) (hne : e ≠ it)
    (hQ : ∀ h', IsEnumOut h' e it ((i : Int) + 1) (.str ⟨#[c]⟩ s.toks) s.heap.objs.size → h'.IsStrIter it "str_ascii_iterator" x t (i + 1) →
      h'.get? s.heap.objs.size = some { cls := .type "tuple", data := .seq #[.int i (s.toks + 1), .str ⟨#[c]⟩ s.toks] } → h'.objs.size = s.heap.objs.size + 1 →
      (∀ b o, b ≠ e → b ≠ it → s.heap.get? b = some o → h'.get? b = some o) → Q (some (.ref s.heap.objs.size)) { s with heap := h', toks := s.toks + 2 }) :
    wpAny (model prog w) A (pyNext (.ref e)) Q E s := by
  have hT : s.TypeIs (.ref e) "enumerate" := ⟨_, he, rfl⟩
  unfold pyNext
  refine wpAny_bind (wpAny_attempt (wpAny_callSpecial?_slot (name := Str.ofString "__next__") hT F.slot_enumerate_next
    (wpAny_call_entry F.slot_enumerate_next hT F.entry_enumerate_next ?_ (F.args_enumerate_next_1 _))))
  obtain ⟨hp, g, d, tk, os⟩ := s
  show wpAny _ _ (field (.ref e) 2 >>= _) _ _ _
  refine wpAny_bind (wpAny_field he rfl (x := .ref it) rfl ?_)
  refine wpAny_bind (wpAny_nextOf_ascii_item hit hx fun h₁ i₁ s₁ => ?_)
  replace s₁ : Heap.SameBut it hp h₁ := s₁
  have e₁ : IsEnum h₁ e it i old := (s₁.2 e hne).trans he
  show wpAny _ _ (field (.ref e) 3 >>= _) _ _ ⟨h₁, g, d, tk + 1, os⟩
  refine wpAny_bind (wpAny_field e₁ rfl (x := rawInt i) rfl ?_)
  show wpAny _ _ (field (.ref e) 4 >>= _) _ _ ⟨h₁, g, d, tk + 1, os⟩
  refine wpAny_bind (wpAny_field e₁ rfl (x := .none) rfl ?_)
  show wpAny _ _ (mkInt i >>= _) _ _ ⟨h₁, g, d, tk + 1, os⟩
  refine wpAny_bind (wpAny_mkInt ?_)
  show wpAny _ _ (setField (.ref e) 3 (rawInt ((i : Int) + 1)) >>= _) _ _ ⟨h₁, g, d, tk + 2, os⟩
  refine wpAny_bind (wpAny_setField_rec e₁ (by simp) fun h₂ e₂ s₂ => ?_)
  replace s₂ : Heap.SameBut e h₁ h₂ := s₂
  replace e₂ : IsEnum h₂ e it ((i : Int) + 1) old := e₂
  show wpAny _ _ (setField (.ref e) 4 .none >>= _) _ _ ⟨h₂, g, d, tk + 2, os⟩
  refine wpAny_bind (wpAny_setField_rec e₂ (by simp) fun h₃ e₃ s₃ => ?_)
  replace s₃ : Heap.SameBut e h₂ h₃ := s₃
  replace e₃ : IsEnum h₃ e it ((i : Int) + 1) old := e₃
  show wpAny _ _ (newTuple [.int i (tk + 1), .str ⟨#[c]⟩ tk] >>= _) _ _ ⟨h₃, g, d, tk + 2, os⟩
  refine wpAny_bind (wpAny_newTuple ?_)
  have e₄ := Heap.get?_push_of_some { cls := .type "tuple", data := .seq #[.int i (tk + 1), .str ⟨#[c]⟩ tk] } e₃
  have z₃ : h₃.objs.size = hp.objs.size := by rw [s₃.1, s₂.1, s₁.1]
  have t₄ : (h₃.push { cls := .type "tuple", data := .seq #[.int i (tk + 1), .str ⟨#[c]⟩ tk] }).get? hp.objs.size = some { cls := .type "tuple", data := .seq #[.int i (tk + 1), .str ⟨#[c]⟩ tk] } := by rw [← z₃]; exact Heap.get?_push_size _ rfl
  have z₄ : (h₃.push { cls := .type "tuple", data := .seq #[.int i (tk + 1), .str ⟨#[c]⟩ tk] }).objs.size = hp.objs.size + 1 := by rw [Heap.size_push, z₃]
  have k₄ : ∀ b o, b ≠ e → h₁.get? b = some o → (h₃.push { cls := .type "tuple", data := .seq #[.int i (tk + 1), .str ⟨#[c]⟩ tk] }).get? b = some o := fun b o hbe hb =>
    Heap.get?_push_of_some _ (s₃.extBut b o hbe (s₂.extBut b o hbe hb))
  rw [z₃]
  generalize h₃.push { cls := .type "tuple", data := .seq #[.int i (tk + 1), .str ⟨#[c]⟩ tk] } = h₄ at e₄ t₄ z₄ k₄ ⊢
  have hel : e < hp.objs.size := Heap.lt_size he
  show wpAny _ _ (Builtin.SmallTypes.ownedTupleIsFree (.ref e) >>= _) _ _ ⟨h₄, g, d, tk + 2, os⟩
  refine wpAny_bind ?_
  unfold Builtin.SmallTypes.ownedTupleIsFree
  refine wpAny_bind (wpAny_field e₄ rfl (x := .none) rfl (wpAny_pure ?_))
  simp only [if_true]
  refine wpAny_bind (wpAny_rule ?_)
  refine wpAny_bind (wpAny_field e₄ rfl (x := old) rfl ?_)
  refine wpAny_bind (wpAny_setField_rec e₄ (by simp) fun h₅ e₅ s₅ => ?_)
  replace s₅ : Heap.SameBut e h₄ h₅ := s₅
  replace e₅ : IsEnum h₅ e it ((i : Int) + 1) (.str ⟨#[c]⟩ tk) := e₅
  show wpAny _ _ (Builtin.SmallTypes.ownedTupleHandOut (.ref e) (.ref hp.objs.size) >>= _) _ _ ⟨h₅, g, d, tk + 2, os⟩
  refine wpAny_bind ?_
  unfold Builtin.SmallTypes.ownedTupleHandOut
  refine wpAny_bind (wpAny_setField_rec e₅ (by simp) fun h₆ e₆ s₆ => ?_)
  replace s₆ : Heap.SameBut e h₅ h₆ := s₆
  replace e₆ : IsEnumOut h₆ e it ((i : Int) + 1) (.str ⟨#[c]⟩ tk) hp.objs.size := e₆
  refine wpAny_setField_rec e₆ (by simp) fun h₇ e₇ s₇ => ?_
  replace s₇ : Heap.SameBut e h₆ h₇ := s₇
  have up : ∀ b o, b ≠ e → h₄.get? b = some o → h₇.get? b = some o := fun b o hbe hb => s₇.extBut b o hbe (s₆.extBut b o hbe (s₅.extBut b o hbe hb))
  refine wpAny_bind (wpAny_letGo (wpAny_pure ⟨_, rfl, wpAny_pure (hQ h₇ e₇ ?_ (up _ _ (Nat.ne_of_gt hel) t₄) (by rw [s₇.1, s₆.1, s₅.1, z₄]) fun b o hbe hbi hb => up b o hbe (k₄ b o hbe (s₁.extBut b o hbi hb)))⟩))
  obtain ⟨o, ho, r⟩ := i₁
  exact ⟨o, up it o hne.symm (k₄ it o hne.symm ho), r⟩
end
section
variable {prog : Program} {w : World} {A : Around} {s : Shared} {env : Env} {h₀ : Heap}
noncomputable def EnumEnd (h₀ : Heap) (L : Addr) (xi xc : Str) (m : Str → Option Value) (nw : List (Addr × Obj)) (T0 i k : Nat) (s : Shared) (R : Result → Shared → Prop) (f : Flow) (s₃ : Shared) : Prop :=
  if i < k then f = .next ∧ ∃ h' tk' vi vj, s₃ = { s with heap := h', toks := tk' } ∧ T0 ≤ tk' ∧ Fr h₀ L h' (fun y => if y = xc then vj else if y = xi then vi else m y) ∧ News h₀ L h' nw
  else ∃ v, f = .ret v ∧ R (.ok (.ret v)) s₃
theorem EnumEnd.on {L : Addr} {xi xc : Str} {m : Str → Option Value} {nw : List (Addr × Obj)} {T0 i k : Nat} {s : Shared} {R : Result → Shared → Prop} {h' : Heap} {tk' : Nat} {vi vj : Option Value} (hlt : i < k) (hT : T0 ≤ tk') (F : Fr h₀ L h' (fun y => if y = xc then vj else if y = xi then vi else m y)) (N : News h₀ L h' nw) :
    EnumEnd h₀ L xi xc m nw T0 i k s R .next { s with heap := h', toks := tk' } := by
  unfold EnumEnd
  rw [if_pos hlt]
  exact ⟨rfl, h', tk', vi, vj, rfl, hT, F, N⟩
theorem EnumEnd.out {L : Addr} {xi xc : Str} {m : Str → Option Value} {nw : List (Addr × Obj)} {T0 i k : Nat} {s s₃ : Shared} {R : Result → Shared → Prop} {v : Value} (hlt : ¬ i < k) (h : R (.ok (.ret v)) s₃) :
    EnumEnd h₀ L xi xc m nw T0 i k s R (.ret v) s₃ := by
  unfold EnumEnd
  rw [if_neg hlt]
  exact ⟨v, rfl, h⟩
/-- `for xi, xc in enumerate(x): body else: ..` over an ascii text, left in the k-th turn by a return; the items' tokens are new -/
theorem enum_turns {R : Result → Shared → Prop} {xi xc : Str} {pk pv pt : Pos} {x1 : Nat} {body orelse : List Stmt} {x : Str} {t : Tok} {e it : Addr} {m : Str → Option Value} {news : List (Addr × Obj)} (T0 k : Nat) (hh : A.handled = none)
    (hxi : env.kindOf xi = some .local) (hxc : env.kindOf xc = some .local) (hp : (env.scope.kind == .class || (env.scope.kind == .module && env.locals != env.globals)) = false)
    (he : IsEnum s.heap e it 0 .none) (hit : s.heap.IsStrIter it "str_ascii_iterator" x t 0) (hei : e ≠ it) (hLe : env.locals ≠ e) (hLi : env.locals ≠ it) (h0e : h₀.get? e = none) (h0i : h₀.get? it = none) (hne : ∀ p ∈ news, p.1 ≠ e ∧ p.1 ≠ it)
    (F : Fr h₀ env.locals s.heap m) (N : News h₀ env.locals s.heap news) (hT : T0 ≤ s.toks) (hk : k < x.cps.size)
    (turn : ∀ i c tk u ti h own vi vj, i ≤ k → x.cps[i]? = some c → T0 ≤ u → T0 ≤ tk →
      Fr h₀ env.locals h (fun y => if y = xc then some (.str ⟨#[c]⟩ u) else if y = xi then some (.int (i : Nat) ti) else if y = xc then vj else if y = xi then vi else m y) → News h₀ env.locals h (own ++ news) →
      wpAny (model prog w) A (execs body env) (EnumEnd h₀ env.locals xi xc m (own ++ news) T0 i k s R) (notedBy (model prog w) A env fun e s' => R (.error e) s') { s with heap := h, toks := tk }) :
    codeAny (model prog w) A (.forLoop (.Tuple [.Name xi pk, .Name xc pv] x1 pt) (.ref e) body orelse env) R s := by
  have F0 : Fr h₀ env.locals s.heap (fun y => if y = xc then m xc else if y = xi then m xi else m y) := by
    have : (fun y => if y = xc then m xc else if y = xi then m xi else m y) = m := by
      funext y
      by_cases h1 : y = xc
      · rw [if_pos h1, h1]
      · rw [if_neg h1]
        by_cases h2 : y = xi
        · rw [if_pos h2, h2]
        · rw [if_neg h2]
    rw [this]; exact F
  refine codeAny_forLoop_any (fun r s' => ∃ H tk vi vj i old, s' = { s with heap := H, toks := tk } ∧ IsEnum H e it (i : Nat) old ∧ H.IsStrIter it "str_ascii_iterator" x t i ∧ Fr h₀ env.locals H (fun y => if y = xc then vj else if y = xi then vi else m y) ∧ News h₀ env.locals H news ∧ T0 ≤ tk ∧ i + r = k) ?_ k
    ⟨s.heap, s.toks, m xi, m xc, 0, .none, rfl, he, hit, F0, N, hT, Nat.zero_add _⟩
  rintro r s' ⟨H, tk, vi, vj, i, old, rfl, he', hit', F', N', hT', hik⟩
  obtain ⟨c, hc⟩ : ∃ c, x.cps[i]? = some c := ⟨x.cps[i]'(by omega), by simp⟩
  refine next_enum_str he' hit' hc hei fun h₁ e₁ i₁ t₁ z₁ k₁ => ?_
  replace t₁ : h₁.get? H.objs.size = some { cls := .type "tuple", data := .seq #[.int (i : Nat) (tk + 1), .str ⟨#[c]⟩ tk] } := t₁
  replace k₁ : ∀ b o, b ≠ e → b ≠ it → H.get? b = some o → h₁.get? b = some o := k₁
  have hTe : H.objs.size ≠ e := Nat.ne_of_gt (Heap.lt_size he')
  have hTi : H.objs.size ≠ it := by obtain ⟨o, ho, _⟩ := hit'; exact Nat.ne_of_gt (Heap.lt_size ho)
  refine wpAny_letOwnedTupleGo_enum e₁ fun h₂ e₂ s₂ => ?_
  replace s₂ : Heap.SameBut e h₁ h₂ := s₂
  have t₂ : h₂.get? H.objs.size = some { cls := .type "tuple", data := .seq #[.int (i : Nat) (tk + 1), .str ⟨#[c]⟩ tk] } := s₂.extBut _ _ hTe t₁
  refine wpAny_assign_Tuple hh (⟨_, t₂, rfl, _, rfl⟩ : h₂.IsTuple H.objs.size #[.int (i : Nat) (tk + 1), .str ⟨#[c]⟩ tk]) rfl rfl fun h₃ x₃ => ?_
  replace x₃ : Heap.ExtBut h₂.objs.size h₂ h₃ := x₃
  have up : ∀ b o, h₂.get? b = some o → h₃.get? b = some o := fun b o q => x₃ b o (Nat.ne_of_lt (Heap.lt_size q)) q
  have k₃ : ∀ b o, b ≠ e → b ≠ it → H.get? b = some o → h₃.get? b = some o := fun b o h1 h2 q => up b o (s₂.extBut b o h1 (k₁ b o h1 h2 q))
  have F₃ : Fr h₀ env.locals h₃ (fun y => if y = xc then vj else if y = xi then vi else m y) :=
    ⟨F'.ns.at' fun o q => k₃ _ o hLe hLi q, fun b o q => k₃ b o (fun z => by rw [z, h0e] at q; cases q) (fun z => by rw [z, h0i] at q; cases q) (F'.keep b o q), F'.above⟩
  have N₃ : News h₀ env.locals h₃ news := fun p hp => ⟨k₃ _ _ (hne p hp).1 (hne p hp).2 (N' p hp).1, (N' p hp).2⟩
  show wpAny _ A (do holding [.str ⟨#[c]⟩ tk] (assign (.Name xi pk) env (.int (i : Nat) (tk + 1))); do holding [] (assign (.Name xc pv) env (.str ⟨#[c]⟩ tk)); pure ()) _ _ _
  refine wpAny_bind (wpAny_holding (wpAny_assign_Name (wpAny_storeName_local hxi F₃.ns (fun h₄ n₄ s₄ => ?_) hp)))
  replace s₄ : Heap.SameBut env.locals h₃ h₄ := s₄
  have F₄ := F₃.set n₄ s₄
  refine wpAny_bind (wpAny_holding (wpAny_assign_Name (wpAny_storeName_local hxc F₄.ns (fun h₅ n₅ s₅ => wpAny_pure ?_) hp)))
  replace s₅ : Heap.SameBut env.locals h₄ h₅ := s₅
  have F₅ := F₄.set n₅ s₅
  have N₅ : News h₀ env.locals h₅ news := (N₃.set s₄).set s₅
  obtain ⟨oi, goi, ri⟩ := i₁
  have ge : h₅.get? e = some _ := s₅.extBut _ _ hLe.symm (s₄.extBut _ _ hLe.symm (up _ _ e₂))
  have gi : h₅.get? it = some oi := s₅.extBut _ _ hLi.symm (s₄.extBut _ _ hLi.symm (up _ _ (s₂.extBut _ _ hei.symm goi)))
  have No : News h₀ env.locals h₅ ([(e, _), (it, oi)] ++ news) := fun p hp => by
    rcases List.mem_append.mp hp with hp | hp
    · rcases List.mem_cons.mp hp with rfl | hp
      · exact ⟨ge, hLe.symm, h0e⟩
      · rw [List.mem_singleton.mp hp]; exact ⟨gi, hLi.symm, h0i⟩
    · exact N₅ p hp
  refine wpAny_mono (turn i c _ tk (tk + 1) h₅ _ vi vj (by omega) hc hT' (by show T0 ≤ tk + 2 + 1 + 1; omega) F₅ No) (fun f s₆ q => ?_) fun _ _ q => q
  unfold EnumEnd at q
  by_cases hlt : i < k
  · rw [if_pos hlt] at q
    obtain ⟨rfl, h', tk', vi', vj', rfl, hT6, F₆, N₆⟩ := q
    exact ⟨r - 1, by omega, h', tk', vi', vj', i + 1, _, rfl, (N₆ _ (List.mem_append_left _ (.head _))).1, ⟨oi, (N₆ (it, oi) (List.mem_append_left _ (.tail _ (.head _)))).1, ri⟩, F₆, fun p hp => N₆ p (List.mem_append_right _ hp), hT6, by omega⟩
  · rw [if_neg hlt] at q
    obtain ⟨v, rfl, q⟩ := q
    exact q
end

theorem toks_gen {α : Type} {M : Model} {A : Around} {t : Sem α} {Q : α → Shared → Prop} {E : Value → Shared → Prop} {s : Shared} {h : Heap} {X : Nat} (T0 : Nat) (hX : T0 ≤ X) (k : ∀ tk, T0 ≤ tk → wpAny M A t Q E { s with heap := h, toks := tk }) : wpAny M A t Q E { s with heap := h, toks := X } := k X hX

theorem enum_fr {h₀ h : Heap} {L : Addr} {xi xc : Str} {m : Str → Option Value} {a b vi vj : Option Value} (F : Fr h₀ L h (fun y => if y = xc then a else if y = xi then b else if y = xc then vj else if y = xi then vi else m y)) : Fr h₀ L h (fun y => if y = xc then a else if y = xi then b else m y) := by
  have e : (fun y => if y = xc then a else if y = xi then b else if y = xc then vj else if y = xi then vi else m y) = fun y => if y = xc then a else if y = xi then b else m y := by
    funext y
    by_cases h1 : y = xc
    · simp only [if_pos h1]
    · by_cases h2 : y = xi
      · simp only [if_neg h1, if_pos h2]
      · simp only [if_neg h1, if_neg h2]
  exact e ▸ F
-- StrT
section
variable {prog : Program} {w : World} {A : Around} {s : Shared} {env : Env} {h₀ : Heap}
noncomputable def StrEnd (h₀ : Heap) (L : Addr) (J : (Str → Option Value) → List (Addr × Obj) → Prop) (own : List (Addr × Obj)) (s : Shared) (f : Flow) (s₃ : Shared) : Prop :=
  f = .next ∧ ∃ h' tk' m' nw, s₃ = { s with heap := h', toks := tk' } ∧ Fr h₀ L h' m' ∧ News h₀ L h' (nw ++ own) ∧ J m' nw
theorem StrEnd.on {L : Addr} {J : (Str → Option Value) → List (Addr × Obj) → Prop} {own nw : List (Addr × Obj)} {s : Shared} {h' : Heap} {tk' : Nat} {m' : Str → Option Value} (F : Fr h₀ L h' m') (N : News h₀ L h' (nw ++ own)) (j : J m' nw) :
    StrEnd h₀ L J own s .next { s with heap := h', toks := tk' } := ⟨rfl, h', tk', m', nw, rfl, F, N, j⟩
/-- `for xc in x: body` over an ascii text, by an invariant; the item's token is below the tokens to come -/
theorem str_turns {R : Result → Shared → Prop} {xc : Str} {pv : Pos} {body : List Stmt} {x : Str} {t : Tok} {it : Addr} {m : Str → Option Value} {news : List (Addr × Obj)} (J : Nat → (Str → Option Value) → List (Addr × Obj) → Prop) (hh : A.handled = none)
    (hxc : env.kindOf xc = some .local) (hp : (env.scope.kind == .class || (env.scope.kind == .module && env.locals != env.globals)) = false)
    (hit : s.heap.IsStrIter it "str_ascii_iterator" x t 0) (hLi : env.locals ≠ it) (h0i : h₀.get? it = none) (hJi : ∀ i m nw, J i m nw → ∀ p ∈ nw, p.1 ≠ it)
    (F : Fr h₀ env.locals s.heap m) (N : News h₀ env.locals s.heap news) (hT : 0 < s.toks) (hj : J 0 m news)
    (turn : ∀ i c tk u h oi m' nw, x.cps[i]? = some c → 0 < u → u + 1 ≤ tk → J i m' nw →
      Fr h₀ env.locals h (fun y => if y = xc then some (.str ⟨#[c]⟩ u) else m' y) → News h₀ env.locals h (nw ++ [(it, oi)]) →
      wpAny (model prog w) A (execs body env) (StrEnd h₀ env.locals (J (i + 1)) [(it, oi)] s) (notedBy (model prog w) A env fun e s' => R (.error e) s') { s with heap := h, toks := tk })
    (hR : ∀ h tk m' nw, Fr h₀ env.locals h m' → News h₀ env.locals h nw → J x.cps.size m' nw → R (.ok .next) { s with heap := h, toks := tk }) :
    codeAny (model prog w) A (.forLoop (.Name xc pv) (.ref it) body [] env) R s := by
  refine codeAny_forLoop_any (fun r s' => ∃ H tk m' nw i, s' = { s with heap := H, toks := tk } ∧ H.IsStrIter it "str_ascii_iterator" x t i ∧ Fr h₀ env.locals H m' ∧ News h₀ env.locals H nw ∧ 0 < tk ∧ J i m' nw ∧ i + r = x.cps.size) ?_ x.cps.size
    ⟨s.heap, s.toks, m, news, 0, rfl, hit, F, N, hT, hj, Nat.zero_add _⟩
  rintro r s' ⟨H, tk, m', nw, i, rfl, hit', F', N', hT', hJ, hik⟩
  by_cases hlt : i < x.cps.size
  case neg =>
    have hin : i = x.cps.size := by omega
    subst hin
    refine wpAny_pyNext_ascii_end hh hit' (by simp) fun h₁ x₁ => wpAny_execs_nil ?_
    replace x₁ : Heap.ExtBut it H h₁ := x₁
    have up : ∀ b o, b ≠ it → H.get? b = some o → h₁.get? b = some o := fun b o hb q => x₁ b o hb q
    exact hR h₁ tk m' nw ⟨F'.ns.at' fun o q => up _ o hLi q, fun b o q => up b o (fun z => by rw [z, h0i] at q; cases q) (F'.keep b o q), F'.above⟩ (fun p hp => ⟨up _ _ (hJi _ _ _ hJ p hp) (N' p hp).1, (N' p hp).2⟩) hJ
  case pos =>
    obtain ⟨c, hc⟩ : ∃ c, x.cps[i]? = some c := ⟨x.cps[i], by simp⟩
    refine wpAny_pyNext_ascii_item hit' hc fun h₁ i₁ s₁ => ?_
    replace s₁ : Heap.SameBut it H h₁ := s₁
    refine wpAny_of_eq (a := ()) rfl ?_
    have F₁ : Fr h₀ env.locals h₁ m' := ⟨F'.ns.at' fun o q => s₁.extBut _ o hLi q, fun b o q => s₁.extBut b o (fun z => by rw [z, h0i] at q; cases q) (F'.keep b o q), F'.above⟩
    have N₁ : News h₀ env.locals h₁ nw := fun p hp => ⟨s₁.extBut _ _ (hJi _ _ _ hJ p hp) (N' p hp).1, (N' p hp).2⟩
    refine wpAny_assign_Name (wpAny_storeName_local hxc F₁.ns (fun h₂ n₂ s₂ => ?_) hp)
    replace s₂ : Heap.SameBut env.locals h₁ h₂ := s₂
    have F₂ := F₁.set n₂ s₂
    obtain ⟨oi, goi, ri⟩ := i₁
    have gi : h₂.get? it = some oi := s₂.extBut _ _ hLi.symm goi
    have N₂ : News h₀ env.locals h₂ (nw ++ [(it, oi)]) := fun p hp => by
      rcases List.mem_append.mp hp with hp | hp
      · exact N₁.set s₂ p hp
      · rw [List.mem_singleton.mp hp]; exact ⟨gi, hLi.symm, h0i⟩
    refine wpAny_mono (wpAny_toks_of (n := 1) (by show 1 ≤ tk + 1 + 1; omega) (turn i c (tk + 1 + 1) tk h₂ oi m' nw hc hT' (Nat.le_succ _) hJ F₂ N₂)) (fun f s₆ q => ?_) fun _ _ q => q.2
    obtain ⟨ht, rfl, h', tk', m₂, nw₂, rfl, F₆, N₆, hJ₂⟩ := q
    exact ⟨r - 1, by omega, h', tk', m₂, nw₂, i + 1, rfl, ⟨oi, (N₆ (it, oi) (List.mem_append_right _ (.head _))).1, ri⟩, F₆, fun p hp => N₆ p (List.mem_append_left _ hp), ht, hJ₂, by omega⟩
end
-- Idx

theorem abcde_cps : (Str.ofString "abcde").cps = #[97, 98, 99, 100, 101] := by decide +kernel
theorem abcde_iter : strIterType (Str.ofString "abcde") = "str_ascii_iterator" := by decide +kernel
theorem noneBooked {w : World} {h₀ h : Heap} {loose : List Str} {mean : ExcName → Option Value} {mg mb : Str → Option Value} (X : (hd.heap_39 w.params).In h₀) (T : Top topProg loose mean mg mb h₀) (hk : ∀ b o, h₀.get? b = some o → h.get? b = some o)
    (e : nsIn (hd.heap_39 w.params) cStatics sharingNotToldKey = some none) : NoneBooked h := by
  obtain ⟨mc, hn, _⟩ := T.nolimit
  exact ⟨mc, hn.keeps hk, ns_none_of X hn e⟩
theorem chr_ne {i n : Nat} (h : i + 97 < n) : (Str.mk #[97 + i] : Str) ≠ Str.mk #[n] := by
  intro e
  have := congrArg (fun z : Str => z.cps[0]?) e
  simp at this
  omega
set_option maxRecDepth 100000 in
set_option maxHeartbeats 8000000 in
theorem indexOf_spec (w : World) (news : List (Addr × Obj)) (t u : Tok) (n : Nat) (h1 : 97 ≤ n) (h2 : n ≤ 101) (hu0 : 0 < u) : CST w 112 [.str (Str.ofString "abcde") t, .str (Str.mk #[n]) u] news 2 16 (u + 1) (fun r => ∃ t, r = .int ((n : Int) - 97) t) := by
  k_with_none
  unfold CST; k_fill; w_on
  intro loose mean mg mb dp un gd cn cs a ccd cl outer A₀ base h₀ L m s Q E B F X N T hk hd hu hT hret
  (refine wpAny_call ?_; k_dflt (refine' code_def ?k1 ?k2 ?k3 ?k4 ?k5 ?kA ?kF ?kK ?k6 ?k7 ?k8 ?k9 ?kB ?_ ?c2 ?c3 ?c4 ?c5; (case kA | kF => exact rfl); (case kK => assumption); (case k1 | k2 | k3 | k4 | k5 => k_asm); (case k6 | k7 => k_is); (case k8 => ktr_room); (case k9 => exact BindsTo.of_eq rfl); (case c5 => decide); (case kB => exact locs rfl); (case c2 | c3 | c4 => exact rfl); k_whole))
  intro g' L' h' FG' F' N' B' X' T'
  refine toks_gen (u + 1) (Nat.le_trans hT (Nat.le_add_right _ _)) ?_
  intro tk hT'
  dsimp only
  k_fold
  refine wpAny_execs_cons ?_
  refine wpAny_For ?_ (by intro _; rfl)
  iterate 6 (first | walk1 | (dsimp only; walk1))
  refine call_enumerate_str fun h8 he hit hsz hkp => ?_
  dsimp only at he hit hsz hkp ⊢
  rw [abcde_iter] at hit
  refine wpAny_pyIter_enum he ?_
  have hLs : L' < h'.objs.size := F'.ns.lt
  have hab : g'.objs.size ≤ L' := F'.above
  have F8 : Fr g' L' h8 _ := ⟨F'.ns.keeps hkp, fun b o q => hkp b o (F'.keep b o q), F'.above⟩
  have N8 : News g' L' h8 news := fun p hp => ⟨hkp _ _ (N' p hp).1, (N' p hp).2⟩
  refine enum_turns (h₀ := g') (news := news) (u + 1) (n - 97) rfl rfl rfl rfl he hit (Nat.succ_ne_self _) (Nat.ne_of_lt (Nat.lt_succ_of_lt hLs)) (Nat.ne_of_lt hLs) (Heap.get?_none_of_le (Nat.le_trans hab (Nat.le_of_lt (Nat.lt_succ_of_lt hLs)))) (Heap.get?_none_of_le (Nat.le_trans hab (Nat.le_of_lt hLs))) (fun p hp => ⟨Nat.ne_of_lt (Nat.lt_succ_of_lt (Heap.lt_size (N' p hp).1)), Nat.ne_of_lt (Heap.lt_size (N' p hp).1)⟩) F8 N8 hT' (by rw [abcde_cps]; show n - 97 < 5; omega) ?_
  clear F8 N8 hit he hsz hkp hT' N' F' hLs hab
  intro i c tk9 u9 t9 h9 own9 vi vj hi hc hu9 htk9 F9 N9
  have hcn : c = 97 + i := by
    have hi5 : i < 5 := by omega
    rw [abcde_cps] at hc
    match i, hi5, hc with
    | 0, _, hc => simpa using hc.symm
    | 1, _, hc => simpa using hc.symm
    | 2, _, hc => simpa using hc.symm
    | 3, _, hc => simpa using hc.symm
    | 4, _, hc => simpa using hc.symm
  subst hcn
  clear hc
  have hb9 : NoneBooked h9 := noneBooked X' T' F9.keep (by k_is)
  refine wpAny_passesOwn (by passes_own) ?_
  dsimp only at F9 N9 ⊢
  by_cases hlt : i < n - 97
  · have hne := chr_ne (i := i) (n := n) (by omega)
    k_with "compareOp Is str str" => refine is_str_tok (Nat.lt_of_lt_of_le (Nat.succ_pos u) hu9) hu0 hb9 (fun _ => Nat.ne_of_gt (Nat.lt_of_succ_le hu9)) (fun b hb => ?_)
    k_steps
    all_goals try dsimp only
    all_goals first | exact EnumEnd.on hlt htk9 (enum_fr F9) N9 | (exfalso; simp_all; done) | skip
  · k_with "compareOp Is str str" => refine is_str_tok (Nat.lt_of_lt_of_le (Nat.succ_pos u) hu9) hu0 hb9 (fun _ => Nat.ne_of_gt (Nat.lt_of_succ_le hu9)) (fun b hb => ?_)
    have hin : 97 + i = n := by omega
    k_steps
    all_goals try dsimp only
    all_goals first | (refine EnumEnd.out hlt ?_; try dsimp only) | (exfalso; simp_all; done) | skip
    all_goals k_steps
    all_goals exact hret _ _ _ (by assumption) (fun p hp => (show News _ _ _ (own9 ++ news) by assumption) p (List.mem_append_right _ hp)) ⟨_, congrArg (fun z => Value.int z _) (by omega)⟩
-- Has
open Builtin in
section
set_option maxRecDepth 100000
variable {prog : Program} {w : World} {A : Around} {E : Value → Shared → Prop} {h : Heap} {g : Array GenState} {d : Drawn} {t : Nat} {os : OsState} {x : Str} {u : Tok}
theorem lk_str_getitem : typeLookup (.type "str") "__getitem__" = pure (some (.builtin "str.__getitem__")) := by rw [typeLookup_type, builtinLookup_eq_fast]; kernel_rfl
theorem ty_str_getitem : typeOf (.builtin "str.__getitem__") = pure (.type "wrapper_descriptor") := by kernel_rfl
theorem lk_wd_get : typeLookup (.type "wrapper_descriptor") "__get__" = pure (some (.builtin "wrapper_descriptor.__get__")) := by rw [typeLookup_type, builtinLookup_eq_fast]; kernel_rfl
theorem lk_wd_set : typeLookup (.type "wrapper_descriptor") "__set__" = pure none := by rw [typeLookup_type, builtinLookup_eq_fast]; kernel_rfl
theorem lk_wd_del : typeLookup (.type "wrapper_descriptor") "__delete__" = pure none := by rw [typeLookup_type, builtinLookup_eq_fast]; kernel_rfl
theorem slot_wd_get : Slot "wrapper_descriptor" "__get__" "wrapper_descriptor.__get__" :=
  .of (owner := "wrapper_descriptor") (n := "__get__") (by rw [typeLookup_type, builtinLookup_eq_fast]; kernel_rfl) (by decide +kernel) (by decide +kernel) (by decide +kernel)
    (by first | exact .inl (by decide +kernel) | exact .inr (by decide +kernel)) (by rw [isSubtype_type]; kernel_rfl)
theorem entry_wd_get : entryFor table "wrapper_descriptor.__get__" = some Builtin.«wrapper_descriptor.__get__» := entryFor_of_tree (by kernel_rfl)
theorem args_wd_get (a b c : Value) : argsOk "wrapper_descriptor.__get__" ⟨[a, b, c], []⟩ := by unfold argsOk; kernel_rfl
theorem owner_getitem : (".".intercalate ("str.__getitem__".cutAt '.').dropLast) = "str" := by
  have e0 : "str.__getitem__".cutAt '.' = ["str", "__getitem__"] := by first | rfl | decide +kernel
  rw [e0]; decide +kernel
theorem sub_getitem : isSubtype (.type "str") (.type (".".intercalate ("str.__getitem__".cutAt '.').dropLast)) = pure true := by
  rw [owner_getitem, isSubtype_type]; kernel_rfl
theorem has_get_str {R : Result → Shared → Prop} (hq : ∀ o, o.isFreed = false → R (.ok (.ret (.ref h.objs.size))) ⟨h.push o, g, d, t, os⟩) :
    codeAny (model prog w) A (.call (.builtin "wrapper_descriptor.__get__") ⟨[.builtin "str.__getitem__", .str x u, .type "str"], []⟩) R ⟨h, g, d, t, os⟩ := by
  have hT : (⟨h, g, d, t, os⟩ : Shared).TypeIs (.str x u) "str" := rfl
  have hT5 : (⟨h, g, d, t, os⟩ : Shared).TypeIs (.builtin "str.__getitem__") "wrapper_descriptor" := ty_str_getitem
  have f8 := sub_getitem
  refine codeAny_call_builtin slot_wd_get.plain entry_wd_get (slot_wd_get.check _ _ _ _ _ _ _ _ hT5 (args_wd_get _ _ _) ?_)
  repeat (any_goals (first | assumption | wp_step))
  exact hq _ rfl
theorem has_entry_str {tk : Tok} {Q : Fin → Shared → Prop} (hq : ∀ o, o.isFreed = false → Q (.done (.ret (.ref h.objs.size))) ⟨h.push o, g, d, t, os⟩) :
    wpAny (model prog w) A (Builtin.«object.__getattribute__» ⟨[.str x u, .str "__getitem__" tk], []⟩) Q E ⟨h, g, d, t, os⟩ := by
  have hT : (⟨h, g, d, t, os⟩ : Shared).TypeIs (.str x u) "str" := rfl
  have f4 := lk_str_getitem
  have f5 := ty_str_getitem
  have f6 := lk_wd_get
  have f7 := lk_wd_set
  have f8 := lk_wd_del
  repeat (any_goals (first | assumption | wp_step))
  refine has_get_str fun o ho => ?_
  have := hq o ho
  repeat (any_goals (first | assumption | wp_step))
theorem has_call_str {tk : Tok} {R : Result → Shared → Prop} (hq : ∀ o, o.isFreed = false → R (.ok (.ret (.ref h.objs.size))) ⟨h.push o, g, d, t, os⟩) :
    codeAny (model prog w) A (.call (.builtin "object.__getattribute__") ⟨[.str x u, .str "__getitem__" tk], []⟩) R ⟨h, g, d, t, os⟩ :=
  codeAny_call_builtin F.slot_str_getattribute.plain F.entry_object_getattribute (F.slot_str_getattribute.check _ _ _ _ _ _ _ _ (show (⟨h, g, d, t, os⟩ : Shared).TypeIs (.str x u) "str" from rfl) (F.args_object_getattribute_2 _ _) (has_entry_str hq))
theorem has_by_str {tk : Tok} {Q : Value → Shared → Prop} (hq : ∀ o, o.isFreed = false → Q (.ref h.objs.size) ⟨h.push o, g, d, t, os⟩) : wpAny (model prog w) A (getAttrBy (.str x u) (.str "__getitem__" tk) false) Q E ⟨h, g, d, t, os⟩ := by
  have hT : (⟨h, g, d, t, os⟩ : Shared).TypeIs (.str x u) "str" := rfl
  have f2 := F.slot_str_getattribute.lookup
  have f3 := F.slot_str_getattribute.bind (.str x u)
  repeat (any_goals (first | assumption | wp_step))
  refine has_call_str fun o ho => ?_
  have := hq o ho
  repeat (any_goals (first | assumption | wp_step))
end
-- Has2
open Builtin in
section
set_option maxRecDepth 100000
variable {prog : Program} {w : World} {A : Around} {E : Value → Shared → Prop} {h : Heap} {g : Array GenState} {d : Drawn} {t : Nat} {os : OsState} {x : Str} {u : Tok}
theorem entry_hasattr : entryFor table "hasattr" = some Builtin.«hasattr» := entryFor_of_fast (by kernel_rfl)
theorem hasattr_args (a b : Value) : argsOk "hasattr" ⟨[a, b], []⟩ := by unfold argsOk; kernel_rfl
theorem no_data : (withoutEnding? "str.__getitem__" "#data").isSome = false := by decide +kernel
theorem hasattr_entry {tk : Tok} {Q : Fin → Shared → Prop} (hq : ∀ o, o.isFreed = false → Q (.done (.ret (.bool true))) ⟨h.push o, g, d, t, os⟩) : wpAny (model prog w) A (Builtin.«hasattr» ⟨[.str x u, .str "__getitem__" tk], []⟩) Q E ⟨h, g, d, t, os⟩ := by
  have f4 := lk_str_getitem
  have f2 := F.slot_str_getattribute.lookup
  unfold Builtin.«hasattr»
  refine wpAny_bind (wpAny_of_eq (a := [.str x u, .str "__getitem__" tk]) rfl ?_)
  refine wpAny_bind (wpAny_of_eq (a := ()) rfl ?_)
  rw [if_neg (by simp)]
  refine wpAny_bind (wpAny_of_eq (a := .type "str") rfl ?_)
  refine wpAny_bind (wpAny_of_eq (a := some (Str.ofString "__getitem__")) rfl ?_)
  refine wpAny_bind (wpAny_of_eq f4 ?_)
  refine wpAny_bind (wpAny_of_eq f2 ?_)
  rw [no_data, if_neg (by simp)]
  refine wpAny_bind (wpAny_of_eq (a := (0 : Nat)) rfl ?_)
  rw [if_neg (by decide)]
  refine wpAny_bind ?_
  unfold getAttrBy?
  refine wpAny_bind (wpAny_attempt (has_by_str fun o ho => wpAny_pure ?_))
  exact wpAny_pure (hq o ho)
theorem hasattr_str {tk : Tok} {Q : Value → Shared → Prop} (hq : ∀ o, o.isFreed = false → Q (.bool true) ⟨h.push o, g, d, t, os⟩) : wpAny (model prog w) A (call (.builtin "hasattr") [.str x u, .str (Str.ofString "__getitem__") tk]) Q E ⟨h, g, d, t, os⟩ :=
  Calls.call_function_entry (by decide +kernel) (by decide +kernel) entry_hasattr (hasattr_args _ _) (hasattr_entry fun o ho => ⟨_, rfl, hq o ho⟩)
end
-- Getc
theorem hasattr_N {prog : Program} {w : World} {A : Around} {E : Value → Shared → Prop} {s : Shared} {h₀ : Heap} {L : Addr} {m : Str → Option Value} {news : List (Addr × Obj)} {x : Str} {u tk : Tok} {Q : Value → Shared → Prop} (F : Fr h₀ L s.heap m) (N : News h₀ L s.heap news)
    (hq : ∀ h', Fr h₀ L h' m → News h₀ L h' news → Q (.bool true) { s with heap := h' }) : wpAny (model prog w) A (call (.builtin "hasattr") [.str x u, .str (Str.ofString "__getitem__") tk]) Q E s :=
  hasattr_str fun o _ => hq _ (F.push o) fun p hp => ⟨Heap.get?_push_of_some _ (N p hp).1, (N p hp).2⟩
section
set_option maxRecDepth 100000
set_option maxHeartbeats 8000000
variable (w : World) (news : List (Addr × Obj))
theorem getitem_spec (l : Addr) (vs : List Value) (ns : List Int) (nn : Nat) (hl : (l, W.listOf vs.toArray nn) ∈ news) (hI : IntsAre vs ns) (hlen : ns.length = 5) (k : Int) (t : Tok) (h0 : 0 ≤ k) (h5 : k < 5) : CS w 105 [.ref l, .int k t] news 1 8 (fun r => ∃ t, r = .int (ns.getD k.toNat 0) t) := by
  k_with_none
  unfold CS; k_fill; w_on
  intro loose mean mg mb dp un gd cn cs a ccd cl outer A₀ base h₀ L m s Q E B F X N T hk hd hu hret
  replace N := news_dup N hl
  (refine wpAny_call ?_; k_dflt (refine' code_def ?k1 ?k2 ?k3 ?k4 ?k5 ?kA ?kF ?kK ?k6 ?k7 ?k8 ?k9 ?kB ?_ ?c2 ?c3 ?c4 ?c5; (case kA | kF => exact rfl); (case kK => assumption); (case k1 | k2 | k3 | k4 | k5 => k_asm); (case k6 | k7 => k_is); (case k8 => ktr_room); (case k9 => exact BindsTo.of_eq rfl); (case c5 => decide); (case kB => exact locs rfl); (case c2 | c3 | c4 => exact rfl); k_whole))
  intro g' L' h' FG' F' N' B' X' T'
  ((try dsimp only); (try k_fold))
  k_steps
  exact hret _ _ _ (by assumption) (fun p hp => (show News _ _ _ (_ :: news) by assumption) p (List.mem_cons_of_mem _ hp)) ⟨_, rfl⟩
theorem concat_spec (x y : Str) (t u : Tok) (hx : x.length ≤ 8) (hy : y.length ≤ 8) : CS w 98 [.str x t, .str y u] news 1 8 (fun r => ∃ t, r = .str (x ++ y) t) := by
  k_with_none
  unfold CS; k_fill; w_on
  intro loose mean mg mb dp un gd cn cs a ccd cl outer A₀ base h₀ L m s Q E B F X N T hk hd hu hret
  (refine wpAny_call ?_; k_dflt (refine' code_def ?k1 ?k2 ?k3 ?k4 ?k5 ?kA ?kF ?kK ?k6 ?k7 ?k8 ?k9 ?kB ?_ ?c2 ?c3 ?c4 ?c5; (case kA | kF => exact rfl); (case kK => assumption); (case k1 | k2 | k3 | k4 | k5 => k_asm); (case k6 | k7 => k_is); (case k8 => ktr_room); (case k9 => exact BindsTo.of_eq rfl); (case c5 => decide); (case kB => exact locs rfl); (case c2 | c3 | c4 => exact rfl); k_whole))
  intro g' L' h' FG' F' N' B' X' T'
  ((try dsimp only); (try k_fold))
  k_with "call builtin:hasattr" => (refine hasattr_N (by k_asm) (by k_asm) ?_; intro h9 F9 N9)
  k_steps
  exact hret _ _ _ (by assumption) (by assumption) ⟨_, rfl⟩
end
-- Left
noncomputable def leftStep (r o : Int) : Int := if Builtin.bitXor r o < r then Builtin.bitXor r o else r
noncomputable def leftF (key : Int) (kept : List Int) : Int := kept.foldl leftStep key
theorem leftF_snoc (key : Int) (pre : List Int) (n : Int) : leftF key (pre ++ [n]) = leftStep (leftF key pre) n := by simp [leftF]
theorem leftF_yes {key r n : Int} {pre : List Int} (h : r = leftF key pre) (q : Builtin.bitXor r n < r) : Builtin.bitXor r n = leftF key (pre ++ [n]) := by
  subst h; rw [leftF_snoc, leftStep, if_pos q]
theorem leftF_no {key r n : Int} {pre : List Int} (h : r = leftF key pre) (q : ¬ Builtin.bitXor r n < r) : r = leftF key (pre ++ [n]) := by
  subst h; rw [leftF_snoc, leftStep, if_neg q]

set_option maxRecDepth 100000 in
set_option maxHeartbeats 8000000 in
theorem left_spec (w : World) (news : List (Addr × Obj)) (key : Int) (t : Tok) (l : Addr) (vs : List Value) (ns : List Int) (nn : Nat) (hl : (l, W.listOf vs.toArray nn) ∈ news) (hI : IntsAre vs ns) (hlen : ns.length ≤ 8) : CS w 126 [.int key t, .ref l] news 2 16 (fun r => ∃ t, r = .int (leftF key ns) t) := by
  k_with_none
  unfold CS; k_fill; w_on
  intro loose mean mg mb dp un gd cn cs a ccd cl outer A₀ base h₀ L m s Q E B F X N T hk hd hu hret
  replace N := news_dup N hl
  (refine wpAny_call ?_; k_dflt (refine' code_def ?k1 ?k2 ?k3 ?k4 ?k5 ?kA ?kF ?kK ?k6 ?k7 ?k8 ?k9 ?kB ?_ ?c2 ?c3 ?c4 ?c5; (case kA | kF => exact rfl); (case kK => assumption); (case k1 | k2 | k3 | k4 | k5 => k_asm); (case k6 | k7 => k_is); (case k8 => ktr_room); (case k9 => exact BindsTo.of_eq rfl); (case c5 => decide); (case kB => exact locs rfl); (case c2 | c3 | c4 => exact rfl); k_whole))
  intro g' L' h' FG' F' N' B' X' T'
  ((try dsimp only); (try k_fold))
  k_with "pyIter ref" => k_state_given ["key"] (fun key pre rest => rest = leftF key pre) "rest"
  k_with "call ref" => (k_dflt (first | refine' CS.use (xor_spec _ _ _ _ _ _) ?k1 ?k2 ?k3 ?k4 ?k5 ?kK ?kd ?ku ?_ | refine' CS.use (lt_spec _ _ _ _ _ _) ?k1 ?k2 ?k3 ?k4 ?k5 ?kK ?kd ?ku ?_); ((case k1 | k2 | k3 | k4 | k5 => k_asm); (case kK => first | exact rfl | assumption); (case kd => ktr_room); (case ku => ktr_units)); (intro _ _ _ _ _ qo9; (try (obtain ⟨_, qe9⟩ := qo9; subst qe9)); (try (subst qo9)); (try dsimp only); (try k_fold)))
  k_with "state" => first | exact leftF_no (by assumption) (by assumption) | exact leftF_yes (by assumption) (by assumption) | exact rfl
  k_steps
  exact hret _ _ _ (by assumption) (fun p hp => (show News _ _ _ (_ :: news) by assumption) p (List.mem_cons_of_mem _ hp)) ⟨_, congrArg (fun x => Value.int x _) (by assumption)⟩
-- Reach
noncomputable def nameStr (is : List Nat) : Str := Str.mk (is.map (97 + ·)).toArray
noncomputable def keyF (c : List Int) (i : Nat) : Int := (c.getD i 0).fmod 16
noncomputable def weightF (c : List Int) (i : Nat) : Int := ((c.getD i 0).fdiv 16).fmod 8
noncomputable def keptF (c : List Int) (is : List Nat) : List Int := is.foldl (fun kept i => kept ++ [leftF (keyF c i) kept]) []
noncomputable def reachF (c : List Int) (k : Nat) (is : List Nat) : Int := weightF c k * (if leftF (keyF c k) (keptF c is) ≠ 0 then 1 else 0)
theorem keptF_snoc (c : List Int) (is : List Nat) (i : Nat) : keptF c (is ++ [i]) = keptF c is ++ [leftF (keyF c i) (keptF c is)] := by simp [keptF]
theorem keptF_length (c : List Int) (is : List Nat) : (keptF c is).length = is.length := by
  have : ∀ (l : List Nat) (a : List Int), (l.foldl (fun kept i => kept ++ [leftF (keyF c i) kept]) a).length = a.length + l.length := by
    intro l
    induction l with
    | nil => simp
    | cons x r ih => intro a; rw [List.foldl_cons, ih]; simp; omega
  simpa [keptF] using this is []

theorem nameStr_ascii {is : List Nat} (his : ∀ i ∈ is, i < 5) : (nameStr is).cps.all (· < 128) = true := by
  simp only [nameStr, List.all_toArray, List.all_map, List.all_eq_true, Function.comp_apply, decide_eq_true_eq]
  intro i hi
  have := his i hi
  omega
theorem nameStr_at {is : List Nat} {i n : Nat} (h : (nameStr is).cps[i]? = some n) : ∃ j, is[i]? = some j ∧ n = 97 + j := by
  simp only [nameStr, List.getElem?_toArray, List.getElem?_map] at h
  cases q : is[i]? with
  | none => rw [q] at h; cases h
  | some j => rw [q] at h; exact ⟨j, rfl, by simpa using h.symm⟩
theorem two_self (m : Str → Option Value) (a b : Str) : m = fun y => if y = a then m a else if y = b then m b else m y := by
  funext y
  by_cases h1 : y = a
  · rw [if_pos h1, h1]
  · rw [if_neg h1]
    by_cases h2 : y = b
    · rw [if_pos h2, h2]
    · rw [if_neg h2]
theorem allLt_to {d : Nat} {l : List (Addr × Obj)} (h : AllLt d l) : ∀ p ∈ l, p.1 < d := by
  induction l with
  | nil => intro p hp; cases hp
  | cons x r ih =>
    intro p hp
    rcases List.mem_cons.mp hp with rfl | hp
    · exact h.1
    · exact ih h.2 p hp
theorem intsAre_snoc {vs : List Value} {ns : List Int} (h : IntsAre vs ns) (n : Int) (t : Tok) : IntsAre (vs ++ [.int n t]) (ns ++ [n]) := by
  induction h with
  | nil => exact .cons n t .nil
  | cons a u _ ih => exact .cons a u ih
theorem two_map {m : Str → Option Value} {a b : Str} (hab : a ≠ b) {A A' B B' : Option Value} : (fun y => if y = b then B else if y = a then A else if y = a then A' else if y = b then B' else m y) = fun y => if y = a then A else if y = b then B else m y := by
  funext y
  by_cases h1 : y = a
  · subst h1; simp [hab]
  · by_cases h2 : y = b
    · subst h2; simp [h1]
    · simp [h1, h2]
noncomputable def ReachJ (c : List Int) (is : List Nat) (m0 : Str → Option Value) (lA : Addr) (news : List (Addr × Obj)) (i : Nat) (m' : Str → Option Value) (nw : List (Addr × Obj)) : Prop :=
  ∃ vk vl vs nn, m' = (fun y => if y = Str.ofString "letter" then vl else if y = Str.ofString "key" then vk else m0 y) ∧ nw = (lA, W.listOf vs.toArray nn) :: news ∧ IntsAre vs (keptF c (is.take i))

set_option maxRecDepth 100000 in
set_option maxHeartbeats 8000000 in
theorem reach_spec (w : World) (news : List (Addr × Obj)) (cA : Addr) (cvs : List Value) (c : List Int) (cn : Nat) (hc : (cA, W.listOf cvs.toArray cn) ∈ news) (hI : IntsAre cvs c) (hlen : c.length = 5) (k : Nat) (hk5 : k < 5) (is : List Nat) (his : ∀ i ∈ is, i < 5) (hil : is.length ≤ 5) (tk tn : Tok) :
    CS w 133 [.ref cA, .int k tk, .str (nameStr is) tn] news 3 32 (fun r => ∃ t, r = .int (reachF c k is) t) := by
  k_with_none
  unfold CS; k_fill; w_on
  intro loose mean mg mb dp un gd cn' cs a ccd cl outer A₀ base h₀ L m s Q E B F X N T hk hd hu hret
  replace N := news_dup N hc
  (refine wpAny_call ?_; k_dflt (refine' code_def ?k1 ?k2 ?k3 ?k4 ?k5 ?kA ?kF ?kK ?k6 ?k7 ?k8 ?k9 ?kB ?_ ?c2 ?c3 ?c4 ?c5; (case kA | kF => exact rfl); (case kK => assumption); (case k1 | k2 | k3 | k4 | k5 => k_asm); (case k6 | k7 => k_is); (case k8 => ktr_room); (case k9 => exact BindsTo.of_eq rfl); (case c5 => decide); (case kB => exact locs rfl); (case c2 | c3 | c4 => exact rfl); k_whole))
  intro g' L' h' FG' F' N' B' X' T'
  dsimp only
  k_fold
  iterate 7 (first | walk1 | (dsimp only; walk1))
  refine wpAny_For ?_ (by intro _; rfl)
  walk1
  refine wpAny_pyIter_ascii (nameStr_ascii his) ?_
  with_reducible rename Fr _ _ _ _ => F1
  with_reducible rename News _ _ _ (_ :: _ :: _) => N1
  rename_i lA _ _ _
  have hl1 : cA < lA ∧ AllLt lA news := by assumption
  obtain ⟨m0, ⟨hm1, hm2, hm3⟩, F2⟩ : ∃ m0, (m0 (Str.ofString "cells") = some (.ref cA) ∧ m0 (Str.ofString "kept") = some (.ref lA) ∧ m0 (Str.ofString "k") = some (.int k tk)) ∧ Fr g' L' _ m0 := ⟨_, ⟨rfl, rfl, rfl⟩, F1⟩
  clear F1
  refine str_turns (h₀ := g') (ReachJ c is m0 lA ((cA, W.listOf cvs.toArray cn) :: news)) rfl rfl rfl ⟨_, Heap.get?_push_size _ rfl, rfl, rfl⟩ (Nat.ne_of_lt F2.ns.lt) (Heap.get?_none_of_le (Nat.le_trans F2.above (Nat.le_of_lt F2.ns.lt))) ?hJi (F2.push _) (fun p hp => ⟨Heap.get?_push_of_some _ (N1 p hp).1, (N1 p hp).2⟩) ?hT ⟨_, _, [], 0, two_self _ _ _, rfl, IntsAre.nil⟩ ?turn ?hR
  case hJi =>
    rintro i m nw ⟨_, _, vs, nn, _, rfl, _⟩ p hp
    rcases List.mem_cons.mp hp with rfl | hp
    · exact Nat.ne_of_lt (Heap.lt_size (N1 _ (.head _)).1)
    · exact Nat.ne_of_lt (Heap.lt_size (N1 p (.tail _ hp)).1)
  case hT => exact Nat.succ_pos _
  case hR =>
    rintro h9 tk9 m9 nw9 F9 N9 ⟨vk, vl, vs, nn, rfl, rfl, hI9⟩
    have e0 : is.take (nameStr is).cps.size = is := List.take_of_length_le (by simp [nameStr])
    rw [e0] at hI9
    dsimp only
    have hk0 : (0 : Int) ≤ (k : Int) := by omega
    have hk6 : (k : Int) < 5 := by omega
    k_with "eval Name" => (k_dflt (refine' ld ?k1 ?k2 ?_; (case k1 => k_asm); (case k2 => first | exact rfl | exact hm1 | exact hm2 | exact hm3); k_whole))
    k_with "call ref" => (k_dflt (first
      | (refine' CS.use (mul_spec _ _ _ _ _) ?k1 ?k2 ?k3 ?k4 ?k5 ?kK ?kd ?ku ?_; ((case k1 | k2 | k3 | k4 | k5 => k_asm); (case kK => first | exact rfl | assumption); (case kd => ktr_room); (case ku => ktr_units)); (intro _ _ _ _ _ qo9; (try (obtain ⟨_, qe9⟩ := qo9; subst qe9)); (try (subst qo9)); (try dsimp only); (try k_fold)))
      | (refine' CS.use (truth_spec _ _ _ _) ?k1 ?k2 ?k3 ?k4 ?k5 ?kK ?kd ?ku ?_; ((case k1 | k2 | k3 | k4 | k5 => k_asm); (case kK => first | exact rfl | assumption); (case kd => ktr_room); (case ku => ktr_units)); (intro _ _ _ _ _ qo9; (try (obtain ⟨_, qe9⟩ := qo9; subst qe9)); (try (subst qo9)); (try dsimp only); (try k_fold)))
      | (refine' CS.use (left_spec _ _ _ _ lA vs _ nn ?hl hI9 ?hle) ?k1 ?k2 ?k3 ?k4 ?k5 ?kK ?kd ?ku ?_; ((case k1 | k2 | k3 | k4 | k5 => k_asm); (case kK => first | exact rfl | assumption); (case kd => ktr_room); (case ku => ktr_units)); (case hl => k_mem); (case hle => (rw [keptF_length]; omega)); (intro _ _ _ _ _ qo9; (try (obtain ⟨_, qe9⟩ := qo9; subst qe9)); (try (subst qo9)); (try dsimp only); (try k_fold)))))
    k_steps
    refine hret _ _ _ (by assumption) (fun p hp => (show News _ _ _ (_ :: _ :: news) by assumption) p (.tail _ (.tail _ hp))) ⟨_, congrArg (fun z => Value.int z _) ?_⟩
    simp only [Int.toNat_natCast, decide_eq_true_eq]
    rfl
  case turn =>
    rintro i n tk9 u9 h9 oi9 m9 nw9 hn hu9 htk9 ⟨vk, vl, vs, nn, rfl, rfl, hI9⟩ F9 N9
    obtain ⟨j, hj, rfl⟩ := nameStr_at hn
    have hj5 : j < 5 := his j (List.mem_of_getElem? hj)
    refine wpAny_passesOwn (by passes_own) ?_
    dsimp only at F9 N9 ⊢
    simp only [List.cons_append] at N9
    generalize hrest : news ++ [_] = rest at N9
    have hcl := hl1.1
    have hoff : OwnOff rest [lA] := by
      intro p hp b hb
      rw [List.mem_singleton.mp hb]
      rw [← hrest] at hp
      rcases List.mem_append.mp hp with hp | hp
      · exact Nat.ne_of_lt (allLt_to hl1.2 p hp)
      · rw [List.mem_singleton.mp hp]
        exact Nat.ne_of_gt (Heap.lt_size (N1 _ (.head _)).1)
    k_with "eval Name" => (k_dflt (refine' ld ?k1 ?k2 ?_; (case k1 => k_asm); (case k2 => first | exact rfl | exact hm1 | exact hm2 | exact hm3); k_whole))
    k_with "call ref" => (k_dflt (first
      | (refine' CST.use (indexOf_spec _ _ _ _ _ (Nat.le_add_right 97 j) (by omega) hu9) ?k1 ?k2 ?k3 ?k4 ?k5 ?kK ?kd ?ku ?kT ?_; ((case k1 | k2 | k3 | k4 | k5 => k_asm); (case kK => first | exact rfl | assumption); (case kd => ktr_room); (case ku => ktr_units)); (case kT => first | exact htk9 | exact Nat.le_trans htk9 (Nat.le_add_right _ _)); (intro _ _ _ _ _ qo9; (try (obtain ⟨_, qe9⟩ := qo9; subst qe9)); (try (subst qo9)); (try dsimp only); (try k_fold)))
      | (refine' CS.use (getitem_spec _ _ cA cvs c cn ?hl hI hlen _ _ ?h0 ?h5) ?k1 ?k2 ?k3 ?k4 ?k5 ?kK ?kd ?ku ?_; ((case k1 | k2 | k3 | k4 | k5 => k_asm); (case kK => first | exact rfl | assumption); (case kd => ktr_room); (case ku => ktr_units)); (case hl => k_mem); (case h0 => omega); (case h5 => omega); (intro _ _ _ _ _ qo9; (try (obtain ⟨_, qe9⟩ := qo9; subst qe9)); (try (subst qo9)); (try dsimp only); (try k_fold)))
      | (refine' CS.use (left_spec _ _ _ _ lA vs _ nn ?hl hI9 ?hle) ?k1 ?k2 ?k3 ?k4 ?k5 ?kK ?kd ?ku ?_; ((case k1 | k2 | k3 | k4 | k5 => k_asm); (case kK => first | exact rfl | assumption); (case kd => ktr_room); (case ku => ktr_units)); (case hl => k_mem); (case hle => (rw [keptF_length, List.length_take]; omega)); (intro _ _ _ _ _ qo9; (try (obtain ⟨_, qe9⟩ := qo9; subst qe9)); (try (subst qo9)); (try dsimp only); (try k_fold)))))
    k_with "call builtin:list.append" => (refine append_K (by k_asm) (by k_asm) (by k_upd) ?_ ?_)
    have hvl : vs.length ≤ 5 := by
      rw [IntsAre.length hI9, keptF_length, List.length_take]
      omega
    k_steps
    all_goals first | (show _ ≤ sizeLine; rw [List.size_toArray, sizeLine_eq]; omega) | skip
    subst hrest
    refine StrEnd.on (nw := (lA, W.listOf (vs ++ [Value.int _ _]).toArray (nn + 1)) :: (cA, W.listOf cvs.toArray cn) :: news) (by assumption) (by first | assumption | (simp only [List.cons_append, ← List.push_toArray]; assumption)) ⟨_, _, _, nn + 1, two_map (by decide), rfl, ?_⟩
    have e1 : ((97 + j : Nat) - 97 : Int).toNat = j := by omega
    have e2 : is.take (i + 1) = is.take i ++ [j] := by simp [List.take_add_one, hj]
    rw [e2, keptF_snoc, e1]
    exact intsAre_snoc hI9 _ _
-- PlainA
/-- the keys of a choice together -/
noncomputable def X (v : Nat → Nat) (m : Nat) : Nat := (if m.testBit 0 then v 0 else 0) ^^^ (if m.testBit 1 then v 1 else 0) ^^^ (if m.testBit 2 then v 2 else 0) ^^^ (if m.testBit 3 then v 3 else 0) ^^^ (if m.testBit 4 then v 4 else 0)
theorem xor_ite (a b : Bool) (x : Nat) : (if (a ^^ b) = true then x else 0) = (if a then x else 0) ^^^ (if b then x else 0) := by
  cases a <;> cases b <;> simp
theorem X_xor (v : Nat → Nat) (m n : Nat) : X v (m ^^^ n) = X v m ^^^ X v n := by
  unfold X
  rw [Nat.testBit_xor, Nat.testBit_xor, Nat.testBit_xor, Nat.testBit_xor, Nat.testBit_xor, xor_ite, xor_ite, xor_ite, xor_ite, xor_ite]
  ac_rfl
theorem X_zero (v : Nat → Nat) : X v 0 = 0 := by simp [X]
theorem X_pow (v : Nat → Nat) (k : Nat) (hk : k < 5) : X v (2 ^ k) = v k := by
  rcases (show k = 0 ∨ k = 1 ∨ k = 2 ∨ k = 3 ∨ k = 4 by omega) with rfl | rfl | rfl | rfl | rfl <;> simp +decide [X]
theorem X_lt (v : Nat → Nat) (hv : ∀ k, v k < 16) (m : Nat) : X v m < 16 := by
  have h : ∀ (b : Bool) k, (if b = true then v k else 0) < 2 ^ 4 := fun b k => by cases b <;> simp; exact hv k
  exact Nat.xor_lt_two_pow (Nat.xor_lt_two_pow (Nat.xor_lt_two_pow (Nat.xor_lt_two_pow (h _ _) (h _ _)) (h _ _)) (h _ _)) (h _ _)
theorem xor_self_left (a b : Nat) : a ^^^ (a ^^^ b) = b := by rw [← Nat.xor_assoc, Nat.xor_self, Nat.zero_xor]
theorem xor_self_right (a b : Nat) : (b ^^^ a) ^^^ a = b := by rw [Nat.xor_assoc, Nat.xor_self, Nat.xor_zero]
theorem xor_eq_zero {a b : Nat} : a ^^^ b = 0 ↔ a = b := by
  constructor
  · intro h
    have := xor_self_right b a
    rw [h, Nat.zero_xor] at this
    exact this.symm
  · rintro rfl; exact Nat.xor_self a
/-- a choice is bound: some of it, one or more, come to nought -/
noncomputable def boundB (v : Nat → Nat) (n : Nat) : Bool := (List.range 32).any fun m => decide (0 < m) && decide (m &&& n = m) && decide (X v m = 0)
theorem bound_iff {v : Nat → Nat} {n : Nat} : boundB v n = true ↔ ∃ m, m < 32 ∧ 0 < m ∧ m &&& n = m ∧ X v m = 0 := by
  simp only [boundB, List.any_eq_true, List.mem_range, Bool.and_eq_true, decide_eq_true_eq, and_assoc]
theorem free_iff {v : Nat → Nat} {n : Nat} : boundB v n = false ↔ ∀ m, m < 32 → m &&& n = m → X v m = 0 → m = 0 := by
  rw [← Bool.not_eq_true, bound_iff]
  constructor
  · intro h m h1 h2 h3
    exact Nat.eq_zero_of_not_pos fun h0 => h ⟨m, h1, h0, h2, h3⟩
  · rintro h ⟨m, h1, h2, h3, h4⟩
    exact absurd (h m h1 h3 h4) (Nat.ne_of_gt h2)
/-- what the choice T makes -/
noncomputable def inSpan (v : Nat → Nat) (T x : Nat) : Prop := ∃ m, m < 32 ∧ m &&& T = m ∧ X v m = x
theorem and_xor {a b T : Nat} (h1 : a &&& T = a) (h2 : b &&& T = b) : (a ^^^ b) &&& T = a ^^^ b := by
  rw [Nat.and_xor_distrib_right, h1, h2]
theorem xor_lt32 {a b : Nat} (h1 : a < 32) (h2 : b < 32) : a ^^^ b < 32 := Nat.xor_lt_two_pow (n := 5) h1 h2
theorem inSpan.xor {v : Nat → Nat} {T x y : Nat} (h1 : inSpan v T x) (h2 : inSpan v T y) : inSpan v T (x ^^^ y) := by
  obtain ⟨m, a1, a2, a3⟩ := h1
  obtain ⟨n, b1, b2, b3⟩ := h2
  exact ⟨m ^^^ n, xor_lt32 a1 b1, and_xor a2 b2, by rw [X_xor, a3, b3]⟩
theorem inSpan.zero {v : Nat → Nat} {T : Nat} : inSpan v T 0 := ⟨0, by decide, Nat.zero_and T, X_zero v⟩
theorem inSpan.mono {v : Nat → Nat} {S T x : Nat} (hST : S &&& T = S) (h : inSpan v S x) : inSpan v T x := by
  obtain ⟨m, a1, a2, a3⟩ := h
  exact ⟨m, a1, by rw [← a2, Nat.and_assoc, hST], a3⟩
theorem inSpan.key {v : Nat → Nat} {T k : Nat} (hk : k < 5) (h : T.testBit k = true) : inSpan v T (v k) :=
  ⟨2 ^ k, by rcases (show k = 0 ∨ k = 1 ∨ k = 2 ∨ k = 3 ∨ k = 4 by omega) with rfl | rfl | rfl | rfl | rfl <;> decide, by
    apply Nat.eq_of_testBit_eq; intro i; rw [Nat.testBit_and, Nat.testBit_two_pow]; by_cases e : k = i
    · subst e; simp [h]
    · simp [e], X_pow v k hk⟩
theorem mask_add1 : ∀ k, k < 5 → ∀ T, T < 32 → T.testBit k = false → (T + 2 ^ k < 32 ∧ T + 2 ^ k = T ||| 2 ^ k) := by decide +kernel
theorem mask_add2 : ∀ k, k < 5 → ∀ T, T < 32 → ∀ m, m < 32 → (T.testBit k = false ∧ m &&& T = m) → ((m ^^^ 2 ^ k) &&& (T ||| 2 ^ k) = m ^^^ 2 ^ k ∧ 0 < m ^^^ 2 ^ k) := by decide +kernel
theorem mask_out : ∀ k, k < 5 → ∀ T, T < 32 → ∀ m, m < 32 → m &&& (T ||| 2 ^ k) = m → m &&& T = m ∨ (m ^^^ 2 ^ k) &&& T = m ^^^ 2 ^ k := by decide +kernel
/-- a free choice and one thing more: it is bound when the thing's key is made by the choice -/
theorem bound_add {v : Nat → Nat} {T k : Nat} (hk : k < 5) (hT : T < 32) (hb : T.testBit k = false) (hf : boundB v T = false) : boundB v (T + 2 ^ k) = true ↔ inSpan v T (v k) := by
  obtain ⟨h1, h2⟩ := mask_add1 k hk T hT hb
  have h3 := fun m hm hm2 => mask_add2 k hk T hT m hm ⟨hb, hm2⟩
  rw [← h2] at h3
  have p32 : 2 ^ k < 32 := Nat.lt_of_le_of_lt (Nat.le_add_left _ _) h1
  rw [bound_iff]
  constructor
  · rintro ⟨m, a1, a2, a3, a4⟩
    rw [h2] at a3
    rcases mask_out k hk T hT m a1 a3 with e | e
    · exact absurd (free_iff.mp hf m a1 e a4) (Nat.ne_of_gt a2)
    · exact ⟨m ^^^ 2 ^ k, xor_lt32 a1 p32, e, by rw [X_xor, a4, X_pow v k hk, Nat.zero_xor]⟩
  · rintro ⟨m, a1, a2, a3⟩
    obtain ⟨b1, b2⟩ := h3 m a1 a2
    exact ⟨m ^^^ 2 ^ k, xor_lt32 a1 p32, b2, b1, by rw [X_xor, a3, X_pow v k hk, Nat.xor_self]⟩
theorem span_or {v : Nat → Nat} {T k x : Nat} (hk : k < 5) (hT : T < 32) : inSpan v (T ||| 2 ^ k) x ↔ inSpan v T x ∨ inSpan v T (x ^^^ v k) := by
  have p32 : 2 ^ k < 32 := Nat.pow_lt_pow_right (a := 2) (by decide) hk
  constructor
  · rintro ⟨m, a1, a2, a3⟩
    rcases mask_out k hk T hT m a1 a2 with e | e
    · exact .inl ⟨m, a1, e, a3⟩
    · exact .inr ⟨m ^^^ 2 ^ k, xor_lt32 a1 p32, e, by rw [X_xor, a3, X_pow v k hk]⟩
  · have up : T &&& (T ||| 2 ^ k) = T := by rw [Nat.and_or_distrib_left, Nat.and_self]; apply Nat.eq_of_testBit_eq; intro i; simp; intro h _; exact h
    have self : (T ||| 2 ^ k).testBit k = true := by simp [Nat.testBit_or, Nat.testBit_two_pow_self]
    rintro (h | h)
    · exact h.mono up
    · have := (h.mono up).xor (inSpan.key hk self)
      rwa [xor_self_right] at this

/-- how many things a choice has -/
noncomputable def pc (n : Nat) : Nat := ((List.range 5).filter fun k => n.testBit k).length
noncomputable def subs (n : Nat) : List Nat := (List.range 32).filter fun m => decide (m &&& n = m)
theorem subs_length : ∀ n, n < 32 → (subs n).length = 2 ^ pc n := by decide +kernel
theorem nodup_le {α : Type} [DecidableEq α] : ∀ {l l' : List α}, l.Nodup → (∀ x ∈ l, x ∈ l') → l.length ≤ l'.length
  | [], _, _, _ => Nat.zero_le _
  | a :: l, l', h, hs => by
    have ha := hs a (.head _)
    have hn := List.nodup_cons.mp h
    have := nodup_le (l' := l'.erase a) hn.2 fun x hx => (List.mem_erase_of_ne (fun e => hn.1 (by rw [← e]; exact hx))).mpr (hs x (.tail _ hx))
    rw [List.length_erase_of_mem ha] at this
    have : 0 < l'.length := List.length_pos_of_mem ha
    rw [List.length_cons]; omega
theorem subs_nodup {v : Nat → Nat} {S : Nat} (hf : boundB v S = false) : ((subs S).map (X v)).Nodup := by
  have h0 : (subs S).Nodup := (List.nodup_range (n := 32)).sublist (List.filter_sublist ..)
  have inj : ∀ a ∈ subs S, ∀ b ∈ subs S, X v a = X v b → a = b := by
    intro a ha b hb e
    simp only [subs, List.mem_filter, List.mem_range, decide_eq_true_eq] at ha hb
    have := free_iff.mp hf (a ^^^ b) (xor_lt32 ha.1 hb.1) (and_xor ha.2 hb.2) (by rw [X_xor, e, Nat.xor_self])
    exact xor_eq_zero.mp this
  revert h0 inj
  generalize subs S = l
  intro h0 inj
  induction l with
  | nil => exact .nil
  | cons a l ih =>
    have hn := List.nodup_cons.mp h0
    rw [List.map_cons, List.nodup_cons]
    refine ⟨fun hm => ?_, ih hn.2 fun x hx y hy => inj x (.tail _ hx) y (.tail _ hy)⟩
    obtain ⟨b, hb, e⟩ := List.mem_map.mp hm
    rw [inj a (.head _) b (.tail _ hb) e.symm] at hn
    exact hn.1 hb
/-- what a choice whose things are made by G makes, is made by G -/
theorem span_sub {v : Nat → Nat} {S G : Nat} (h : ∀ k, k < 5 → S.testBit k = true → inSpan v G (v k)) {m : Nat} (hm : m &&& S = m) : inSpan v G (X v m) := by
  have g : ∀ k, k < 5 → inSpan v G (if m.testBit k then v k else 0) := by
    intro k hk
    by_cases q : m.testBit k = true
    · rw [if_pos q]
      refine h k hk ?_
      rw [← hm, Nat.testBit_and] at q
      exact (Bool.and_eq_true_iff.mp q).2
    · rw [if_neg q]; exact inSpan.zero
  exact ((((g 0 (by decide)).xor (g 1 (by decide))).xor (g 2 (by decide))).xor (g 3 (by decide))).xor (g 4 (by decide))
/-- the exchange: a free choice that G makes has no more things than G -/
theorem steinitz {v : Nat → Nat} {S G : Nat} (hS : S < 32) (hG : G < 32) (hf : boundB v S = false) (h : ∀ k, k < 5 → S.testBit k = true → inSpan v G (v k)) : pc S ≤ pc G := by
  have := nodup_le (l' := (subs G).map (X v)) (subs_nodup hf) fun x hx => by
    obtain ⟨m, hm, rfl⟩ := List.mem_map.mp hx
    simp only [subs, List.mem_filter, List.mem_range, decide_eq_true_eq] at hm
    obtain ⟨m', a1, a2, a3⟩ := span_sub h hm.2
    exact List.mem_map.mpr ⟨m', by simp only [subs, List.mem_filter, List.mem_range, decide_eq_true_eq]; exact ⟨a1, a2⟩, a3⟩
  rw [List.length_map, List.length_map, subs_length S hS, subs_length G hG] at this
  exact (Nat.pow_le_pow_iff_right (by decide)).mp this
theorem rank_le {v : Nat → Nat} (hv : ∀ k, v k < 16) {S : Nat} (hS : S < 32) (hf : boundB v S = false) : pc S ≤ 4 := by
  have := nodup_le (l' := List.range 16) (subs_nodup hf) fun x hx => by
    obtain ⟨m, hm, rfl⟩ := List.mem_map.mp hx
    exact List.mem_range.mpr (X_lt v hv m)
  rw [List.length_map, subs_length S hS, List.length_range] at this
  exact (Nat.pow_le_pow_iff_right (a := 2) (m := 4) (by decide)).mp this
-- PlainB
noncomputable def stepN (r o : Nat) : Nat := if r ^^^ o < r then r ^^^ o else r
noncomputable def leftN (r : Nat) (l : List Nat) : Nat := l.foldl stepN r
noncomputable def keptN (v : Nat → Nat) (is : List Nat) : List Nat := is.foldl (fun kept i => kept ++ [leftN (v i) kept]) []
theorem leftN_snoc (r : Nat) (l : List Nat) (o : Nat) : leftN r (l ++ [o]) = stepN (leftN r l) o := by simp [leftN]
theorem keptN_snoc (v : Nat → Nat) (is : List Nat) (i : Nat) : keptN v (is ++ [i]) = keptN v is ++ [leftN (v i) (keptN v is)] := by simp [keptN]
/-- what a list of keys makes -/
noncomputable def spL : List Nat → Nat → Prop
  | [], x => x = 0
  | a :: l, x => spL l x ∨ spL l (x ^^^ a)
theorem spL_snoc (a : Nat) : ∀ (l : List Nat) (x : Nat), spL (l ++ [a]) x ↔ spL l x ∨ spL l (x ^^^ a)
  | [], x => by simp [spL]
  | b :: l, x => by
    show spL (l ++ [a]) x ∨ spL (l ++ [a]) (x ^^^ b) ↔ (spL l x ∨ spL l (x ^^^ b)) ∨ spL l (x ^^^ a) ∨ spL l ((x ^^^ a) ^^^ b)
    rw [spL_snoc a l x, spL_snoc a l (x ^^^ b), show (x ^^^ b) ^^^ a = (x ^^^ a) ^^^ b by ac_rfl]
    constructor
    · rintro ((h | h) | (h | h)) <;> simp [h]
    · rintro ((h | h) | (h | h)) <;> simp [h]
theorem spL_xor : ∀ (l : List Nat) (x y : Nat), spL l x → spL l y → spL l (x ^^^ y)
  | [], x, y, h1, h2 => by
    rw [show x = 0 from h1, show y = 0 from h2]; rfl
  | a :: l, x, y, h1, h2 => by
    rcases h1 with h1 | h1 <;> rcases h2 with h2 | h2
    · exact .inl (spL_xor l _ _ h1 h2)
    · exact .inr (by have := spL_xor l _ _ h1 h2; rwa [show x ^^^ (y ^^^ a) = x ^^^ y ^^^ a by ac_rfl] at this)
    · exact .inr (by have := spL_xor l _ _ h1 h2; rwa [show (x ^^^ a) ^^^ y = x ^^^ y ^^^ a by ac_rfl] at this)
    · exact .inl (by have := spL_xor l _ _ h1 h2; rwa [show (x ^^^ a) ^^^ (y ^^^ a) = (x ^^^ y) ^^^ (a ^^^ a) by ac_rfl, Nat.xor_self, Nat.xor_zero] at this)
theorem left_span : ∀ (l : List Nat) (r : Nat), spL l (r ^^^ leftN r l)
  | [], r => by show r ^^^ r = 0; exact Nat.xor_self r
  | a :: l, r => by
    show spL l (r ^^^ leftN (stepN r a) l) ∨ spL l (r ^^^ leftN (stepN r a) l ^^^ a)
    have ih := left_span l (stepN r a)
    unfold stepN at ih ⊢
    by_cases h : r ^^^ a < r
    · rw [if_pos h] at ih ⊢
      right
      rwa [show r ^^^ leftN (r ^^^ a) l ^^^ a = (r ^^^ a) ^^^ leftN (r ^^^ a) l by ac_rfl]
    · rw [if_neg h] at ih ⊢
      exact .inl ih
/-- the place of the highest figure -/
noncomputable def topB (o : Nat) : Nat := if o < 2 then 0 else if o < 4 then 1 else if o < 8 then 2 else 3
theorem top_step : ∀ r, r < 16 → ∀ o, o < 16 → o ≠ 0 → (stepN r o).testBit (topB o) = false := by decide +kernel
theorem top_self : ∀ o, o < 16 → o ≠ 0 → o.testBit (topB o) = true := by decide +kernel
theorem step_lt : ∀ r, r < 16 → ∀ o, o < 16 → stepN r o < 16 := by decide +kernel
noncomputable def off (l : List Nat) (a : Nat) : Prop := ∀ o ∈ l, o ≠ 0 → a.testBit (topB o) = false
theorem off_step {l : List Nat} {r o : Nat} (h1 : off l r) (h2 : off l o) : off l (stepN r o) := fun p hp h0 => by
  unfold stepN
  by_cases h : r ^^^ o < r
  · rw [if_pos h, Nat.testBit_xor, h1 p hp h0, h2 p hp h0]; rfl
  · rw [if_neg h]; exact h1 p hp h0
inductive Good : List Nat → Prop where
  | nil : Good []
  | snoc {l : List Nat} {a : Nat} : Good l → off l a → a < 16 → Good (l ++ [a])
theorem left_off {l : List Nat} (h : Good l) {r : Nat} (hr : r < 16) : off l (leftN r l) ∧ leftN r l < 16 := by
  induction h with
  | nil => exact ⟨(fun o ho => nomatch ho), hr⟩
  | @snoc l a _ ho ha ih =>
    rw [leftN_snoc]
    refine ⟨fun p hp h0 => ?_, step_lt _ ih.2 _ ha⟩
    rcases List.mem_append.mp hp with hp | hp
    · exact off_step ih.1 ho p hp h0
    · rw [List.mem_singleton.mp hp] at h0 ⊢
      exact top_step _ ih.2 _ ha h0
theorem span_off {l : List Nat} (h : Good l) : ∀ {x : Nat}, spL l x → off l x → x = 0 := by
  induction h with
  | nil => intro x h _; exact h
  | @snoc l a _ ho ha ih =>
    intro x h hx
    have hx1 : off l x := fun p hp h0 => hx p (List.mem_append_left _ hp) h0
    rcases (spL_snoc a l x).mp h with h | h
    · exact ih h hx1
    · have e := ih h fun p hp h0 => by rw [Nat.testBit_xor, hx1 p hp h0, ho p hp h0]; rfl
      rw [xor_eq_zero] at e
      subst e
      by_cases h0 : x = 0
      · exact h0
      · have := hx x (List.mem_append_right _ (.head _)) h0
        rw [top_self x ha h0] at this
        cases this
theorem left_zero {l : List Nat} (h : Good l) {r : Nat} (hr : r < 16) : leftN r l = 0 ↔ spL l r := by
  constructor
  · intro e
    have := left_span l r
    rwa [e, Nat.xor_zero] at this
  · intro hs
    refine span_off h ?_ (left_off h hr).1
    have := spL_xor l _ _ hs (left_span l r)
    rwa [xor_self_left] at this
theorem kept_good {v : Nat → Nat} (hv : ∀ k, v k < 16) (is : List Nat) : Good (keptN v is) := by
  have : ∀ r : List Nat, Good (keptN v r.reverse) := by
    intro r
    induction r with
    | nil => exact .nil
    | cons i r ih =>
      rw [List.reverse_cons, keptN_snoc]
      exact .snoc ih (left_off ih (hv i)).1 (left_off ih (hv i)).2
  simpa using this is.reverse
/-- the choice of a name -/
noncomputable def maskOf (is : List Nat) : Nat := is.foldl (fun T i => T ||| 2 ^ i) 0
theorem maskOf_snoc (is : List Nat) (i : Nat) : maskOf (is ++ [i]) = maskOf is ||| 2 ^ i := by simp [maskOf]
theorem snoc_ind {α : Type} {P : List α → Prop} (h0 : P []) (h1 : ∀ l a, P l → P (l ++ [a])) (l : List α) : P l := by
  have : ∀ r : List α, P r.reverse := by
    intro r
    induction r with
    | nil => exact h0
    | cons a r ih => rw [List.reverse_cons]; exact h1 _ _ ih
  simpa using this l.reverse
theorem maskOf_lt (is : List Nat) : (∀ i ∈ is, i < 5) → maskOf is < 32 := by
  refine snoc_ind (P := fun is => (∀ i ∈ is, i < 5) → maskOf is < 32) (fun _ => by decide) (fun l a ih h => ?_) is
  rw [maskOf_snoc]
  exact Nat.or_lt_two_pow (n := 5) (ih fun i hi => h i (List.mem_append_left _ hi)) (Nat.pow_lt_pow_right (a := 2) (by decide) (h a (List.mem_append_right _ (.head _))))
theorem maskOf_bit (is : List Nat) (k : Nat) : (maskOf is).testBit k = true ↔ k ∈ is := by
  refine snoc_ind (P := fun is => (maskOf is).testBit k = true ↔ k ∈ is) (by simp [maskOf]) (fun l a ih => ?_) is
  rw [maskOf_snoc, Nat.testBit_or, Nat.testBit_two_pow, Bool.or_eq_true, ih, List.mem_append, List.mem_singleton, decide_eq_true_eq]
  exact or_congr Iff.rfl eq_comm
theorem kept_span {v : Nat → Nat} (is : List Nat) : (∀ i ∈ is, i < 5) → ∀ x, spL (keptN v is) x ↔ inSpan v (maskOf is) x := by
  refine snoc_ind (P := fun is => (∀ i ∈ is, i < 5) → ∀ x, spL (keptN v is) x ↔ inSpan v (maskOf is) x) (fun _ x => ?_) (fun l a ih h x => ?_) is
  · constructor
    · intro h; rw [show x = 0 from h]; exact inSpan.zero
    · rintro ⟨m, _, h2, h3⟩
      have : m = 0 := by rw [← h2]; exact Nat.and_zero m
      subst this
      rw [X_zero] at h3
      exact h3.symm
  · have hl : ∀ i ∈ l, i < 5 := fun i hi => h i (List.mem_append_left _ hi)
    have ha : a < 5 := h a (List.mem_append_right _ (.head _))
    rw [keptN_snoc, maskOf_snoc, spL_snoc, span_or ha (maskOf_lt l hl), ih hl, ih hl]
    have hs := (ih hl _).mp (left_span (keptN v l) (v a))
    refine or_congr Iff.rfl ⟨fun q => ?_, fun q => ?_⟩
    · have := q.xor hs
      rwa [show (x ^^^ leftN (v a) (keptN v l)) ^^^ (v a ^^^ leftN (v a) (keptN v l)) = (x ^^^ v a) ^^^ (leftN (v a) (keptN v l) ^^^ leftN (v a) (keptN v l)) by ac_rfl, Nat.xor_self, Nat.xor_zero] at this
    · have := q.xor hs
      rwa [show (x ^^^ v a) ^^^ (v a ^^^ leftN (v a) (keptN v l)) = (x ^^^ leftN (v a) (keptN v l)) ^^^ (v a ^^^ v a) by ac_rfl, Nat.xor_self, Nat.xor_zero] at this
/-- freed of the kept keys, nothing is left of a key: the name makes it -/
theorem left_name {v : Nat → Nat} (hv : ∀ k, v k < 16) {is : List Nat} (his : ∀ i ∈ is, i < 5) (k : Nat) : leftN (v k) (keptN v is) = 0 ↔ inSpan v (maskOf is) (v k) := by
  rw [left_zero (kept_good hv is) (hv k), kept_span is his]

noncomputable def keyN (c : List Int) (k : Nat) : Nat := (keyF c k).toNat
theorem keyF_range (c : List Int) (k : Nat) : 0 ≤ keyF c k ∧ keyF c k < 16 := by
  unfold keyF
  exact ⟨Int.fmod_nonneg_of_pos _ (by decide), Int.fmod_lt_of_pos _ (by decide)⟩
theorem keyN_lt (c : List Int) (k : Nat) : keyN c k < 16 := by
  have := keyF_range c k
  unfold keyN; omega
theorem keyF_nat (c : List Int) (k : Nat) : keyF c k = (keyN c k : Int) := by
  have := keyF_range c k
  unfold keyN; omega
theorem bitXor_nat : ∀ a : Nat, a < 16 → ∀ b : Nat, b < 16 → Builtin.bitXor (a : Int) (b : Int) = ((a ^^^ b : Nat) : Int) := by decide +kernel
theorem leftStep_nat {a b : Nat} (ha : a < 16) (hb : b < 16) : leftStep (a : Int) (b : Int) = (stepN a b : Nat) := by
  unfold leftStep stepN
  rw [bitXor_nat a ha b hb]
  by_cases h : a ^^^ b < a
  · rw [if_pos h, if_pos (by omega)]
  · rw [if_neg h, if_neg (by omega)]
theorem leftF_nat : ∀ (l : List Nat) (r : Nat), r < 16 → (∀ o ∈ l, o < 16) → leftF (r : Int) (l.map Int.ofNat) = (leftN r l : Nat)
  | [], _, _, _ => rfl
  | a :: l, r, hr, h => by
    have ha := h a (.head _)
    show leftF (leftStep (r : Int) (a : Int)) (l.map Int.ofNat) = _
    rw [leftStep_nat hr ha, leftF_nat l _ (step_lt _ hr _ ha) fun o ho => h o (.tail _ ho)]
    rfl
theorem good_lt {l : List Nat} (h : Good l) : ∀ o ∈ l, o < 16 := by
  induction h with
  | nil => intro o ho; cases ho
  | snoc _ _ ha ih =>
    intro o ho
    rcases List.mem_append.mp ho with ho | ho
    · exact ih o ho
    · rw [List.mem_singleton.mp ho]; exact ha
theorem keptF_nat (c : List Int) (is : List Nat) : keptF c is = (keptN (keyN c) is).map Int.ofNat := by
  refine snoc_ind (P := fun is => keptF c is = (keptN (keyN c) is).map Int.ofNat) rfl (fun l a ih => ?_) is
  rw [keptF_snoc, keptN_snoc, List.map_append, ih, keyF_nat, leftF_nat _ _ (keyN_lt c a) (good_lt (kept_good (keyN_lt c) l))]
  rfl
theorem reach_span (c : List Int) (k : Nat) {is : List Nat} (his : ∀ i ∈ is, i < 5) (h : inSpan (keyN c) (maskOf is) (keyN c k)) : reachF c k is = 0 := by
  have e := (left_name (keyN_lt c) his k).mpr h
  unfold reachF
  rw [keptF_nat, keyF_nat, leftF_nat _ _ (keyN_lt c k) (good_lt (kept_good (keyN_lt c) is)), e]
  simp
theorem reach_free (c : List Int) (k : Nat) {is : List Nat} (his : ∀ i ∈ is, i < 5) (h : ¬ inSpan (keyN c) (maskOf is) (keyN c k)) : reachF c k is = weightF c k := by
  have e : leftN (keyN c k) (keptN (keyN c) is) ≠ 0 := fun e => h ((left_name (keyN_lt c) his k).mp e)
  unfold reachF
  rw [keptF_nat, keyF_nat, leftF_nat _ _ (keyN_lt c k) (good_lt (kept_good (keyN_lt c) is)), if_pos (by omega)]
  simp
-- PlainC
theorem weightF_range (c : List Int) (k : Nat) : 0 ≤ weightF c k ∧ weightF c k < 8 := by
  unfold weightF
  exact ⟨Int.fmod_nonneg_of_pos _ (by decide), Int.fmod_lt_of_pos _ (by decide)⟩
theorem reach_range (c : List Int) (k : Nat) (is : List Nat) : 0 ≤ reachF c k is ∧ reachF c k is ≤ weightF c k := by
  have := weightF_range c k
  unfold reachF
  by_cases h : leftF (keyF c k) (keptF c is) ≠ 0
  · rw [if_pos h]; omega
  · rw [if_neg h]; omega
/-- a record's allowance of a name: the first of the rules that reach farthest, if any reaches -/
noncomputable def allowStep (c : List Int) (is : List Nat) (st : Int × Option Nat) (k : Nat) : Int × Option Nat := if reachF c k is ≠ 0 ∧ st.1 < reachF c k is then (reachF c k is, some k) else st
noncomputable def allowF (c : List Int) (order is : List Nat) : Option Nat := (order.foldl (allowStep c is) (-1, none)).2
noncomputable def nameRun (c : List Int) (order : List Nat) : Nat → List Nat → Option (List Nat)
  | 0, _ => none
  | n + 1, is => match allowF c order is with
    | none => some is
    | some k => nameRun c order n (is ++ [k])
noncomputable def takeStep (c : List Int) (w : Int) (st : Nat × List Nat) (k : Nat) : Nat × List Nat := if weightF c k = w ∧ boundB (keyN c) (st.1 + 2 ^ k) = false then (st.1 + 2 ^ k, st.2 ++ [k]) else st
noncomputable def takeRow (c : List Int) (order : List Nat) (st : Nat × List Nat) (w : Int) : Nat × List Nat := order.foldl (takeStep c w) st
noncomputable def takenF (c : List Int) (order : List Nat) : Nat × List Nat := [7, 6, 5, 4, 3, 2, 1].foldl (takeRow c order) (0, [])

theorem allow_first {c : List Int} {is pre post : List Nat} {k : Nat} (hk : 0 < reachF c k is) (h1 : ∀ i ∈ pre, reachF c i is < reachF c k is) (h2 : ∀ i ∈ post, reachF c i is ≤ reachF c k is) : allowF c (pre ++ k :: post) is = some k := by
  have e1 : ∀ (pre : List Nat) (st : Int × Option Nat), (∀ i ∈ pre, reachF c i is < reachF c k is) → st.1 < reachF c k is → (pre.foldl (allowStep c is) st).1 < reachF c k is := by
    intro pre
    induction pre with
    | nil => intro st _ h; exact h
    | cons i r ih =>
      intro st h hs
      refine ih _ (fun i hi => h i (.tail _ hi)) ?_
      unfold allowStep
      split
      · exact h i (.head _)
      · exact hs
  have e2 : ∀ (post : List Nat), (∀ i ∈ post, reachF c i is ≤ reachF c k is) → post.foldl (allowStep c is) (reachF c k is, some k) = (reachF c k is, some k) := by
    intro post
    induction post with
    | nil => intro _; rfl
    | cons i r ih =>
      intro h
      have : allowStep c is (reachF c k is, some k) i = (reachF c k is, some k) := by
        unfold allowStep
        exact if_neg fun q => absurd q.2 (Int.not_lt.mpr (h i (.head _)))
      rw [List.foldl_cons, this]
      exact ih fun i hi => h i (.tail _ hi)
  unfold allowF
  rw [List.foldl_append, List.foldl_cons]
  have := e1 pre (-1, none) h1 (by show (-1 : Int) < _; omega)
  generalize pre.foldl (allowStep c is) (-1, none) = st at this
  have : allowStep c is st k = (reachF c k is, some k) := by
    unfold allowStep
    exact if_pos ⟨by omega, this⟩
  rw [this, e2 post h2]
theorem allow_none {c : List Int} {is order : List Nat} (h : ∀ i ∈ order, reachF c i is = 0) : allowF c order is = none := by
  have : ∀ (order : List Nat) (st : Int × Option Nat), (∀ i ∈ order, reachF c i is = 0) → order.foldl (allowStep c is) st = st := by
    intro order
    induction order with
    | nil => intro st _; rfl
    | cons i r ih =>
      intro st h
      have e : allowStep c is st i = st := by
        unfold allowStep
        exact if_neg fun q => q.1 (h i (.head _))
      rw [List.foldl_cons, e]
      exact ih st fun i hi => h i (.tail _ hi)
  unfold allowF
  rw [this order _ h]

theorem pc_add : ∀ k, k < 5 → ∀ T, T < 32 → T.testBit k = false → pc (T + 2 ^ k) = pc T + 1 := by decide +kernel
theorem mask_sub {a b : List Nat} (h : ∀ i ∈ a, i ∈ b) : maskOf a &&& maskOf b = maskOf a := by
  apply Nat.eq_of_testBit_eq
  intro i
  rw [Nat.testBit_and]
  by_cases q : (maskOf a).testBit i = true
  · rw [q, (maskOf_bit b i).mpr (h i ((maskOf_bit a i).mp q))]; rfl
  · rw [Bool.eq_false_iff.mpr q]; rfl
noncomputable def doneK (c : List Int) (w : Int) (pre : List Nat) (k : Nat) : Prop := w < weightF c k ∨ weightF c k = w ∧ k ∈ pre
noncomputable def geL (c : List Int) (t : Int) (is : List Nat) : List Nat := is.filter fun i => decide (t ≤ weightF c i)
structure Inv (c : List Int) (order : List Nat) (w : Int) (pre : List Nat) (st : Nat × List Nat) : Prop where
  lt5 : ∀ i ∈ st.2, i < 5
  mask : st.1 = maskOf st.2
  free : boundB (keyN c) st.1 = false
  len : pc st.1 = st.2.length
  come : ∀ i ∈ st.2, doneK c w pre i
  span : ∀ k, k < 5 → doneK c w pre k → inSpan (keyN c) (maskOf (geL c (weightF c k) st.2)) (keyN c k)
  sorted : (st.2.map (weightF c)).Pairwise (· ≥ ·)
  greedy : ∀ j k, st.2[j]? = some k → allowF c order (st.2.take j) = some k
  nodup : st.2.Nodup
theorem geL_sub (c : List Int) (t : Int) (is : List Nat) : ∀ i ∈ geL c t is, i ∈ is := fun _ h => (List.mem_filter.mp h).1
theorem Inv.step {c : List Int} {order pre post : List Nat} {w : Int} {k : Nat} {st : Nat × List Nat} (I : Inv c order w pre st) (ho : order = pre ++ k :: post) (hn : order.Nodup) (h5 : ∀ i ∈ order, i < 5) (hw : 1 ≤ w) : Inv c order w (pre ++ [k]) (takeStep c w st k) := by
  have hk5 : k < 5 := h5 k (by rw [ho]; simp)
  have hkp : k ∉ pre := by
    rw [ho, List.nodup_append] at hn
    exact fun q => hn.2.2 k q k (.head _) rfl
  have up : ∀ i, doneK c w pre i → doneK c w (pre ++ [k]) i := fun i q => q.imp id fun q => ⟨q.1, List.mem_append_left _ q.2⟩
  have down : ∀ i, doneK c w (pre ++ [k]) i → doneK c w pre i ∨ i = k ∧ weightF c k = w := fun i q => by
    rcases q with q | ⟨q, q2⟩
    · exact .inl (.inl q)
    · rcases List.mem_append.mp q2 with q2 | q2
      · exact .inl (.inr ⟨q, q2⟩)
      · rw [List.mem_singleton.mp q2] at q ⊢; exact .inr ⟨rfl, q⟩
  obtain ⟨T, is⟩ := st
  obtain ⟨lt5, mask, free, len, come, span, sorted, greedy, nodup⟩ := I
  simp only at lt5 mask free len come span sorted greedy nodup
  have hT : T < 32 := by rw [mask]; exact maskOf_lt is lt5
  have geW : ∀ i ∈ is, w ≤ weightF c i := fun i hi => (come i hi).elim Int.le_of_lt fun q => Int.le_of_eq q.1.symm
  by_cases hkw : weightF c k = w
  case neg =>
    have e : takeStep c w (T, is) k = (T, is) := by unfold takeStep; exact if_neg fun q => hkw q.1
    rw [e]
    exact ⟨lt5, mask, free, len, fun i hi => up i (come i hi), fun i hi q => span i hi ((down i q).resolve_right fun z => hkw z.2), sorted, greedy, nodup⟩
  case pos =>
  have hki : k ∉ is := fun q => (come k q).elim (fun z => absurd hkw (by omega)) fun z => hkp z.2
  have hbit : T.testBit k = false := by
    rw [mask, ← Bool.not_eq_true, maskOf_bit]; exact hki
  have hadd := bound_add hk5 hT hbit free
  by_cases hb : boundB (keyN c) (T + 2 ^ k) = false
  case neg =>
    have e : takeStep c w (T, is) k = (T, is) := by unfold takeStep; exact if_neg fun q => hb q.2
    rw [e]
    refine ⟨lt5, mask, free, len, fun i hi => up i (come i hi), fun i hi q => ?_, sorted, greedy, nodup⟩
    rcases down i q with q | ⟨rfl, _⟩
    · exact span i hi q
    · have e2 : geL c (weightF c i) is = is := List.filter_eq_self.mpr fun j hj => by rw [hkw]; exact decide_eq_true (geW j hj)
      rw [e2, ← mask]
      exact hadd.mp (by simpa using hb)
  case pos =>
    have e : takeStep c w (T, is) k = (T + 2 ^ k, is ++ [k]) := by unfold takeStep; exact if_pos ⟨hkw, hb⟩
    rw [e]
    have hnot : ¬ inSpan (keyN c) (maskOf is) (keyN c k) := fun q => by
      rw [← mask] at q
      rw [hadd.mpr q] at hb
      cases hb
    have lt5' : ∀ i ∈ is ++ [k], i < 5 := fun i hi => (List.mem_append.mp hi).elim (lt5 i) fun q => by rw [List.mem_singleton.mp q]; exact hk5
    refine ⟨lt5', ?_, hb, ?_, ?_, ?_, ?_, ?_, List.nodup_append.mpr ⟨nodup, (List.nodup_cons.mpr ⟨List.not_mem_nil, List.nodup_nil⟩), fun x hx y hy e => by rw [e, List.mem_singleton.mp hy] at hx; exact hki hx⟩⟩
    · show T + 2 ^ k = maskOf (is ++ [k])
      rw [maskOf_snoc, ← mask]
      exact (mask_add1 k hk5 T hT hbit).2
    · show pc (T + 2 ^ k) = (is ++ [k]).length
      rw [pc_add k hk5 T hT hbit, len, List.length_append]; rfl
    · intro i hi
      rcases List.mem_append.mp hi with hi | hi
      · exact up i (come i hi)
      · rw [List.mem_singleton.mp hi]; exact .inr ⟨hkw, List.mem_append_right _ (.head _)⟩
    · intro i hi q
      have e3 : ∀ t, geL c t (is ++ [k]) = geL c t is ++ geL c t [k] := fun t => List.filter_append ..
      rcases down i q with q | ⟨rfl, _⟩
      · exact (span i hi q).mono (mask_sub fun j hj => by rw [e3]; exact List.mem_append_left _ hj)
      · refine inSpan.key hk5 ((maskOf_bit _ i).mpr ?_)
        exact List.mem_filter.mpr ⟨List.mem_append_right _ (.head _), decide_eq_true (Int.le_refl _)⟩
    · show ((is ++ [k]).map (weightF c)).Pairwise (· ≥ ·)
      rw [List.map_append, List.pairwise_append]
      refine ⟨sorted, List.pairwise_singleton .., fun x hx y hy => ?_⟩
      obtain ⟨i, hi, rfl⟩ := List.mem_map.mp hx
      rw [List.map_singleton, List.mem_singleton] at hy
      rw [hy, hkw]
      exact geW i hi
    · intro j k' hj
      show allowF c order ((is ++ [k]).take j) = some k'
      by_cases hlt : j < is.length
      · rw [List.take_append_of_le_length (Nat.le_of_lt hlt)]
        exact greedy j k' (by rw [← hj]; exact (List.getElem?_append_left hlt).symm)
      · have hj2 : j < is.length + 1 := by
          have := (List.getElem?_eq_some_iff.mp hj).1
          simpa using this
        have hje : j = is.length := by omega
        subst hje
        have : (is ++ [k])[is.length]? = some k := by simp
        rw [this] at hj
        cases hj
        rw [List.take_append_of_le_length (Nat.le_refl _), List.take_length, ho]
        have hr : reachF c k is = w := by rw [reach_free c k lt5 hnot, hkw]
        have hz : ∀ i, i < 5 → doneK c w pre i → reachF c i is = 0 := fun i hi q => reach_span c i lt5 ((span i hi q).mono (mask_sub (geL_sub c _ is)))
        refine allow_first (by omega) (fun i hi => ?_) fun i hi => ?_
        · have hi5 : i < 5 := h5 i (by rw [ho]; exact List.mem_append_left _ hi)
          have := reach_range c i is
          by_cases q : w ≤ weightF c i
          · rw [hz i hi5 ((Int.lt_or_eq_of_le q).imp id fun z => ⟨z.symm, hi⟩)]; omega
          · omega
        · have hi5 : i < 5 := h5 i (by rw [ho]; exact List.mem_append_right _ (.tail _ hi))
          have := reach_range c i is
          by_cases q : w < weightF c i
          · rw [hz i hi5 (.inl q)]; omega
          · omega
theorem Inv.row {c : List Int} {order : List Nat} {w : Int} (hn : order.Nodup) (h5 : ∀ i ∈ order, i < 5) (hw : 1 ≤ w) : ∀ (post pre : List Nat) (st : Nat × List Nat), order = pre ++ post → Inv c order w pre st → Inv c order w order (post.foldl (takeStep c w) st)
  | [], pre, st, ho, I => by
    rw [List.append_nil] at ho
    rw [← ho] at I
    exact I
  | k :: post, pre, st, ho, I => by
    rw [List.foldl_cons]
    exact Inv.row hn h5 hw post (pre ++ [k]) _ (by rw [ho, List.append_assoc]; rfl) (I.step ho hn h5 hw)
theorem Inv.next {c : List Int} {order : List Nat} {w : Int} {st : Nat × List Nat} (ha : ∀ i, i < 5 → i ∈ order) (I : Inv c order w order st) : Inv c order (w - 1) [] st := by
  obtain ⟨lt5, mask, free, len, come, span, sorted, greedy, nodup⟩ := I
  refine ⟨lt5, mask, free, len, fun i hi => .inl ?_, fun k hk q => span k hk ?_, sorted, greedy, nodup⟩
  · rcases come i hi with q | q <;> omega
  · rcases q with q | ⟨_, q⟩
    · rcases (show w < weightF c k ∨ weightF c k = w by omega) with z | z
      · exact .inl z
      · exact .inr ⟨z, ha k hk⟩
    · cases q
theorem Inv.start (c : List Int) (order : List Nat) : Inv c order 7 [] (0, []) := by
  have no : ∀ k, ¬ doneK c 7 [] k := fun k q => by
    have := weightF_range c k
    rcases q with q | ⟨_, q⟩
    · omega
    · cases q
  exact ⟨(fun i hi => nomatch hi), rfl, (by show boundB (keyN c) 0 = false; rw [free_iff]; intro m _ h _; rw [← h]; exact Nat.and_zero m), rfl, (fun i hi => nomatch hi), fun k _ q => absurd q (no k), .nil, (fun j k h => by simp at h), List.nodup_nil⟩
theorem taken_inv {c : List Int} {order : List Nat} (hn : order.Nodup) (h5 : ∀ i ∈ order, i < 5) (ha : ∀ i, i < 5 → i ∈ order) : Inv c order 1 order (takenF c order) := by
  have r : ∀ {w : Int} {st : Nat × List Nat}, 1 ≤ w → Inv c order w [] st → Inv c order w order (takeRow c order st w) := fun hw I => Inv.row hn h5 hw order [] _ rfl I
  exact r (by decide) ((r (by decide) ((r (by decide) ((r (by decide) ((r (by decide) ((r (by decide) ((r (w := 7) (by decide) (Inv.start c order)).next ha)).next ha)).next ha)).next ha)).next ha)).next ha)
theorem taken_len {c : List Int} {order : List Nat} (I : Inv c order 1 order (takenF c order)) : (takenF c order).2.length ≤ 4 := by
  have hT : (takenF c order).1 < 32 := by rw [I.mask]; exact maskOf_lt _ I.lt5
  have := rank_le (keyN_lt c) hT I.free
  rw [I.len] at this
  exact this
theorem taken_end {c : List Int} {order : List Nat} (h5 : ∀ i ∈ order, i < 5) (I : Inv c order 1 order (takenF c order)) : allowF c order (takenF c order).2 = none := by
  refine allow_none fun i hi => ?_
  have hi5 := h5 i hi
  have h1 := weightF_range c i
  have h2 := reach_range c i (takenF c order).2
  by_cases q : 1 ≤ weightF c i
  · refine reach_span c i I.lt5 ((I.span i hi5 ?_).mono (mask_sub (geL_sub c _ _)))
    exact (Int.lt_or_eq_of_le q).imp id fun z => ⟨z.symm, hi⟩
  · omega
theorem name_run {c : List Int} {order is : List Nat} (hg : ∀ j k, is[j]? = some k → allowF c order (is.take j) = some k) (he : allowF c order is = none) : ∀ (d j n : Nat), j + d = is.length → d < n → nameRun c order n (is.take j) = some is
  | 0, j, n, hj, hn => by
    obtain ⟨n, rfl⟩ : ∃ k, n = k + 1 := ⟨n - 1, by omega⟩
    have e : is.take j = is := List.take_of_length_le (by omega)
    rw [e, nameRun, he]
  | d + 1, j, n, hj, hn => by
    obtain ⟨n, rfl⟩ : ∃ k, n = k + 1 := ⟨n - 1, by omega⟩
    have hlt : j < is.length := by omega
    have hk : is[j]? = some is[j] := List.getElem?_eq_getElem hlt
    rw [nameRun, hg j _ hk]
    show nameRun c order n (is.take j ++ [is[j]]) = some is
    have e : is.take j ++ [is[j]] = is.take (j + 1) := by rw [List.take_add_one, hk]; rfl
    rw [e]
    exact name_run hg he d (j + 1) n (by omega) (by omega)
theorem name_taken {c : List Int} {order : List Nat} (hn : order.Nodup) (h5 : ∀ i ∈ order, i < 5) (ha : ∀ i, i < 5 → i ∈ order) : nameRun c order 5 [] = some (takenF c order).2 := by
  have I := taken_inv (c := c) hn h5 ha
  have hl := taken_len I
  have := name_run I.greedy (taken_end h5 I) (takenF c order).2.length 0 5 (Nat.zero_add _) (by omega)
  rwa [List.take_zero] at this
-- PlainD
noncomputable def memb (n : Nat) : List Nat := (List.range 5).filter fun k => n.testBit k
theorem mask_memb : ∀ n, n < 32 → maskOf (memb n) = n := by decide +kernel
theorem memb_nodup (n : Nat) : (memb n).Nodup := (List.nodup_range (n := 5)).sublist (List.filter_sublist ..)
theorem mem_memb {n k : Nat} : k ∈ memb n ↔ k < 5 ∧ n.testBit k = true := by rw [memb, List.mem_filter, List.mem_range]
theorem pc_or : ∀ k, k < 5 → ∀ T, T < 32 → pc (T ||| 2 ^ k) ≤ pc T + 1 := by decide +kernel
theorem pc_mask_le (l : List Nat) : (∀ i ∈ l, i < 5) → pc (maskOf l) ≤ l.length := by
  refine snoc_ind (P := fun l => (∀ i ∈ l, i < 5) → pc (maskOf l) ≤ l.length) (fun _ => by decide) (fun l a ih h => ?_) l
  have hl : ∀ i ∈ l, i < 5 := fun i hi => h i (List.mem_append_left _ hi)
  rw [maskOf_snoc, List.length_append]
  have := pc_or a (h a (List.mem_append_right _ (.head _))) _ (maskOf_lt l hl)
  have := ih hl
  simp only [List.length_singleton]; omega
theorem pc_mask (l : List Nat) : (∀ i ∈ l, i < 5) → l.Nodup → pc (maskOf l) = l.length := by
  refine snoc_ind (P := fun l => (∀ i ∈ l, i < 5) → l.Nodup → pc (maskOf l) = l.length) (fun _ _ => by decide) (fun l a ih h hn => ?_) l
  have hl : ∀ i ∈ l, i < 5 := fun i hi => h i (List.mem_append_left _ hi)
  have ha := h a (List.mem_append_right _ (.head _))
  rw [List.nodup_append] at hn
  have hb : (maskOf l).testBit a = false := by
    rw [← Bool.not_eq_true, maskOf_bit]
    exact fun q => hn.2.2 a q a (.head _) rfl
  rw [maskOf_snoc, ← (mask_add1 a ha _ (maskOf_lt l hl) hb).2, pc_add a ha _ (maskOf_lt l hl) hb, ih hl hn.1, List.length_append]; rfl
/-- how many of these weigh t or more -/
noncomputable def cnt (c : List Int) (l : List Nat) (t : Int) : Nat := (geL c t l).length
structure BestOk (c : List Int) (n : Nat) (best : List Int) : Prop where
  len : best.length = 5
  nonneg : ∀ p, 0 ≤ best.getD p 0
  lower : ∀ m, m < n → 1 ≤ m → boundB (keyN c) m = false → ∀ p t, p < cnt c (memb m) t → t ≤ best.getD p 0
  upper : ∀ p t, 1 ≤ t → t ≤ best.getD p 0 → ∃ m, m < n ∧ boundB (keyN c) m = false ∧ p < cnt c (memb m) t
theorem best_start (c : List Int) : BestOk c 1 [0, 0, 0, 0, 0] := by
  have z : ∀ p : Nat, ([0, 0, 0, 0, 0] : List Int).getD p 0 = 0 := fun p => by
    match p with
    | 0 => rfl
    | 1 => rfl
    | 2 => rfl
    | 3 => rfl
    | 4 => rfl
    | p + 5 => rfl
  refine ⟨rfl, fun p => Int.le_of_eq (z p).symm, fun m h1 h2 => by omega, fun p t h1 h2 => by rw [z] at h2; omega⟩
theorem best_bound {c : List Int} {n : Nat} {best : List Int} (h : BestOk c n best) (hb : boundB (keyN c) n = true) : BestOk c (n + 1) best := by
  refine ⟨h.len, h.nonneg, fun m h1 h2 h3 => ?_, fun p t h1 h2 => ?_⟩
  · rcases (show m < n ∨ m = n by omega) with q | rfl
    · exact h.lower m q h2 h3
    · rw [hb] at h3; cases h3
  · obtain ⟨m, a1, a2⟩ := h.upper p t h1 h2
    exact ⟨m, by omega, a2⟩
theorem sorted_cnt (a : Int) : ∀ {ns : List Int}, ns.Pairwise (· ≤ ·) → ∀ p, p < (ns.filter fun x => decide (x ≤ a)).length ↔ p < ns.length ∧ ns.getD p 0 ≤ a
  | [], _, p => by simp
  | x :: r, h, p => by
    have hr := List.pairwise_cons.mp h
    by_cases q : x ≤ a
    · rw [List.filter_cons_of_pos (p := fun x => decide (x ≤ a)) (decide_eq_true q)]
      match p with
      | 0 => simp [q]
      | p + 1 =>
        have := sorted_cnt a hr.2 p
        simp only [List.length_cons, Nat.succ_lt_succ_iff, List.getD_cons_succ]
        exact this
    · have e : (x :: r).filter (fun x => decide (x ≤ a)) = [] := List.filter_eq_nil_iff.mpr fun y hy => by
        rcases List.mem_cons.mp hy with rfl | hy
        · simpa using q
        · have := hr.1 y hy
          simp; omega
      rw [e]
      constructor
      · intro z; cases z
      · rintro ⟨z1, z2⟩
        match p with
        | 0 => exact absurd z2 q
        | p + 1 =>
          rw [List.getD_cons_succ] at z2
          have hp : p < r.length := by simpa using z1
          have e2 : r.getD p 0 = r[p] := by simp [hp]
          have := hr.1 _ (List.getElem_mem hp)
          rw [← e2] at this
          omega
theorem cnt_sorted {c : List Int} {l : List Nat} {ns : List Int} (hp : ns.Perm (l.map fun k => -weightF c k)) (hs : ns.Pairwise (· ≤ ·)) (p : Nat) (t : Int) : p < cnt c l t ↔ p < ns.length ∧ t ≤ -(ns.getD p 0) := by
  have e : cnt c l t = (ns.filter fun x => decide (x ≤ -t)).length := by
    rw [(hp.filter _).length_eq, List.filter_map, List.length_map]
    unfold cnt geL
    congr 2
    funext i
    simp only [Function.comp_apply]
    exact decide_eq_decide.mpr (by omega)
  rw [e, sorted_cnt (-t) hs]
  exact and_congr Iff.rfl (by omega)
/-- the places of best, each raised to the weight that stands there -/
noncomputable def UpTo (best0 pre best : List Int) : Prop := best.length = best0.length ∧ ∀ p, best.getD p 0 = if p < pre.length then max (best0.getD p 0) (-(pre.getD p 0)) else best0.getD p 0
theorem best_free {c : List Int} {n : Nat} {best best' ns : List Int} (h : BestOk c n best) (hp : ns.Perm ((memb n).map fun k => -weightF c k)) (hs : ns.Pairwise (· ≤ ·)) (hu : UpTo best ns best') (hf : boundB (keyN c) n = false) : BestOk c (n + 1) best' := by
  obtain ⟨u1, u2⟩ := hu
  have ge : ∀ p, best.getD p 0 ≤ best'.getD p 0 := fun p => by
    rw [u2]; split
    · exact Int.le_max_left ..
    · exact Int.le_refl _
  refine ⟨by rw [u1, h.len], fun p => Int.le_trans (h.nonneg p) (ge p), fun m h1 h2 h3 p t h4 => ?_, fun p t h1 h2 => ?_⟩
  · rcases (show m < n ∨ m = n by omega) with q | rfl
    · exact Int.le_trans (h.lower m q h2 h3 p t h4) (ge p)
    · obtain ⟨a1, a2⟩ := (cnt_sorted hp hs p t).mp h4
      rw [u2, if_pos a1]
      exact Int.le_trans a2 (Int.le_max_right ..)
  · have old : t ≤ best.getD p 0 → ∃ m, m < n + 1 ∧ boundB (keyN c) m = false ∧ p < cnt c (memb m) t := fun q => by
      obtain ⟨m, a1, a2⟩ := h.upper p t h1 q
      exact ⟨m, by omega, a2⟩
    rw [u2] at h2
    split at h2
    case isTrue hlt =>
      by_cases q : t ≤ best.getD p 0
      · exact old q
      · have e : t ≤ -(ns.getD p 0) := by omega
        exact ⟨n, Nat.lt_succ_self n, hf, (cnt_sorted hp hs p t).mpr ⟨hlt, e⟩⟩
    case isFalse => exact old h2
theorem bound_mono {v : Nat → Nat} {S T : Nat} (h : S &&& T = S) (hf : boundB v T = false) : boundB v S = false := by
  rw [free_iff] at hf ⊢
  exact fun m h1 h2 h3 => hf m h1 (by rw [← h2, Nat.and_assoc, h]) h3
theorem best_taken {c : List Int} {order : List Nat} {best : List Int} (I : Inv c order 1 order (takenF c order)) (ha : ∀ i, i < 5 → i ∈ order) (h : BestOk c 32 best) : best.filter (fun x => decide (0 < x)) = (takenF c order).2.map (weightF c) := by
  generalize takenF c order = st at I
  obtain ⟨T, is⟩ := st
  obtain ⟨lt5, mask, free, len, come, span, sorted, greedy, nodup⟩ := I
  simp only at lt5 mask free len come span sorted nodup ⊢
  have hT : T < 32 := by rw [mask]; exact maskOf_lt is lt5
  have hl4 : is.length ≤ 4 := by
    have := rank_le (keyN_lt c) hT free
    rwa [len] at this
  have hs : (is.map fun k => -weightF c k).Pairwise (· ≤ ·) := by
    rw [List.pairwise_map] at sorted ⊢
    exact sorted.imp fun {a b} q => by omega
  have hpos : ∀ i ∈ is, 1 ≤ weightF c i := fun i hi => (come i hi).elim (fun q => by omega) fun q => by omega
  have key : ∀ p t, 1 ≤ t → (t ≤ best.getD p 0 ↔ p < cnt c is t) := by
    intro p t ht
    constructor
    · intro q
      obtain ⟨m, h1, h2, h3⟩ := h.upper p t ht q
      refine Nat.lt_of_lt_of_le h3 ?_
      have l1 : ∀ i ∈ geL c t (memb m), i < 5 := fun i hi => (mem_memb.mp (geL_sub c t _ i hi)).1
      have l2 : ∀ i ∈ geL c t is, i < 5 := fun i hi => lt5 i (geL_sub c t _ i hi)
      have e1 := pc_mask _ l1 ((memb_nodup m).sublist (List.filter_sublist ..))
      have e2 := pc_mask_le _ l2
      have sub : maskOf (geL c t (memb m)) &&& m = maskOf (geL c t (memb m)) := by
        have := mask_sub (geL_sub c t (memb m))
        rwa [mask_memb m h1] at this
      have := steinitz (maskOf_lt _ l1) (maskOf_lt _ l2) (bound_mono sub h2) fun k hk hb => by
        have hm := (maskOf_bit _ k).mp hb
        have hw : t ≤ weightF c k := by simpa using (List.mem_filter.mp hm).2
        refine (span k hk ((Int.lt_or_eq_of_le (Int.le_trans ht hw)).imp id fun z => ⟨z.symm, ha k hk⟩)).mono (mask_sub fun i hi => ?_)
        obtain ⟨i1, i2⟩ := List.mem_filter.mp hi
        exact List.mem_filter.mpr ⟨i1, decide_eq_true (Int.le_trans hw (by simpa using i2))⟩
      unfold cnt
      omega
    · intro q
      have hne : is ≠ [] := fun e => by subst e; cases q
      have h1 : 1 ≤ T := by
        rcases Nat.eq_zero_or_pos T with z | z
        · rw [z] at len
          have : is.length = 0 := by rw [← len]; decide
          exact absurd (List.length_eq_zero_iff.mp this) hne
        · exact z
      refine h.lower T hT h1 free p t (Nat.lt_of_lt_of_le q ?_)
      refine nodup_le (nodup.sublist (List.filter_sublist ..)) fun i hi => ?_
      obtain ⟨i1, i2⟩ := List.mem_filter.mp hi
      refine List.mem_filter.mpr ⟨mem_memb.mpr ⟨lt5 i i1, ?_⟩, i2⟩
      rw [mask]
      exact (maskOf_bit is i).mpr i1
  have val : ∀ p, best.getD p 0 = if p < is.length then -((is.map fun k => -weightF c k).getD p 0) else 0 := by
    intro p
    have h0 := h.nonneg p
    have hc : ∀ t, 1 ≤ t → (t ≤ best.getD p 0 ↔ p < is.length ∧ t ≤ -((is.map fun k => -weightF c k).getD p 0)) := fun t ht => by
      rw [key p t ht, cnt_sorted (List.Perm.refl _) hs, List.length_map]
    split
    case isTrue hp =>
      have hg : 1 ≤ -((is.map fun k => -weightF c k).getD p 0) := by
        have : (is.map fun k => -weightF c k).getD p 0 = -weightF c is[p] := by simp [hp]
        rw [this]
        have := hpos _ (List.getElem_mem hp)
        omega
      have a1 := (hc _ hg).mpr ⟨hp, Int.le_refl _⟩
      have a2 := ((hc (best.getD p 0) (by omega)).mp (Int.le_refl _)).2
      omega
    case isFalse hp =>
      rcases (show best.getD p 0 = 0 ∨ 1 ≤ best.getD p 0 by omega) with z | z
      · exact z
      · exact absurd ((hc _ z).mp (Int.le_refl _)).1 hp
  have split : best = is.map (weightF c) ++ List.replicate (5 - is.length) 0 := by
    apply List.ext_getElem
    · rw [h.len, List.length_append, List.length_map, List.length_replicate]; omega
    · intro p h1 h2
      have e1 : best[p] = best.getD p 0 := by simp [h1]
      rw [e1, val p, List.getElem_append]
      by_cases hp : p < is.length
      · rw [if_pos hp, dif_pos (by rw [List.length_map]; exact hp)]
        simp [hp]
      · rw [if_neg hp, dif_neg (by rw [List.length_map]; exact hp), List.getElem_replicate]
  rw [split, List.filter_append]
  have e1 : (is.map (weightF c)).filter (fun x => decide (0 < x)) = is.map (weightF c) := List.filter_eq_self.mpr fun x hx => by
    obtain ⟨i, hi, rfl⟩ := List.mem_map.mp hx
    have := hpos i hi
    simp; omega
  have e2 : (List.replicate (5 - is.length) (0 : Int)).filter (fun x => decide (0 < x)) = [] := List.filter_eq_nil_iff.mpr fun x hx => by
    rw [List.eq_of_mem_replicate hx]; simp
  rw [e1, e2, List.append_nil]
theorem mask_less : ∀ n, n < 32 → ∀ m, m < 32 → m &&& n = m → (m = n ∨ ∃ k ∈ memb n, m &&& (n - 2 ^ k) = m) := by decide +kernel
theorem mask_minus : ∀ n, n < 32 → ∀ k ∈ memb n, (n - 2 ^ k) &&& n = n - 2 ^ k := by decide +kernel
theorem bound_rec {v : Nat → Nat} {n : Nat} (h1 : 1 ≤ n) (hn : n < 32) : boundB v n = (decide (X v n = 0) || (memb n).any fun k => boundB v (n - 2 ^ k)) := by
  rw [Bool.eq_iff_iff, Bool.or_eq_true, bound_iff, decide_eq_true_eq, List.any_eq_true]
  constructor
  · rintro ⟨m, a1, a2, a3, a4⟩
    rcases mask_less n hn m a1 a3 with rfl | ⟨k, hk, e⟩
    · exact .inl a4
    · exact .inr ⟨k, hk, bound_iff.mpr ⟨m, a1, a2, e, a4⟩⟩
  · rintro (h | ⟨k, hk, h⟩)
    · exact ⟨n, hn, h1, Nat.and_self n, h⟩
    · obtain ⟨m, a1, a2, a3, a4⟩ := bound_iff.mp h
      exact ⟨m, a1, a2, by rw [← a3, Nat.and_assoc, mask_minus n hn k hk], a4⟩
-- Entry
/-- a call of the class Entry: a new object, its dict, its two lists -/
abbrev EntryCS (w : World) (news : List (Addr × Obj)) : Prop :=
  ∀ (loose : List Str) (mean : ExcName → Option Value) (mg mb : Str → Option Value) (dp un : Nat) (gd : Option (List Code)) (cn : Str) (cs : Scope) (a : Addr) (ccd : Value) (cl : List (Str × Addr)) (outer : List Env) (A₀ : Around) (base h₀ : Heap) (L : Addr) (m : Str → Option Value) (s : Shared) (Q E : Value → Shared → Prop),
    Below A₀ base outer h₀ → Fr h₀ L s.heap m → (hd.heap_39 w.params).In h₀ → News h₀ L s.heap news → Top topProg loose mean mg mb h₀ → cs.kind = .function → dp + 4 < recursionLimit → un + 16 < cLine →
    (∀ x d l1 l2 t1 t2 t3 t4 h' tk', Fr h₀ L h' m → News h₀ L h' ((l2, W.listOf #[] 0) :: (l1, W.listOf #[] 0) :: (x, instObj 52 d) :: (d, dictOf [⟨PyData.keyHash w.params (Str.ofString "useragents"), .str (Str.ofString "useragents") t1, .ref l1⟩, ⟨PyData.keyHash w.params (Str.ofString "rulelines"), .str (Str.ofString "rulelines") t2, .ref l2⟩, ⟨PyData.keyHash w.params (Str.ofString "delay"), .str (Str.ofString "delay") t3, .none⟩, ⟨PyData.keyHash w.params (Str.ofString "req_rate"), .str (Str.ofString "req_rate") t4, .none⟩] 4) :: news) →
      (∀ p ∈ news, p.1 < d) → d < x → x < l1 → l1 < l2 → Q (.ref x) { s with heap := h', toks := tk' }) →
    wpAny (model (PySem.Challenge.rw_rl0026_01.row.prog) w) (ktrTop dp un gd cn cs L a ccd cl outer) (call (.ref 52) []) Q E s

theorem ownOff_lt {news : List (Addr × Obj)} {d : Addr} (h : ∀ p ∈ news, p.1 < d) {bs : List Addr} (hb : ∀ b ∈ bs, d ≤ b) : OwnOff news bs := fun p hp b hm => Nat.ne_of_lt (Nat.lt_of_lt_of_le (h p hp) (hb b hm))

set_option maxRecDepth 100000 in
set_option maxHeartbeats 8000000 in
theorem entry_spec (w : World) (news : List (Addr × Obj)) : EntryCS w news := by
  k_with_none
  unfold EntryCS; k_fill; w_on
  intro loose mean mg mb dp un gd cn cs a ccd cl outer A₀ base h₀ L m s Q E B F X N T hk hd hu hret
  k_dflt (refine' call_cls ?k1 ?k2 ?k3 ?k4 ?k5 ?k6 ?_; (case k1 => k_asm); (case k2 => k_asm); (case k3 => k_asm); (case k4 => k_is); (case k5 => k_is); (case k6 => k_is); k_whole)
  intro x d h1 F1 N1 hlt hdx
  have hoff : OwnOff news [d, x] := ownOff_lt hlt (by intro b hb; simp at hb; rcases hb with rfl | rfl; exact Nat.le_refl _; exact Nat.le_of_lt hdx)
  k_dflt (refine' code_def ?k1 ?k2 ?k3 ?k4 ?k5 ?kA ?kF ?kK ?k6 ?k7 ?k8 ?k9 ?kB ?_ ?c2 ?c3 ?c4 ?c5; (case kA => exact rfl); (case kF => exact rfl); (case kK => assumption); (case k1 => k_asm); (case k2 => k_asm); (case k3 => k_asm); (case k4 => k_asm); (case k5 => k_asm); (case k6 => k_is); (case k7 => k_is); (case k8 => ktr_room); (case k9 => exact BindsTo.of_eq rfl); (case c5 => decide); (case kB => exact locs rfl); (case c2 => exact rfl); (case c3 => exact rfl); (case c4 => exact rfl); k_whole)
  k_lt2 hdx
  intro g' L' h' FG' F' N' B' X' T'
  ((try dsimp only); (try k_fold))
  k_steps
  refine hret x d _ _ _ _ _ _ _ _ (by assumption) (by assumption) hlt hdx ?_ ?_
  all_goals (refine ltN ?_; omega)

theorem EntryCS.use {w : World} {news : List (Addr × Obj)} (C : EntryCS w news) {loose : List Str} {mean : ExcName → Option Value} {mg mb : Str → Option Value} {dp un : Nat} {gd : Option (List Code)} {cn : Str} {cs : Scope} {a : Addr} {ccd : Value} {cl : List (Str × Addr)} {outer : List Env} {A₀ : Around} {base h₀ : Heap} {L : Addr} {m : Str → Option Value} {s : Shared} {Q E : Value → Shared → Prop}
    (B : Below A₀ base outer h₀) (F : Fr h₀ L s.heap m) (X : (hd.heap_39 w.params).In h₀) (N : News h₀ L s.heap news) (T : Top topProg loose mean mg mb h₀) (hk : cs.kind = .function) (hd : dp + 4 < recursionLimit) (hu : un + 16 < cLine) (ret : ∀ x d l1 l2 t1 t2 t3 t4 h' tk', Fr h₀ L h' m → News h₀ L h' ((l2, W.listOf #[] 0) :: (l1, W.listOf #[] 0) :: (x, instObj 52 d) :: (d, dictOf [⟨PyData.keyHash w.params (Str.ofString "useragents"), .str (Str.ofString "useragents") t1, .ref l1⟩, ⟨PyData.keyHash w.params (Str.ofString "rulelines"), .str (Str.ofString "rulelines") t2, .ref l2⟩, ⟨PyData.keyHash w.params (Str.ofString "delay"), .str (Str.ofString "delay") t3, .none⟩, ⟨PyData.keyHash w.params (Str.ofString "req_rate"), .str (Str.ofString "req_rate") t4, .none⟩] 4) :: news) →
      (∀ p ∈ news, p.1 < d) → d < x → x < l1 → l1 < l2 → Q (.ref x) { s with heap := h', toks := tk' }) :
    wpAny (model (PySem.Challenge.rw_rl0026_01.row.prog) w) (ktrTop dp un gd cn cs L a ccd cl outer) (call (.ref 52) []) Q E s :=
  C loose mean mg mb dp un gd cn cs a ccd cl outer A₀ base h₀ L m s Q E B F X N T hk hd hu ret
-- Bound
noncomputable def boolsTo (c : List Int) (k : Nat) : List Value := (List.range k).map fun n => Value.bool (boundB (keyN c) n)
noncomputable def sumsTo (c : List Int) (k : Nat) : List Int := (List.range k).map fun n => (X (keyN c) n : Int)
noncomputable def BoundJ (c : List Int) (cA lS lB cB cC : Addr) (cvs : List Value) (cn : Nat) (news : List (Addr × Obj)) (i : Nat) (m' : Str → Option Value) (nw : List (Addr × Obj)) : Prop :=
  m' (Str.ofString "sums") = some (.ref lS) ∧ m' (Str.ofString "cells") = some (.ref cA) ∧ (cA, W.listOf cvs.toArray cn) ∈ nw ∧ (∀ p ∈ news, p ∈ nw) ∧ (∃ o, (cB, o) ∈ nw ∧ o.data = .cell (some (.ref lB))) ∧ (∃ o v, (cC, o) ∈ nw ∧ o.data = .cell v) ∧
    (∃ n, (lB, W.listOf (boolsTo c (i + 1)).toArray n) ∈ nw) ∧ ∃ vs n, (lS, W.listOf vs.toArray n) ∈ nw ∧ IntsAre vs (sumsTo c (i + 1))
theorem membersTo_memb : ∀ n : Nat, n < 32 → membersTo (n : Int) 5 = (memb n).map Int.ofNat := by decide +kernel
noncomputable def lastM (n : Nat) : Nat := (memb n).getLastD 0
theorem lastM_at : ∀ n : Nat, n < 32 → 1 ≤ n → ((memb n).map Int.ofNat)[((memb n).map Int.ofNat).length - 1]? = some (lastM n : Int) ∧ lastM n < 5 ∧ 2 ^ lastM n ≤ n ∧ X (fun _ => 0) n = 0 := by decide +kernel
theorem members_last {vs : List Value} {i : Nat} (hi : i < 31) (h : IntsAre vs (membersTo (1 + (i : Int)) 5)) : IntsAre vs ((memb (1 + i)).map Int.ofNat) ∧ ∃ t, vs[vs.length - 1]? = some (.int (lastM (1 + i) : Int) t) := by
  rw [show (1 + (i : Int)) = ((1 + i : Nat) : Int) by omega, membersTo_memb _ (by omega)] at h
  have h1 := (lastM_at (1 + i) (by omega) (by omega)).1
  rw [← IntsAre.length h] at h1
  exact ⟨h, h.get _ _ h1⟩
theorem cells_at {cvs : List Value} {c : List Int} {k : Nat} (h : IntsAre cvs c) (hk : k < c.length) : ∃ t, cvs[((k : Int)).toNat]? = some (.int (c.getD k 0) t) := by
  rw [Int.toNat_natCast]
  exact h.get k _ (by simp [hk])
theorem sums_at {vs : List Value} {c : List Int} {i la : Nat} (h : IntsAre vs (sumsTo c (i + 1))) (hla : 2 ^ la ≤ 1 + i) : ∃ t, vs[(1 + (i : Int) - 2 ^ ((la : Int)).toNat).toNat]? = some (.int (X (keyN c) (1 + i - 2 ^ la) : Nat) t) := by
  have e : (1 + (i : Int) - 2 ^ ((la : Int)).toNat).toNat = 1 + i - 2 ^ la := by
    rw [Int.toNat_natCast]
    have : ((2 ^ la : Nat) : Int) = 2 ^ la := by simp
    omega
  have hp : 0 < 2 ^ la := Nat.two_pow_pos la
  rw [e]
  refine h.get _ _ ?_
  have hlt : 1 + i - 2 ^ la < i + 1 := by omega
  simp [sumsTo, hlt]
theorem idx_facts {i la : Nat} (hi : i < 31) (hla : 2 ^ la ≤ 1 + i) : (0 : Int) ≤ 1 + (i : Int) - 2 ^ ((la : Int)).toNat ∧ 1 + (i : Int) - 2 ^ ((la : Int)).toNat < 2 ^ 63 := by
  have e : (2 : Int) ^ ((la : Int)).toNat = ((2 ^ la : Nat) : Int) := by simp
  rw [e]
  generalize 2 ^ la = z at hla
  omega
theorem memb_len (n : Nat) : (memb n).length ≤ 5 := List.length_filter_le ..
noncomputable def withinTo (c : List Int) (n j : Nat) : List Int := (((memb n).take j).filter fun k => boundB (keyN c) (n - 2 ^ k)).map Int.ofNat
theorem memb_item {vs : List Value} {n j : Nat} {v : Value} (h : IntsAre vs ((memb n).map Int.ofNat)) (hv : vs.toArray[j]? = some v) : ∃ (k : Nat) (t : Tok), (memb n)[j]? = some k ∧ v = .int (k : Int) t := by
  have hj : vs[j]? = some v := by simpa using hv
  have hlt := (List.getElem?_eq_some_iff.mp hj).1
  rw [IntsAre.length h, List.length_map] at hlt
  obtain ⟨t, ht⟩ := h.get j ((memb n)[j] : Int) (by simp [hlt])
  rw [hj] at ht
  exact ⟨(memb n)[j], t, List.getElem?_eq_getElem hlt, Option.some.inj ht⟩
theorem memb_facts : ∀ n : Nat, n < 32 → ∀ k ∈ memb n, k < 5 ∧ 2 ^ k ≤ n := by decide +kernel
theorem last_xor : ∀ n : Nat, n < 32 → 1 ≤ n → n = (n - 2 ^ lastM n) ^^^ 2 ^ lastM n := by decide +kernel
theorem xor_last (c : List Int) {n la : Nat} (hn : n < 32) (h1 : 1 ≤ n) (hla : la = lastM n) : Builtin.bitXor (X (keyN c) (n - 2 ^ la) : Nat) ((c.getD la 0).fmod 16) = ((X (keyN c) n : Nat) : Int) := by
  have e1 : (c.getD la 0).fmod 16 = (keyN c la : Int) := keyF_nat c la
  rw [e1, bitXor_nat _ (X_lt _ (keyN_lt c) _) _ (keyN_lt c la)]
  have h5 := (lastM_at n hn h1).2.1
  rw [hla, ← X_pow (keyN c) (lastM n) h5, ← X_xor, ← last_xor n hn h1]
theorem sums_now {vs : List Value} {c : List Int} {i : Nat} (h : IntsAre vs (sumsTo c (i + 1))) : ∀ v, (vs ++ [v])[(1 + (i : Int)).toNat]? = some v := fun v => by
  have e : (1 + (i : Int)).toNat = vs.length := by rw [IntsAre.length h]; simp [sumsTo]; omega
  rw [e]; simp
theorem bools_at {c : List Int} {i k : Nat} (hi : i < 31) (hk : 2 ^ k ≤ 1 + i) : (boolsTo c (i + 1))[(1 + (i : Int) - 2 ^ ((k : Int)).toNat).toNat]? = some (.bool (boundB (keyN c) (1 + i - 2 ^ k))) := by
  have e : (1 + (i : Int) - 2 ^ ((k : Int)).toNat).toNat = 1 + i - 2 ^ k := by
    rw [Int.toNat_natCast]
    have : ((2 ^ k : Nat) : Int) = 2 ^ k := by simp
    omega
  have hp : 0 < 2 ^ k := Nat.two_pow_pos k
  rw [e]
  have hlt : 1 + i - 2 ^ k < i + 1 := by omega
  simp [boolsTo, hlt]
theorem within_yes {c : List Int} {n j k : Nat} (h : (memb n)[j]? = some k) (hb : boundB (keyN c) (n - 2 ^ k) = true) : withinTo c n (j + 1) = withinTo c n j ++ [(k : Int)] := by
  unfold withinTo
  rw [List.take_add_one, h, List.filter_append]
  simp [hb]
theorem within_no {c : List Int} {n j k : Nat} (h : (memb n)[j]? = some k) (hb : boundB (keyN c) (n - 2 ^ k) = false) : withinTo c n (j + 1) = withinTo c n j := by
  unfold withinTo
  rw [List.take_add_one, h, List.filter_append]
  simp [hb]
theorem bound_zero {c : List Int} {n : Nat} (h1 : 1 ≤ n) (hn : n < 32) (h : X (keyN c) n = 0) : boundB (keyN c) n = true := by rw [bound_rec h1 hn, h]; rfl
theorem bound_within {c : List Int} {n : Nat} (h1 : 1 ≤ n) (hn : n < 32) (h : X (keyN c) n ≠ 0) : boundB (keyN c) n = !decide (withinTo c n (memb n).length = []) := by
  rw [bound_rec h1 hn, decide_eq_false h, Bool.false_or]
  unfold withinTo
  rw [List.take_length]
  induction memb n with
  | nil => rfl
  | cons k r ih =>
    by_cases hb : boundB (keyN c) (n - 2 ^ k) = true
    · simp [hb]
    · simp only [List.any_cons, Bool.eq_false_iff.mpr hb, Bool.false_or, List.filter_cons]
      simpa using ih
theorem bools_succ (c : List Int) (k : Nat) : boolsTo c (k + 1) = boolsTo c k ++ [.bool (boundB (keyN c) k)] := by simp [boolsTo, List.range_succ]
theorem sums_succ (c : List Int) (k : Nat) : sumsTo c (k + 1) = sumsTo c k ++ [(X (keyN c) k : Int)] := by simp [sumsTo, List.range_succ]
theorem bools_one (c : List Int) : boolsTo c (0 + 1) = [.bool false] := by
  have : boundB (keyN c) 0 = false := free_iff.mpr fun m _ h _ => by rw [← h]; exact Nat.and_zero m
  simp [boolsTo, this]
theorem sums_one (c : List Int) : sumsTo c (0 + 1) = [0] := by simp [sumsTo, X_zero]
theorem bound_end {c : List Int} {cA lS lB L' I : Addr} {cvs : List Value} {ck i nB nS : Nat} {news own nw1 : List (Addr × Obj)} {vs : List Value} {g' h7 : Heap} {s1 : Shared} (hltS : L' < lS) (hltB : L' < lB) (l1 : ∀ p ∈ news, p.1 < L') (n1 : lB ≠ I) (n2 : lS ≠ I) (n3 : L' + 1 + 1 ≠ I) (n4 : L' + 1 ≠ I) (n5 : cA ≠ I) (n6 : ∀ p ∈ news, p.1 ≠ I)
    (hown : ∀ p ∈ own, p.1 = I) (mn : ∀ p ∈ news, p ∈ nw1) (hIS : IntsAre vs (sumsTo c (i + 1))) {b : Bool} {tk7 : Nat} {m7 : Str → Option Value} {nwF : List (Addr × Obj)} {oB oC : Obj} {vC : Option Value} {tS : Tok} {R : Result → Shared → Prop} (hb : b = boundB (keyN c) (1 + i)) (F7 : Fr g' L' h7 m7) (N7 : News g' L' h7 nwF) (s2 : m7 (Str.ofString "sums") = some (.ref lS)) (s3 : m7 (Str.ofString "cells") = some (.ref cA))
    (x1 : (lB, W.listOf (boolsTo c (i + 1) ++ [Value.bool b]).toArray (nB + 1)) ∈ nwF) (x2 : (lS, W.listOf (vs ++ [Value.int (X (keyN c) (1 + i) : Nat) tS]).toArray (nS + 1)) ∈ nwF) (x3 : (L' + 1 + 1, oC) ∈ nwF) (x4 : oC.data = .cell vC) (x5 : (L' + 1, oB) ∈ nwF) (x6 : oB.data = .cell (some (.ref lB))) (x7 : (cA, W.listOf cvs.toArray ck) ∈ nwF)
    (x8 : ∀ p ∈ (own ++ nw1).filter (fun p => decide (p.1 ≠ lB ∧ p.1 ≠ lS ∧ p.1 ≠ L' + 1 ∧ p.1 ≠ L' + 1 + 1)), p ∈ nwF) :
    LEnd g' L' [I] own (BoundJ c cA lS lB (L' + 1) (L' + 1 + 1) cvs ck news (i + 1)) s1 R .next { s1 with heap := h7, toks := tk7 } := by
  have inr : ∀ p, p ∈ own ++ nw1 → p.1 ≠ lB → p.1 ≠ lS → p.1 ≠ L' + 1 → p.1 ≠ L' + 1 + 1 → p ∈ nwF := fun p hp a1 a2 a3 a4 =>
    x8 p (List.mem_filter.mpr ⟨hp, by simp only [decide_eq_true_eq]; exact ⟨a1, a2, a3, a4⟩⟩)
  refine LEnd.on F7 N7 (fun p hp => inr p (List.mem_append_left _ hp) ?_ ?_ ?_ ?_) fun nw' hs => ?_
  · rw [hown p hp]; exact n1.symm
  · rw [hown p hp]; exact n2.symm
  · rw [hown p hp]; exact n4.symm
  · rw [hown p hp]; exact n3.symm
  have hsI : ∀ p ∈ nwF, p.1 ≠ I → p ∈ nw' := fun p hp h => hs p hp fun q => h (List.mem_singleton.mp q)
  refine ⟨s2, s3, hsI _ x7 n5, fun p hp => ?_, ⟨oB, hsI _ x5 n4, x6⟩, ⟨oC, vC, hsI _ x3 n3, x4⟩, ⟨nB + 1, ?_⟩, ⟨_, nS + 1, hsI _ x2 n2, ?_⟩⟩
  · have hpL : p.1 < L' := l1 p hp
    refine hsI p (inr p (List.mem_append_right _ (mn p hp)) ?_ ?_ ?_ ?_) (n6 p hp)
    · exact Nat.ne_of_lt (Nat.lt_trans hpL hltB)
    · exact Nat.ne_of_lt (Nat.lt_trans hpL hltS)
    · exact Nat.ne_of_lt (Nat.lt_succ_of_lt hpL)
    · exact Nat.ne_of_lt (Nat.lt_succ_of_lt (Nat.lt_succ_of_lt hpL))
  · rw [bools_succ c (i + 1), ← Nat.add_comm 1 i, ← hb]
    rw [← Nat.add_comm 1 i] at x1
    exact hsI _ x1 n1
  · rw [sums_succ c (i + 1), ← Nat.add_comm 1 i]
    rw [← Nat.add_comm 1 i] at hIS
    exact intsAre_more hIS _ _
set_option maxRecDepth 100000 in
set_option maxHeartbeats 8000000 in
theorem bound_spec (w : World) (cA : Addr) (cvs : List Value) (c : List Int) (ck : Nat) (news : List (Addr × Obj)) (hc : (cA, W.listOf cvs.toArray ck) ∈ news) (hI : IntsAre cvs c) (hlen : c.length = 5) : CL w 162 [.ref cA] news 6 100 (fun h => True) (fun vs => vs = boolsTo c 32) := by
  k_with_none
  unfold CL; k_fill; w_on
  intro loose mean mg mb dp un gd cn cs a ccd cl outer A₀ base h₀ L m s Q E B F X N T hk hd hu hP hret
  replace N := news_dup N hc
  have hcells : ∀ k : Nat, k < 5 → ∃ t, cvs[((k : Int)).toNat]? = some (.int (c.getD k 0) t) := fun k hk => cells_at hI (by omega)
  (refine wpAny_call ?_; k_dflt (refine' code_defC ?k1 ?k2 ?k3 ?k4 ?k5 ?kA ?kF ?kK ?k6 ?k7 ?k8 ?k9 ?kB ?kD ?_ ?c2 ?c3 ?c4; (case kA | kF => exact rfl); (case kK => assumption); (case k1 | k2 | k3 | k4 | k5 => k_asm); (case k6 | k7 => k_is); (case k8 => ktr_room); (case k9 => exact BindsTo.of_eq rfl); (case kB => exact rfl); (case kD => decide +kernel); (case c2 | c3 | c4 => exact rfl); k_whole))
  intro g' L' h' tk' cells' FG' F' N' Y' B' X' T' l1
  have hoff2 : OwnOff news [L' + 1, L' + 1 + 1] := ownOff_lt (fun p hp => l1 p (.tail _ hp)) (by intro b hb; simp at hb; rcases hb with rfl | rfl; exact Nat.le_add_right _ _; exact Nat.le_add_right _ 2)
  have hcL : cA < L' := l1 _ (.head _)
  k_lt2 hcL
  k_cells Y'
  rename_i o1 o2 d1 d2
  have hd1 : o1.data = Data.cell none := d1
  have hd2 : o2.data = Data.cell none := d2
  clear d1 d2
  simp only [List.cons_append, List.nil_append] at N'
  ((try dsimp only); (try k_fold))
  obtain ⟨m0, hm0, F1⟩ : ∃ m0, m0 (Str.ofString "cells") = some (.ref cA) ∧ Fr g' L' h' m0 := ⟨_, rfl, F'⟩
  clear F'
  k_with "exec For Name Call cons nil" => (refine wpAny_For ?_ (by intro _; rfl))
  k_with "pyIter ref" => fail "stop"
  k_steps
  with_reducible rename News g' L' _ _ => N2
  with_reducible rename Fr g' L' _ _ => F2
  with_reducible rename IsRange _ _ _ _ _ _ _ _ => R2
  rename_i lS hh1 lts hh2 lB hh3 ltb hh4 oB FF5 NN5 dB ecl hh5 tk5 t5 u5 v5 kk5
  clear FF5 NN5
  refine for_range 31 rfl R2 (by decide) (by decide) F2 N2 (BoundJ c cA lS lB (L' + 1) (L' + 1 + 1) cvs ck news) ?j0 ?step ?hR (fun it s' q => q)
  case j0 =>
    intro nw hs
    refine ⟨rfl, hm0, hs _ (by k_mem), fun p hp => hs p (by simp only [List.mem_cons, hp, or_true]), ⟨_, hs _ (.tail _ (.tail _ (.tail _ (.head _)))), dB⟩, ⟨_, _, hs _ (.tail _ (.tail _ (.head _))), hd1⟩, ⟨0, hs _ (by rw [bools_one]; exact .head _)⟩, ⟨_, _, hs _ (.tail _ (.head _)), ?_⟩⟩
    · rw [sums_one]; exact .cons _ _ .nil
  case hR =>
    intro h9 tk9 m9 nw9 F9 N9 j9
    dsimp only
    obtain ⟨e1, e2, mc, mn, ⟨oB9, mB, dB9⟩, _, ⟨nB, mlB⟩, _⟩ := j9
    replace N9 := news_dup N9 mB
    k_with "eval Name" => (k_dflt (refine' nameX_C ?N ?c ?m ?d ?_ ?a ?b; (case a => rfl); (case b => rfl); (case N => exact N9); (case c => rfl); (case m => exact .head _); (case d => exact dB9); k_whole))
    k_steps
    exact hret lB _ nB _ _ (by assumption) (fun p hp => by
      rcases List.mem_cons.mp hp with rfl | hp
      · exact (show News h₀ L _ (_ :: nw9) by assumption) _ (.tail _ mlB)
      · exact (show News h₀ L _ (_ :: nw9) by assumption) _ (.tail _ (mn p hp))) (fun p hp => Nat.ne_of_lt (Nat.lt_trans (l1 p (.tail _ hp)) (Nat.lt_of_succ_lt ltb.2.2.1))) rfl
  case step =>
    intro I i t m1 nw1 h1 tk1 own hi hJ hoff hown hlt F3 N3
    obtain ⟨e1, e2, mc, mn, ⟨oB9, mB, dB9⟩, ⟨oC9, vC, mC, dC9⟩, ⟨nB, mlB⟩, ⟨vs, nS, mlS, hIS⟩⟩ := hJ
    obtain ⟨rest, hrest⟩ : ∃ rest, rest = (own ++ nw1).filter (fun p => decide (p.1 ≠ lB ∧ p.1 ≠ lS ∧ p.1 ≠ L' + 1 ∧ p.1 ≠ L' + 1 + 1)) := ⟨_, rfl⟩
    have hro : OwnOff rest [lB, lS, L' + 1, L' + 1 + 1] := by
      intro p hp b hb
      rw [hrest] at hp
      have := (List.mem_filter.mp hp).2
      simp only [decide_eq_true_eq] at this
      simp only [List.mem_cons, List.not_mem_nil, or_false] at hb
      rcases hb with rfl | rfl | rfl | rfl
      · exact this.1
      · exact this.2.1
      · exact this.2.2.1
      · exact this.2.2.2
    have hrm : ∀ p ∈ rest, p ∈ own ++ nw1 := fun p hp => by rw [hrest] at hp; exact (List.mem_filter.mp hp).1
    have N4 : News g' L' h1 ((lB, W.listOf (boolsTo c (i + 1)).toArray nB) :: (lS, W.listOf vs.toArray nS) :: (L' + 1 + 1, oC9) :: (L' + 1, oB9) :: (cA, W.listOf cvs.toArray ck) :: rest) := fun p hp => by
      rcases List.mem_cons.mp hp with rfl | hp
      · exact N3 _ (List.mem_append_right _ mlB)
      rcases List.mem_cons.mp hp with rfl | hp
      · exact N3 _ (List.mem_append_right _ mlS)
      rcases List.mem_cons.mp hp with rfl | hp
      · exact N3 _ (List.mem_append_right _ mC)
      rcases List.mem_cons.mp hp with rfl | hp
      · exact N3 _ (List.mem_append_right _ mB)
      rcases List.mem_cons.mp hp with rfl | hp
      · exact N3 _ (List.mem_append_right _ mc)
      · exact N3 p (hrm p hp)
    have hn1 : (0 : Int) ≤ 1 + (i : Int) := by omega
    have hn32 : 1 + (i : Int) < 32 := by omega
    obtain ⟨la, hlaD⟩ : ∃ la, la = lastM (1 + i) := ⟨_, rfl⟩
    obtain ⟨_, hla2, hla3, _⟩ := lastM_at (1 + i) (by omega) (by omega)
    rw [← hlaD] at hla2 hla3
    k_with "call ref" => (k_dflt (refine' CL.use (members_spec _ _ _ _ hn1 hn32) ?k1 ?k2 ?k3 ?k4 ?k5 ?kK ?kd ?ku ?kP ?_; ((case k1 | k2 | k3 | k4 | k5 => k_asm); (case kK => first | exact rfl | assumption); (case kd => ktr_room); (case ku => ktr_units)); (case kP => exact trivial)); intro l9 vs9 n9 h9 tk9 F9 N9 ne9 o9; (try dsimp only); (try k_fold); (obtain ⟨o9, tla, hla⟩ := members_last hi o9); (rw [← hlaD] at hla); (have hl9 : vs9.length = (memb (1 + i)).length := (IntsAre.length o9).trans (List.length_map ..)); (have nA9 : @Ne Nat lB l9 := ne9 _ (.head _)); (have nB9 : @Ne Nat lS l9 := ne9 _ (.tail _ (.head _))); (have nC9 : @Ne Nat cA l9 := ne9 _ (.tail _ (.tail _ (.tail _ (.tail _ (.head _)))))); (have nD9 : @Ne Nat (L' + 1) l9 := ne9 _ (.tail _ (.tail _ (.tail _ (.head _))))); (have nE9 : @Ne Nat (L' + 1 + 1) l9 := ne9 _ (.tail _ (.tail _ (.head _)))))
    obtain ⟨tS, hS⟩ := sums_at (c := c) (i := i) (la := la) hIS hla3
    obtain ⟨tc, hcl⟩ := hcells la hla2
    obtain ⟨b0, b1⟩ := idx_facts hi hla3
    have b2 : (0 : Int) ≤ (la : Int) := by omega
    have b3 : (la : Int) < 2 ^ 63 := by omega
    have hvl : vs.length ≤ 32 := by rw [IntsAre.length hIS]; simp [sumsTo]; omega
    have hbl : (boolsTo c (i + 1)).length ≤ 32 := by simp [boolsTo]; omega
    k_with "CompSrcT" => fail "x"
    k_with "exec Assign cons ListComp" => (k_dflt (refine LCt.Assign_ListComp_T (F₀ := by k_asm) (by rfl) (by with_unfolding_all rfl) (by with_unfolding_all rfl) (by decide) (by rfl) (by decide) (by rfl) (by rfl) (by rfl) ?_))
    k_with "call builtin:list.append" => (k_dflt (first | (show wpAny _ _ (call (Value.builtin "list.append") [Value.ref lS, _]) _ _ _) | (show wpAny _ _ (call (Value.builtin "list.append") [Value.ref lB, _]) _ _ _)); (refine' append_K ?F ?N ?U ?_ ?z; (case F => k_asm); (case N => k_asm); (case U => k_upd); (case z => (show _ ≤ sizeLine; rw [List.size_toArray, sizeLine_eq]; omega))); intro h7 F7 N7; (try dsimp only at N7); (simp only [List.push_toArray] at N7))
    k_with "subscriptTail Name BinOp ref int" => (k_dflt (refine item_N (by k_asm) (by k_mem) b0 b1 hS ?_); k_whole)
    k_with "subscriptTail Name Name ref int" => (k_dflt (refine item_N (by k_asm) (by k_mem) b2 b3 hcl ?_); k_whole)
    k_with "subscriptTail Name UnaryOp ref int" => (k_dflt (refine last_N (by k_asm) (by k_mem) hla ?_); k_whole)
    k_with "eval Name" => (k_dflt (refine' ld ?k1 ?k2 ?_; (case k1 => k_asm); (case k2 => first | exact rfl | exact e1 | exact e2); k_whole))
    clear N3
    k_steps
    rotate_right 1
    refine LCt.CompSrcT.ledger (by rfl) (by k_asm) (by k_asm) (by k_mem) (by rw [List.size_toArray, hl9, sizeLine_eq]; exact Nat.le_trans (memb_len _) (by decide)) ?_
    intro g10
    refine restT_inv (fun j ys => IntsAre ys (withinTo c (1 + i) j)) (.inr ⟨_, .head _, rfl, _, rfl⟩) ?turn ?fin _ 0 [] (Nat.zero_add _) .nil
    case fin =>
      intro ys hys
      rename Obj.data _ = Data.cell (some (Value.int _ _)) => hoC
      unfold LCg.FinA
      intro D8 h8 tk8 F8 N8 o8
      have o8' := off1_mem o8
      have pD1 : @Ne Nat l9 D8 := o8' _ (.head _)
      have pD2 : @Ne Nat lB D8 := o8' _ (.tail _ (.head _))
      have pD3 : @Ne Nat lS D8 := o8' _ (.tail _ (.tail _ (.head _)))
      rw [xor_last c (by omega) (by omega) hlaD] at N8
      have hn := sums_now (c := c) (i := i) hIS
      have n0 : (0 : Int) ≤ 1 + (i : Int) := by omega
      have n63 : 1 + (i : Int) < 2 ^ 63 := by omega
      k_with "subscriptTail Name Name ref int" => (k_dflt (refine item_N (by k_asm) (by k_mem) n0 n63 (hn _) ?_); k_whole)
      k_with "compareOp NotEq ref ref" => (k_dflt (refine ne_intsK (vs := ys) (us := []) (ns := withinTo c (1 + i) vs9.length) (ms := []) (kso_isList (by k_asm) (by k_mem) rfl) (by simpa using hys) (kso_isList (by k_asm) (by k_mem) rfl) .nil ?ku ?_; (case ku => units_room)))
      dsimp only
      k_steps
      all_goals try first | exact Str.ofString "" | exact (0 : Nat) | exact Value.none
      · rename_i hz
        have hz' : Mine.X (keyN c) (1 + i) = 0 := by simpa using hz
        refine bound_end (Nat.lt_of_succ_lt lts.2.1) (Nat.lt_of_succ_lt ltb.2.2.1) (fun p hp => l1 p (.tail _ hp)) (Nat.ne_of_lt (hlt _ (.head _))) (Nat.ne_of_lt (hlt _ (.tail _ (.head _)))) (Nat.ne_of_lt (hlt _ (.tail _ (.tail _ (.head _))))) (Nat.ne_of_lt (hlt _ (.tail _ (.tail _ (.tail _ (.head _)))))) (Nat.ne_of_lt (hlt _ (.tail _ (.tail _ (.tail _ (.tail _ (.head _))))))) (fun p hp => Nat.ne_of_lt (hlt p (by simp only [List.mem_cons, hp, or_true]))) hown mn hIS ?_ F7 N7 e1 e2 (.tail _ (.tail _ (.head _))) (.tail _ (.tail _ (.tail _ (.head _)))) (.tail _ (.tail _ (.tail _ (.tail _ (.head _))))) hoC (.tail _ (.tail _ (.tail _ (.tail _ (.tail _ (.head _)))))) dB9 (by k_mem) (fun p hp => by rw [← hrest] at hp; simp only [List.mem_cons, hp, or_true])
        rw [bound_zero (by omega) (by omega) hz', hz']
        rfl
      · rename (Mine.X (keyN c) (1 + i) : Int) ≠ 0 => hz
        have hz' : Mine.X (keyN c) (1 + i) ≠ 0 := by simpa using hz
        refine bound_end (Nat.lt_of_succ_lt lts.2.1) (Nat.lt_of_succ_lt ltb.2.2.1) (fun p hp => l1 p (.tail _ hp)) (Nat.ne_of_lt (hlt _ (.head _))) (Nat.ne_of_lt (hlt _ (.tail _ (.head _)))) (Nat.ne_of_lt (hlt _ (.tail _ (.tail _ (.head _))))) (Nat.ne_of_lt (hlt _ (.tail _ (.tail _ (.tail _ (.head _)))))) (Nat.ne_of_lt (hlt _ (.tail _ (.tail _ (.tail _ (.tail _ (.head _))))))) (fun p hp => Nat.ne_of_lt (hlt p (by simp only [List.mem_cons, hp, or_true]))) hown mn hIS ?_ F7 N7 e1 e2 (.tail _ (.tail _ (.tail _ (.head _)))) (.tail _ (.tail _ (.tail _ (.tail _ (.head _))))) (.tail _ (.tail _ (.tail _ (.tail _ (.tail _ (.head _)))))) hoC (.tail _ (.tail _ (.tail _ (.tail _ (.tail _ (.tail _ (.head _))))))) dB9 (by k_mem) (fun p hp => by rw [← hrest] at hp; simp only [List.mem_cons, hp, or_true])
        rw [List.size_toArray, hl9, bound_within (by omega) (by omega) hz']
    case turn =>
      intro j ys v I oI C oC D m₂ h tk E' hj hJ hP hC hx F N off
      obtain ⟨kk, tkk, hkk, rfl⟩ := memb_item o9 hP
      obtain ⟨hk5, hkn⟩ := memb_facts (1 + i) (by omega) kk (List.mem_of_getElem? hkk)
      obtain ⟨k0, k63⟩ := idx_facts hi hkn
      have hbk := bools_at (c := c) hi hkn
      k_with "subscriptTail Name BinOp ref int" => (k_dflt (refine item_N (by k_asm) (by k_mem) k0 k63 hbk ?_); k_whole)
      k_steps
      · exact TOut.intro F N (by rw [within_yes hkk (by assumption)]; exact intsAre_more hJ _ _)
      · exact TOut.intro F N (by rw [within_no hkk (by assumption)]; exact hJ)
    all_goals first | exact Str.ofString "" | exact (0 : Nat) | exact Value.none
-- the words of k_with go ahead of the library's rules
local macro_rules | `(tactic| walk_at $s:str) => `(tactic| k_extra $s)
-- Rule
/-- the rule of thing k: an object that reaches as reachF says, and says k's letter -/
noncomputable def RuleAt (w : World) (c : List Int) (news : List (Addr × Obj)) (k : Nat) (x : Addr) : Prop :=
  ∃ d f l1 l2 t1 t2 t3 t4 t5 t6 tl oF fd, (x, instObj 52 d) ∈ news ∧
    (d, dictOf [⟨PyData.keyHash w.params (Str.ofString "useragents"), .str (Str.ofString "useragents") t1, .ref l1⟩, ⟨PyData.keyHash w.params (Str.ofString "rulelines"), .str (Str.ofString "rulelines") t2, .ref l2⟩, ⟨PyData.keyHash w.params (Str.ofString "delay"), .str (Str.ofString "delay") t3, .none⟩, ⟨PyData.keyHash w.params (Str.ofString "req_rate"), .str (Str.ofString "req_rate") t4, .none⟩, ⟨PyData.keyHash w.params (Str.ofString "applies_to"), .str (Str.ofString "applies_to") t5, .ref f⟩, ⟨PyData.keyHash w.params (Str.ofString "allowance"), .str (Str.ofString "allowance") t6, .str (nameStr [k]) tl⟩] 6) ∈ news ∧ (f, oF) ∈ news ∧ oF.data = .func fd ∧
    ∀ nw, (∀ p ∈ news, p ∈ nw) → ∀ is tn, (∀ i ∈ is, i < 5) → is.length ≤ 5 → CS w f [.str (nameStr is) tn] nw 5 48 (fun r => ∃ t, r = .int (reachF c k is) t)
/-- none of these is an empty list -/
noncomputable def NoNil (core : List (Addr × Obj)) : Prop := ∀ p ∈ core, ∀ n, p.2 ≠ W.listOf #[] n
noncomputable def RuleIn (w : World) (c : List Int) (news : List (Addr × Obj)) (k : Nat) (x : Addr) : Prop := ∃ core, (∀ p ∈ core, p ∈ news) ∧ NoNil core ∧ RuleAt w c core k x
theorem noNil_data {o : Obj} (h : ∀ xs n, o.data ≠ .seq xs n) : ∀ n, o ≠ W.listOf #[] n := fun n e => h #[] n (by rw [e])
theorem noNil_list {vs : List Value} {m : Nat} (h : 0 < vs.length) : ∀ n, W.listOf vs.toArray m ≠ W.listOf #[] n := fun n e => by
  have e2 : Data.seq vs.toArray m = Data.seq #[] n := congrArg Obj.data e
  injection e2 with e3 _
  have e4 := congrArg Array.size e3
  rw [List.size_toArray] at e4
  exact absurd h (by rw [e4]; exact Nat.lt_irrefl 0)
/-- the table of _law_rule's code holds the lambda's code -/
noncomputable def LamTab (news : List (Addr × Obj)) : Prop :=
  ∃ c' oc vs t, (135, tabObj #[rawInt 102, rawInt 22, .ref c']) ∈ news ∧ (c', oc) ∈ news ∧ oc.data = .fields vs ∧ vs[1]? = some (.str ((Str.ofString "_law_rule" ++ ".<locals>.") ++ Str.ofString "<lambda>") t)
abbrev RuleCS (w : World) (c : List Int) (cA : Addr) (k : Nat) (t : Tok) (news rest seed : List (Addr × Obj)) : Prop :=
  ∀ (loose : List Str) (mean : ExcName → Option Value) (mg mb : Str → Option Value) (dp un : Nat) (gd : Option (List Code)) (cn : Str) (cs : Scope) (a : Addr) (ccd : Value) (cl : List (Str × Addr)) (outer : List Env) (A₀ : Around) (base h₀ : Heap) (L : Addr) (m : Str → Option Value) (s : Shared) (Q E : Value → Shared → Prop),
    Below A₀ base outer h₀ → Fr h₀ L s.heap m → (hd.heap_39 w.params).In h₀ → News h₀ L s.heap news → Top topProg loose mean mg mb h₀ → cs.kind = .function → dp + 8 < recursionLimit → un + 40 < cLine → CodeHd base 139 135 →
    (∀ x h' tk' nw core, Fr h₀ L h' m → News h₀ L h' nw → (∀ p ∈ rest, p ∈ nw) → (∀ p ∈ core, p ∈ nw ∧ (p.1 = 135 ∨ p ∈ seed ∨ ∀ q ∈ rest, q.1 < p.1)) → NoNil core → LamTab core → RuleAt w c core k x → Q (.ref x) { s with heap := h', toks := tk' }) →
    wpAny (model (PySem.Challenge.rw_rl0026_01.row.prog) w) (ktrTop dp un gd cn cs L a ccd cl outer) (call (.ref 140) [.ref cA, .int k t]) Q E s

theorem news_head {h₀ h : Heap} {L a : Addr} {o : Obj} {l : List (Addr × Obj)} (_N : News h₀ L h ((a, o) :: l)) : ∃ o', o' = o := ⟨o, rfl⟩
theorem ownOff_app {news : List (Addr × Obj)} {a b : List Addr} (h1 : OwnOff news a) (h2 : OwnOff news b) : OwnOff news (a ++ b) := fun p hp x hx => (List.mem_append.mp hx).elim (h1 p hp x) (h2 p hp x)

set_option maxRecDepth 100000 in
set_option maxHeartbeats 8000000 in
theorem rule_first (w : World) (cA : Addr) (cvs : List Value) (c : List Int) (cn : Nat) (rest seed : List (Addr × Obj)) (hsd : ∀ p ∈ seed, p ∈ rest) (hcs : (cA, W.listOf cvs.toArray cn) ∈ seed) (hI : IntsAre cvs c) (hlen : c.length = 5) (hoff : OwnOff rest [135]) (t : Tok) : RuleCS w c cA 0 t ((135, tabObj #[]) :: rest) rest seed := by
  k_with_none
  unfold RuleCS; k_fill; w_on
  intro loose mean mg mb dp un gd cn' cs a ccd cl outer A₀ base h₀ L m s Q E B F X N T hk hd hu codeHd hret
  have hc := hsd _ hcs
  refine wpAny_call ?_
  k_dflt (refine' code_defC ?k1 ?k2 ?k3 ?k4 ?k5 ?kA ?kF ?kK ?k6 ?k7 ?k8 ?k9 ?kB ?kD ?_ ?c2 ?c3 ?c4; (case kA => exact rfl); (case kF => exact rfl); (case kK => assumption); (case k1 => k_asm); (case k2 => k_asm); (case k3 => k_asm); (case k4 => k_asm); (case k5 => k_asm); (case k6 => k_is); (case k7 => k_is); (case k8 => ktr_room); (case k9 => exact BindsTo.of_eq rfl); (case kB => exact rfl); (case kD => decide +kernel); (case c2 => exact rfl); (case c3 => exact rfl); (case c4 => exact rfl); k_whole)
  intro g' L' h' tk' cells' FG' F' N' Y' B' X' T' l1
  have hLr : ∀ p ∈ rest, p.1 < L' := fun p hp => l1 p (.tail _ hp)
  have hL135 : 135 < L' := l1 _ (.head _)
  k_cells Y'
  rename_i oK oC dK dC
  simp only [List.cons_append, List.nil_append] at N'
  dsimp only
  (try k_fold)
  have hoff2 : OwnOff rest [L' + 1, L' + 1 + 1] := ownOff_lt hLr (by intro b hb; simp at hb; rcases hb with rfl | rfl; exact Nat.le_add_right _ _; exact Nat.le_add_right _ 2)
  k_with "call ref" => (k_dflt (refine' EntryCS.use (entry_spec _ _) ?k1 ?k2 ?k3 ?k4 ?k5 ?kK ?kd ?ku ?_; ((case k1 | k2 | k3 | k4 | k5 => k_asm); (case kK => first | exact rfl | assumption); (case kd => ktr_room); (case ku => ktr_units))); intro x9 d9 l91 l92 t91 t92 t93 t94 h9 tk9 F9 N9 lt9 dx9 xl9 ll9; (try dsimp only); (try k_fold))
  k_steps
  have hod : OwnOff rest [d9, x9, l91, l92] := ownOff_lt (d := d9) (fun p hp => lt9 p (.tail _ (.tail _ (.tail _ hp)))) (by intro b hb; simp at hb; rcases hb with rfl | rfl | rfl | rfl; exact Nat.le_refl _; exact Nat.le_of_lt dx9; exact Nat.le_of_lt (Nat.lt_trans dx9 xl9); exact Nat.le_of_lt (Nat.lt_trans dx9 (Nat.lt_trans xl9 ll9)))
  have hall := ownOff_app hod (ownOff_app hoff2 hoff)
  simp only [List.cons_append, List.nil_append] at hall
  clear hod hoff2 hoff
  have e1 : L' + 1 < d9 := lt9 _ (.tail _ (.head _))
  have e2 : L' + 1 + 1 < d9 := lt9 _ (.head _)
  k_lt2 e1
  k_lt2 e2
  k_lt2 dx9
  k_lt2 xl9
  k_lt2 ll9
  k_lt2 hL135
  k_dflt (refine' kla_eval ?d0 ?_; (case d0 => exact rfl))
  k_dflt (refine' kla_nest ?F ?N ?T ?C ?cd ?U ?t ?n ?cl ?_; (case F => k_asm); (case N => k_asm); (case T => k_asm); (case cd => exact rfl); (case C => kn_code); (case U => k_updF); (case t => kn_triples); (case n => kn_among); (case cl => exact rfl); k_whole)
  intro f8 c8 oc8 vs8 t8 ct8 h8 tk8 F8 N8 d81 d82 l8 l8'
  have hdK : oK.data = Data.cell (some (.int (0 : Nat) t)) := dK
  have hdC : oC.data = Data.cell (some (.ref cA)) := dC
  obtain ⟨oF, hoF⟩ := news_head N8
  have hlam : ∀ nw, (f8, oF) ∈ nw → (c8, oc8) ∈ nw → (L' + 1 + 1, oK) ∈ nw → (L' + 1, oC) ∈ nw → (cA, W.listOf cvs.toArray cn) ∈ nw → ∀ is tn, (∀ i ∈ is, i < 5) → is.length ≤ 5 → CS w f8 [.str (nameStr is) tn] nw 5 48 (fun r => ∃ t, r = .int (reachF c 0 is) t) := by
    subst hoF
    clear N8 F8 l8 l8' hret hall lt9 hLr
    intro nw m1 m2 m3 m4 m5 is tn his hil
    unfold CS
    intro loose mean mg mb dp un gd cn' cs a ccd cl outer A₀ base h₀ L m s Q E B F X N T hk hd hu hret
    refine wpAny_call ?_
    k_dflt (refine' kla_code ?k1 ?k2 ?k3 ?k4 ?k5 ?kA ?kF ?kK ?k6 ?k7 ?k8 ?k9 ?kB ?_ ?c2 ?c3 ?c4 ?c5; (case kA => exact rfl); (case kF => exact rfl); (case kK => assumption); (case k1 => k_asm); (case k2 => k_asm); (case k3 => k_asm); (case k4 => k_asm); (case k5 => k_asm); (case k6 => exact m1); (case k7 => exact codeRec_news N m2 d81 d82); (case k8 => ktr_room); (case k9 => exact rfl); (case c5 => decide); (case kB => exact locs rfl); (case c2 => exact rfl); (case c3 => exact rfl); (case c4 => exact rfl); k_whole)
    intro g2 L2 h2 FG2 F2 N2 B2 X2 T2
    ((try dsimp only); (try k_fold))
    k_with "call ref" => (k_dflt (refine' CS.use (reach_spec _ _ cA cvs c cn ?hl hI hlen 0 (by omega) is his hil _ _) ?k1 ?k2 ?k3 ?k4 ?k5 ?kK ?kd ?ku ?_; ((case k1 | k2 | k3 | k4 | k5 => k_asm); (case kK => first | exact rfl | assumption); (case kd => ktr_room); (case ku => ktr_units)); (case hl => k_mem); (intro _ _ _ _ _ qo9; (try (obtain ⟨_, qe9⟩ := qo9; subst qe9)); (try (subst qo9)); (try dsimp only); (try k_fold))))
    k_steps
    exact hret _ _ _ (by assumption) (by assumption) ⟨_, rfl⟩
  have hFn : ∀ n, oF ≠ W.listOf #[] n := noNil_data (by rw [hoF]; intro xs n e; cases e)
  have hFd : ∃ fd, oF.data = .func fd := by rw [hoF]; exact ⟨_, rfl⟩
  obtain ⟨fdF, hFd⟩ := hFd
  rw [← hoF] at N8
  clear hoF
  have l8s := l8
  have l8s' := l8'
  k_lt l8
  k_lt2 l8'
  k_steps
  with_reducible rename News h₀ _ _ _ => NF
  refine hret x9 _ _ _ [(f8, oF), (c8, oc8), (L' + 1 + 1, oK), (L' + 1, oC), (cA, W.listOf cvs.toArray cn), (x9, instObj 52 d9), (d9, dictOf [⟨PyData.keyHash w.params (Str.ofString "useragents"), .str (Str.ofString "useragents") t91, .ref l91⟩, ⟨PyData.keyHash w.params (Str.ofString "rulelines"), .str (Str.ofString "rulelines") t92, .ref l92⟩, ⟨PyData.keyHash w.params (Str.ofString "delay"), .str (Str.ofString "delay") t93, .none⟩, ⟨PyData.keyHash w.params (Str.ofString "req_rate"), .str (Str.ofString "req_rate") t94, .none⟩, ⟨PyData.keyHash w.params (Str.ofString "applies_to"), .str (Str.ofString "applies_to") _, .ref f8⟩, ⟨PyData.keyHash w.params (Str.ofString "allowance"), .str (Str.ofString "allowance") _, .str _ _⟩] 6), (135, tabObj #[rawInt 102, rawInt 22, .ref c8])] (by assumption) NF (fun p hp => by simp only [List.mem_cons, hp, or_true]) (List.forall_mem_cons.mpr ⟨⟨by k_mem, .inr (.inr (fun q hq => Nat.lt_trans (l8s q (.tail _ (.tail _ (.tail _ (.tail _ (.tail _ (.tail _ (.tail _ hq)))))))) l8s'))⟩, List.forall_mem_cons.mpr ⟨⟨by k_mem, .inr (.inr (fun q hq => l8s q (.tail _ (.tail _ (.tail _ (.tail _ (.tail _ (.tail _ (.tail _ hq)))))))))⟩, List.forall_mem_cons.mpr ⟨⟨by k_mem, .inr (.inr (fun q hq => Nat.lt_succ_of_lt (Nat.lt_succ_of_lt (hLr q hq))))⟩, List.forall_mem_cons.mpr ⟨⟨by k_mem, .inr (.inr (fun q hq => Nat.lt_succ_of_lt (hLr q hq)))⟩, List.forall_mem_cons.mpr ⟨⟨by simp only [List.mem_cons, hc, or_true], .inr (.inl hcs)⟩, List.forall_mem_cons.mpr ⟨⟨by k_mem, .inr (.inr (fun q hq => Nat.lt_trans (lt9 q (.tail _ (.tail _ (.tail _ hq)))) dx9))⟩, List.forall_mem_cons.mpr ⟨⟨by k_mem, .inr (.inr (fun q hq => lt9 q (.tail _ (.tail _ (.tail _ hq)))))⟩, List.forall_mem_cons.mpr ⟨⟨by k_mem, .inl rfl⟩, List.forall_mem_nil _⟩⟩⟩⟩⟩⟩⟩⟩) (List.forall_mem_cons.mpr ⟨hFn, List.forall_mem_cons.mpr ⟨noNil_data (by rw [d81]; intro xs n e; cases e), List.forall_mem_cons.mpr ⟨noNil_data (by rw [hdK]; intro xs n e; cases e), List.forall_mem_cons.mpr ⟨noNil_data (by rw [hdC]; intro xs n e; cases e), List.forall_mem_cons.mpr ⟨noNil_list (by rw [IntsAre.length hI]; omega), List.forall_mem_cons.mpr ⟨noNil_data (by intro xs n e; cases e), List.forall_mem_cons.mpr ⟨noNil_data (by intro xs n e; cases e), List.forall_mem_cons.mpr ⟨noNil_data (by intro xs n e; cases e), List.forall_mem_nil _⟩⟩⟩⟩⟩⟩⟩⟩) ⟨c8, oc8, vs8, t8, by k_mem, by k_mem, d81, d82⟩ ⟨d9, f8, l91, l92, t91, t92, t93, t94, _, _, _, oF, fdF, by k_mem, by k_mem, by k_mem, hFd, ?_⟩
  intro nw hsub is tn his hil
  exact hlam nw (hsub _ (by k_mem)) (hsub _ (by k_mem)) (hsub _ (by k_mem)) (hsub _ (by k_mem)) (hsub _ (by k_mem)) is tn his hil
-- RuleN
theorem abc_item : ∀ k : Nat, k < 5 → Txt.item (Str.ofString "abcde") (k : Int) = nameStr [k] := by decide +kernel
theorem abc_len : (Str.ofString "abcde").length = 5 := by decide +kernel
section
set_option maxRecDepth 100000 in
set_option maxHeartbeats 8000000 in
theorem rule_next (w : World) (cA : Addr) (cvs : List Value) (c : List Int) (cn : Nat) (rest seed : List (Addr × Obj)) (hsd : ∀ p ∈ seed, p ∈ rest) (hcs : (cA, W.listOf cvs.toArray cn) ∈ seed) (hI : IntsAre cvs c) (hlen : c.length = 5) (hlt : LamTab seed) (k : Nat) (hk5 : k < 5) (t : Tok) : RuleCS w c cA k t rest rest seed := by
  k_with_none
  unfold RuleCS; k_fill; w_on
  k_with "subscriptTail" => ((with_reducible show wpAny _ _ (subscriptTail _ _ (Value.str _ _) (Value.int _ _)) _ _ _); k_extra "abc")
  intro loose mean mg mb dp un gd cn' cs a ccd cl outer A₀ base h₀ L m s Q E B F X N T hk hd hu codeHd hret
  have hc := hsd _ hcs
  k_with "abc" => (k_dflt (refine KXi.item (n := 5) abc_len (by omega) (by omega) (by decide) ?_); intro _; rw [abc_item k hk5])
  refine wpAny_call ?_
  k_dflt (refine' code_defC ?k1 ?k2 ?k3 ?k4 ?k5 ?kA ?kF ?kK ?k6 ?k7 ?k8 ?k9 ?kB ?kD ?_ ?c2 ?c3 ?c4; (case kA => exact rfl); (case kF => exact rfl); (case kK => assumption); (case k1 => k_asm); (case k2 => k_asm); (case k3 => k_asm); (case k4 => k_asm); (case k5 => k_asm); (case k6 => k_is); (case k7 => k_is); (case k8 => ktr_room); (case k9 => exact BindsTo.of_eq rfl); (case kB => exact rfl); (case kD => decide +kernel); (case c2 => exact rfl); (case c3 => exact rfl); (case c4 => exact rfl); k_whole)
  intro g' L' h' tk' cells' FG' F' N' Y' B' X' T' l1
  have hLr : ∀ p ∈ rest, p.1 < L' := l1
  obtain ⟨c8, oc8, vs8, t8, m135s, mc8s, d81, d82⟩ := hlt
  have m135 := hsd _ m135s
  have mc8 := hsd _ mc8s
  k_cells Y'
  rename_i oK oC dK dC
  simp only [List.cons_append, List.nil_append] at N'
  dsimp only
  (try k_fold)
  have hoff2 : OwnOff rest [L' + 1, L' + 1 + 1] := ownOff_lt hLr (by intro b hb; simp at hb; rcases hb with rfl | rfl; exact Nat.le_add_right _ _; exact Nat.le_add_right _ 2)
  k_with "call ref" => (k_dflt (refine' EntryCS.use (entry_spec _ _) ?k1 ?k2 ?k3 ?k4 ?k5 ?kK ?kd ?ku ?_; ((case k1 | k2 | k3 | k4 | k5 => k_asm); (case kK => first | exact rfl | assumption); (case kd => ktr_room); (case ku => ktr_units))); intro x9 d9 l91 l92 t91 t92 t93 t94 h9 tk9 F9 N9 lt9 dx9 xl9 ll9; (try dsimp only); (try k_fold))
  k_steps
  have hod : OwnOff rest [d9, x9, l91, l92] := ownOff_lt (d := d9) (fun p hp => lt9 p (.tail _ (.tail _ hp))) (by intro b hb; simp at hb; rcases hb with rfl | rfl | rfl | rfl; exact Nat.le_refl _; exact Nat.le_of_lt dx9; exact Nat.le_of_lt (Nat.lt_trans dx9 xl9); exact Nat.le_of_lt (Nat.lt_trans dx9 (Nat.lt_trans xl9 ll9)))
  have hall := ownOff_app hod hoff2
  simp only [List.cons_append, List.nil_append] at hall
  clear hod hoff2
  have e1 : L' + 1 < d9 := lt9 _ (.tail _ (.head _))
  have e2 : L' + 1 + 1 < d9 := lt9 _ (.head _)
  k_lt2 e1
  k_lt2 e2
  k_lt2 dx9
  k_lt2 xl9
  k_lt2 ll9
  k_dflt (refine' kla_eval ?d0 ?_; (case d0 => exact rfl))
  k_dflt (refine' kla_hit ?F ?N ?T ?C ?cd ?mem ?t ?n ?cl ?_; (case F => k_asm); (case N => k_asm); (case T => k_asm); (case cd => exact rfl); (case C => kn_code); (case mem => exact .tail _ (.tail _ (.tail _ (.tail _ (.tail _ (.tail _ m135)))))); (case t => kn_triples); (case n => kn_hit); (case cl => exact rfl); k_whole)
  intro f8 ct8 h8 tk8 F8 N8 l8
  have hdK : oK.data = Data.cell (some (.int (k : Nat) t)) := dK
  have hdC : oC.data = Data.cell (some (.ref cA)) := dC
  obtain ⟨oF, hoF⟩ := news_head N8
  have hlam : ∀ nw, (f8, oF) ∈ nw → (c8, oc8) ∈ nw → (L' + 1 + 1, oK) ∈ nw → (L' + 1, oC) ∈ nw → (cA, W.listOf cvs.toArray cn) ∈ nw → ∀ is tn, (∀ i ∈ is, i < 5) → is.length ≤ 5 → CS w f8 [.str (nameStr is) tn] nw 5 48 (fun r => ∃ t, r = .int (reachF c k is) t) := by
    subst hoF
    clear N8 F8 l8 hret hall lt9 hLr
    intro nw m1 m2 m3 m4 m5 is tn his hil
    unfold CS
    intro loose mean mg mb dp un gd cn' cs a ccd cl outer A₀ base h₀ L m s Q E B F X N T hk hd hu hret
    refine wpAny_call ?_
    k_dflt (refine' kla_code ?k1 ?k2 ?k3 ?k4 ?k5 ?kA ?kF ?kK ?k6 ?k7 ?k8 ?k9 ?kB ?_ ?c2 ?c3 ?c4 ?c5; (case kA => exact rfl); (case kF => exact rfl); (case kK => assumption); (case k1 => k_asm); (case k2 => k_asm); (case k3 => k_asm); (case k4 => k_asm); (case k5 => k_asm); (case k6 => exact m1); (case k7 => exact codeRec_news N m2 d81 d82); (case k8 => ktr_room); (case k9 => exact rfl); (case c5 => decide); (case kB => exact locs rfl); (case c2 => exact rfl); (case c3 => exact rfl); (case c4 => exact rfl); k_whole)
    intro g2 L2 h2 FG2 F2 N2 B2 X2 T2
    ((try dsimp only); (try k_fold))
    k_with "call ref" => (k_dflt (refine' CS.use (reach_spec _ _ cA cvs c cn ?hl hI hlen k hk5 is his hil _ _) ?k1 ?k2 ?k3 ?k4 ?k5 ?kK ?kd ?ku ?_; ((case k1 | k2 | k3 | k4 | k5 => k_asm); (case kK => first | exact rfl | assumption); (case kd => ktr_room); (case ku => ktr_units)); (case hl => k_mem); (intro _ _ _ _ _ qo9; (try (obtain ⟨_, qe9⟩ := qo9; subst qe9)); (try (subst qo9)); (try dsimp only); (try k_fold))))
    k_steps
    exact hret _ _ _ (by assumption) (by assumption) ⟨_, rfl⟩
  have hFn : ∀ n, oF ≠ W.listOf #[] n := noNil_data (by rw [hoF]; intro xs n e; cases e)
  have hFd : ∃ fd, oF.data = .func fd := by rw [hoF]; exact ⟨_, rfl⟩
  obtain ⟨fdF, hFd⟩ := hFd
  rw [← hoF] at N8
  clear hoF
  have l8s := l8
  k_lt l8
  k_steps
  with_reducible rename News h₀ _ _ _ => NF
  refine hret x9 _ _ _ [(f8, oF), (c8, oc8), (L' + 1 + 1, oK), (L' + 1, oC), (cA, W.listOf cvs.toArray cn), (x9, instObj 52 d9), (d9, dictOf [⟨PyData.keyHash w.params (Str.ofString "useragents"), .str (Str.ofString "useragents") t91, .ref l91⟩, ⟨PyData.keyHash w.params (Str.ofString "rulelines"), .str (Str.ofString "rulelines") t92, .ref l92⟩, ⟨PyData.keyHash w.params (Str.ofString "delay"), .str (Str.ofString "delay") t93, .none⟩, ⟨PyData.keyHash w.params (Str.ofString "req_rate"), .str (Str.ofString "req_rate") t94, .none⟩, ⟨PyData.keyHash w.params (Str.ofString "applies_to"), .str (Str.ofString "applies_to") _, .ref f8⟩, ⟨PyData.keyHash w.params (Str.ofString "allowance"), .str (Str.ofString "allowance") _, .str _ _⟩] 6), (135, tabObj #[rawInt 102, rawInt 22, .ref c8])] (by assumption) NF (fun p hp => by simp only [List.mem_cons, hp, or_true]) (List.forall_mem_cons.mpr ⟨⟨by k_mem, .inr (.inr (fun q hq => l8s q (.tail _ (.tail _ (.tail _ (.tail _ (.tail _ (.tail _ hq))))))))⟩, List.forall_mem_cons.mpr ⟨⟨by simp only [List.mem_cons, mc8, or_true], .inr (.inl mc8s)⟩, List.forall_mem_cons.mpr ⟨⟨by k_mem, .inr (.inr (fun q hq => Nat.lt_succ_of_lt (Nat.lt_succ_of_lt (hLr q hq))))⟩, List.forall_mem_cons.mpr ⟨⟨by k_mem, .inr (.inr (fun q hq => Nat.lt_succ_of_lt (hLr q hq)))⟩, List.forall_mem_cons.mpr ⟨⟨by simp only [List.mem_cons, hc, or_true], .inr (.inl hcs)⟩, List.forall_mem_cons.mpr ⟨⟨by k_mem, .inr (.inr (fun q hq => Nat.lt_trans (lt9 q (.tail _ (.tail _ hq))) dx9))⟩, List.forall_mem_cons.mpr ⟨⟨by k_mem, .inr (.inr (fun q hq => lt9 q (.tail _ (.tail _ hq))))⟩, List.forall_mem_cons.mpr ⟨⟨by simp only [List.mem_cons, m135, or_true], .inl rfl⟩, List.forall_mem_nil _⟩⟩⟩⟩⟩⟩⟩⟩) (List.forall_mem_cons.mpr ⟨hFn, List.forall_mem_cons.mpr ⟨noNil_data (by rw [d81]; intro xs n e; cases e), List.forall_mem_cons.mpr ⟨noNil_data (by rw [hdK]; intro xs n e; cases e), List.forall_mem_cons.mpr ⟨noNil_data (by rw [hdC]; intro xs n e; cases e), List.forall_mem_cons.mpr ⟨noNil_list (by rw [IntsAre.length hI]; omega), List.forall_mem_cons.mpr ⟨noNil_data (by intro xs n e; cases e), List.forall_mem_cons.mpr ⟨noNil_data (by intro xs n e; cases e), List.forall_mem_cons.mpr ⟨noNil_data (by intro xs n e; cases e), List.forall_mem_nil _⟩⟩⟩⟩⟩⟩⟩⟩) ⟨c8, oc8, vs8, t8, by k_mem, by k_mem, d81, d82⟩ ⟨d9, f8, l91, l92, t91, t92, t93, t94, _, _, _, oF, fdF, by k_mem, by k_mem, by k_mem, hFd, ?_⟩
  intro nw hsub is tn his hil
  exact hlam nw (hsub _ (by k_mem)) (hsub _ (by k_mem)) (hsub _ (by k_mem)) (hsub _ (by k_mem)) (hsub _ (by k_mem)) is tn his hil
end
-- Cont
open Builtin in
section
set_option maxRecDepth 100000
set_option maxHeartbeats 1000000
variable {prog : Program} {w : World} {A : Around} {E : Value → Shared → Prop} {h : Heap} {g : Array GenState} {d : Drawn} {t : Nat} {os : OsState} {S : Addr} {es : Array (Int × Value)} {ep : Nat} {tb : SetTable}
theorem sc_lk : typeLookup (.type "set") "__contains__" = pure (some (.builtin "set.__contains__")) := by rw [typeLookup_type, builtinLookup_eq_fast]; kernel_rfl
theorem sc_ty : typeOf (.builtin "set.__contains__") = pure (.type "method_descriptor") := by kernel_rfl
theorem sc_get : typeLookup (.type "method_descriptor") "__get__" = pure (some (.builtin "method_descriptor.__get__")) := by rw [typeLookup_type, builtinLookup_eq_fast]; kernel_rfl
theorem sc_set : typeLookup (.type "method_descriptor") "__set__" = pure none := by rw [typeLookup_type, builtinLookup_eq_fast]; kernel_rfl
theorem sc_del : typeLookup (.type "method_descriptor") "__delete__" = pure none := by rw [typeLookup_type, builtinLookup_eq_fast]; kernel_rfl
theorem sc_slotGet : Slot "method_descriptor" "__get__" "method_descriptor.__get__" :=
  .of (owner := "method_descriptor") (n := "__get__") (by rw [typeLookup_type, builtinLookup_eq_fast]; kernel_rfl) (by decide +kernel) (by decide +kernel) (by decide +kernel)
    (by first | exact .inl (by decide +kernel) | exact .inr (by decide +kernel)) (by rw [isSubtype_type]; kernel_rfl)
theorem sc_entryGet : entryFor table "method_descriptor.__get__" = some Builtin.«method_descriptor.__get__» := entryFor_of_tree (by kernel_rfl)
theorem sc_argsGet (a b c : Value) : argsOk "method_descriptor.__get__" ⟨[a, b, c], []⟩ := by unfold argsOk; kernel_rfl
theorem sc_told : Manifest.toldItsClass.contains "set.__contains__" = false := by decide +kernel
theorem sc_owner : (".".intercalate ("set.__contains__".cutAt '.').dropLast) = "set" := by
  have e0 : "set.__contains__".cutAt '.' = ["set", "__contains__"] := by first | rfl | decide +kernel
  rw [e0]; decide +kernel
theorem sc_sub : isSubtype (.type "set") (.type (".".intercalate ("set.__contains__".cutAt '.').dropLast)) = pure true := by
  rw [sc_owner, isSubtype_type]; kernel_rfl
theorem sc_bind {R : Result → Shared → Prop} (ho : h.get? S = some { cls := .type "set", dict := none, data := .set es ep tb, slots := #[] }) (hq : ∀ o, o.isFreed = false → R (.ok (.ret (.ref h.objs.size))) ⟨h.push o, g, d, t, os⟩) :
    codeAny (model prog w) A (.call (.builtin "method_descriptor.__get__") ⟨[.builtin "set.__contains__", .ref S, .type "set"], []⟩) R ⟨h, g, d, t, os⟩ := by
  have hT : (⟨h, g, d, t, os⟩ : Shared).TypeIs (.ref S) "set" := ⟨_, ho, rfl⟩
  have hT5 : (⟨h, g, d, t, os⟩ : Shared).TypeIs (.builtin "set.__contains__") "method_descriptor" := sc_ty
  have f8 := sc_sub
  have f9 := sc_told
  refine codeAny_call_builtin sc_slotGet.plain sc_entryGet (sc_slotGet.check _ _ _ _ _ _ _ _ hT5 (sc_argsGet _ _ _) ?_)
  repeat (any_goals (first | assumption | wp_step))
  exact hq _ rfl
theorem sc_entry {tk : Tok} {Q : Fin → Shared → Prop} (ho : h.get? S = some { cls := .type "set", dict := none, data := .set es ep tb, slots := #[] }) (hq : ∀ o, o.isFreed = false → Q (.done (.ret (.ref h.objs.size))) ⟨h.push o, g, d, t, os⟩) :
    wpAny (model prog w) A (Builtin.«object.__getattribute__» ⟨[.ref S, .str "__contains__" tk], []⟩) Q E ⟨h, g, d, t, os⟩ := by
  have hT : (⟨h, g, d, t, os⟩ : Shared).TypeIs (.ref S) "set" := ⟨_, ho, rfl⟩
  have f4 := sc_lk
  have f5 := sc_ty
  have f6 := sc_get
  have f7 := sc_set
  have f8 := sc_del
  have f9 : (["__module__", "__name__", "__qualname__", "__doc__", "__annotations__"] : List Str).contains (Str.ofString "__contains__") = false := by decide +kernel
  unfold Builtin.«object.__getattribute__»
  repeat (any_goals (first | assumption | wp_step))
  refine sc_bind ho fun o ho' => ?_
  have := hq o ho'
  repeat (any_goals (first | assumption | wp_step))
theorem sc_call {tk : Tok} {R : Result → Shared → Prop} (ho : h.get? S = some { cls := .type "set", dict := none, data := .set es ep tb, slots := #[] }) (hq : ∀ o, o.isFreed = false → R (.ok (.ret (.ref h.objs.size))) ⟨h.push o, g, d, t, os⟩) :
    codeAny (model prog w) A (.call (.builtin "set.__getattribute__") ⟨[.ref S, .str "__contains__" tk], []⟩) R ⟨h, g, d, t, os⟩ :=
  codeAny_call_builtin F.slot_set_getattribute.plain F.entry_set_ga (F.slot_set_getattribute.check _ _ _ _ _ _ _ _ (show (⟨h, g, d, t, os⟩ : Shared).TypeIs (.ref S) "set" from ⟨_, ho, rfl⟩) (F.args_set_getattribute_2 _ _) (sc_entry ho hq))
theorem sc_by {Q : Value → Shared → Prop} (ho : h.get? S = some { cls := .type "set", dict := none, data := .set es ep tb, slots := #[] }) (hq : ∀ o, o.isFreed = false → Q (.ref h.objs.size) ⟨h.push o, g, d, t + 1, os⟩) : wpAny (model prog w) A (getAttr (.ref S) (Str.ofString "__contains__") true) Q E ⟨h, g, d, t, os⟩ := by
  have hT : ∀ tk', (⟨h, g, d, tk', os⟩ : Shared).TypeIs (.ref S) "set" := fun _ => ⟨_, ho, rfl⟩
  have f2 := F.slot_set_getattribute.lookup
  have f3 := F.slot_set_getattribute.bind (.ref S)
  unfold getAttr getAttrBy
  repeat (any_goals (first | assumption | exact hT _ | wp_step))
  refine sc_call ho fun o ho' => ?_
  have := hq o ho'
  repeat (any_goals (first | assumption | wp_step))
end
-- Filt
open Builtin in
section
set_option maxRecDepth 100000
set_option maxHeartbeats 1000000
theorem fl_mro : mroOf (.type "filter") = pure [.type "filter", .type "object"] := by rw [mroOf_type]; kernel_rfl
theorem fl_lkNew : typeLookup (.type "filter") "__new__" = pure (some (.builtin "filter.__new__")) := by rw [typeLookup_type, builtinLookup_eq_fast]; kernel_rfl
theorem fl_init : Slot "filter" "__init__" "object.__init__" :=
  .of (owner := "object") (n := "__init__") (by rw [typeLookup_type, builtinLookup_eq_fast]; kernel_rfl) (by decide +kernel) (by decide +kernel) (by decide +kernel)
    (by first | exact .inl (by decide +kernel) | exact .inr (by decide +kernel)) (by rw [isSubtype_type]; kernel_rfl)
theorem fl_called : TypeCalled "filter" "filter.__new__" "object.__init__" :=
  ⟨by decide +kernel, by decide +kernel, ⟨_, _, fl_mro⟩, madeBy_type fl_mro fl_lkNew (by decide +kernel), by decide +kernel, by rw [isSubtype_type]; kernel_rfl, fl_init⟩
theorem fl_typeCall (a b : Value) : checkTypeCall "filter" ⟨[a, b], []⟩ = pure () := by kernel_rfl
theorem fl_newCall (a b : Value) : checkBuiltinCall "filter.__new__" ⟨[.type "filter", a, b], []⟩ = pure () := by kernel_rfl
theorem fl_entryNew : entryFor table "filter.__new__" = some Builtin.«filter.__new__» := entryFor_of_tree (by kernel_rfl)
theorem fl_sub : isSubtype (.type "filter") (.type "filter") = pure true := by rw [isSubtype_type]; kernel_rfl
theorem fl_meets (f : Value) (l : Addr) (items : Array Value) (n : Nat) :
    Meets (Builtin.«filter.__new__» ⟨[.type "filter", f, .ref l], []⟩) (fun _ R s => s.heap.get? l = some { cls := .type "list", dict := none, data := .seq items n, slots := #[] } ∧
      R (.ok (.ret (.ref (s.heap.push { cls := .type "list_iterator", data := .fields #[.ref l, .int 0 0] }).objs.size)))
        { s with heap := (s.heap.push { cls := .type "list_iterator", data := .fields #[.ref l, .int 0 0] }).push { cls := .type "filter", data := .fields #[f, .ref s.heap.objs.size] } }) :=
  .of_wp fun prog w A R s h => by
    obtain ⟨hp, g, d, tk, os⟩ := s; obtain ⟨hl, h⟩ := h
    have hsub := fl_sub
    have hL : Heap.IsList (Shared.heap ⟨hp, g, d, tk, os⟩) l items := ⟨_, hl, rfl, n, rfl⟩
    wp_walk using wpAny_loadPart' hl, wpAny_pyIter_list hL
    exact ⟨_, rfl, h⟩
theorem fl_argsInit (a b c : Value) : argsOk "object.__init__" ⟨[a, b, c], []⟩ := by unfold argsOk; kernel_rfl
theorem fl_slotIter : Slot "filter" "__iter__" "filter.__iter__" :=
  .of (owner := "filter") (n := "__iter__") (by rw [typeLookup_type, builtinLookup_eq_fast]; kernel_rfl) (by decide +kernel) (by decide +kernel) (by decide +kernel)
    (by first | exact .inl (by decide +kernel) | exact .inr (by decide +kernel)) (by rw [isSubtype_type]; kernel_rfl)
theorem fl_entryIter : entryFor table "filter.__iter__" = some Builtin.«dict_keyiterator.__iter__» :=
  entryFor_alias (id' := "dict_keyiterator.__iter__") (by kernel_rfl) (by first | rfl | decide +kernel | (unfold String.splitOn; simp +decide [String.splitOnAux])) (by decide +kernel) (by kernel_rfl)
theorem fl_argsIter (a : Value) : argsOk "filter.__iter__" ⟨[a], []⟩ := by unfold argsOk; kernel_rfl
theorem fl_slotNext : Slot "filter" "__next__" "filter.__next__" :=
  .of (owner := "filter") (n := "__next__") (by rw [typeLookup_type, builtinLookup_eq_fast]; kernel_rfl) (by decide +kernel) (by decide +kernel) (by decide +kernel)
    (by first | exact .inl (by decide +kernel) | exact .inr (by decide +kernel)) (by rw [isSubtype_type]; kernel_rfl)
theorem fl_entryNext : entryFor table "filter.__next__" = some Builtin.«filter.__next__» := entryFor_of_tree (by kernel_rfl)
theorem fl_argsNext (a : Value) : argsOk "filter.__next__" ⟨[a], []⟩ := by unfold argsOk; kernel_rfl
theorem fl_noLen : typeLookup (.type "filter") "__len__" = pure none := by rw [typeLookup_type, builtinLookup_eq_fast]; kernel_rfl
theorem fl_noHint : typeLookup (.type "filter") "__length_hint__" = pure none := by rw [typeLookup_type, builtinLookup_eq_fast]; kernel_rfl
variable {prog : Program} {w : World} {A : Around} {E : Value → Shared → Prop} {s : Shared}
noncomputable def filtObj (f : Value) (it : Addr) : Obj := { cls := .type "filter", data := .fields #[f, .ref it] }
theorem call_filter {f : Value} {l : Addr} {items : Array Value} {n : Nat} {Q : Value → Shared → Prop} (hl : s.heap.get? l = some { cls := .type "list", dict := none, data := .seq items n, slots := #[] })
    (h : ∀ h', h'.get? (s.heap.objs.size + 1) = some (filtObj f s.heap.objs.size) → h'.IsListIter s.heap.objs.size l 0 → (∀ b o, s.heap.get? b = some o → h'.get? b = some o) → Q (.ref (s.heap.objs.size + 1)) { s with heap := h' }) :
    wpAny (model prog w) A (call (.type "filter") [f, .ref l]) Q E s := by
  refine callType_new fl_called (by decide) (fl_typeCall _ _) (fl_newCall _ _) (fun obj => fl_argsInit obj _ _) fl_entryNew (fl_meets f l items n) ⟨hl, ?_⟩
  have hz : (s.heap.push { cls := .type "list_iterator", data := .fields #[.ref l, .int 0 0] }).objs.size = s.heap.objs.size + 1 := Heap.size_push ..
  show _ ∧ _
  rw [hz]
  have he := Heap.get?_push_size (s.heap.push { cls := .type "list_iterator", data := .fields #[.ref l, .int 0 0] }) (o := filtObj f s.heap.objs.size) rfl
  rw [hz] at he
  exact ⟨⟨_, he, rfl⟩, h _ he ⟨_, Heap.get?_push_of_some _ (Heap.get?_push_size _ rfl), rfl, rfl⟩ fun b o x => Heap.get?_push_of_some _ (Heap.get?_push_of_some _ x)⟩
theorem next_filter_end {e it l : Addr} {f : Value} {i : Nat} {items : Array Value} {Q : Option Value → Shared → Prop} (hh : A.handled = none) (he : s.heap.get? e = some (filtObj f it)) (hit : s.heap.IsListIter it l i) (hl : s.heap.IsList l items) (hx : items[i]? = none)
    (hQ : ∀ h', Heap.ExtBut it s.heap h' → Q none { s with heap := h' }) : wpAny (model prog w) A (pyNext (.ref e)) Q E s := by
  have hT : s.TypeIs (.ref e) "filter" := ⟨_, he, rfl⟩
  obtain ⟨o, ho, hc, hd⟩ := id hit
  obtain ⟨ol, hol, _, nl, hdl⟩ := hl
  unfold pyNext
  refine wpAny_bind (wpAny_attempt (wpAny_callSpecial?_slot (name := Str.ofString "__next__") hT fl_slotNext (wpAny_call_entry fl_slotNext hT fl_entryNext ?_ (fl_argsNext _))))
  show wpAny _ _ (field (.ref e) 0 >>= _) _ _ s
  refine wpAny_bind (wpAny_field he rfl (x := f) rfl ?_)
  show wpAny _ _ (field (.ref e) 1 >>= _) _ _ s
  refine wpAny_bind (wpAny_field he rfl (x := .ref it) rfl ?_)
  refine wpAny_bind (wpAny_callSpecial?_slot (name := Str.ofString "__next__") hit.typeIs slot_listiter_next (wpAny_call_entry slot_listiter_next hit.typeIs entry_listiter_next ?_ (args_listiter_next _)))
  show wpAny _ _ (field (.ref it) 0 >>= _) _ _ s
  refine wpAny_bind (wpAny_field ho hd (x := .ref l) rfl ?_)
  show wpAny _ _ (if (Value.ref l == Value.none) = true then _ else _) _ _ s
  rw [if_neg (show ¬ ((Value.ref l == Value.none) = true) from Bool.false_ne_true)]
  show wpAny _ _ (field (.ref it) 1 >>= _) _ _ s
  refine wpAny_bind (wpAny_field ho hd (x := .int i 0) rfl ?_)
  show wpAny _ _ (seqItems? (.ref l) >>= _) _ _ s
  refine wpAny_bind (wpAny_seqItems hol hdl ?_)
  simp only [Int.toNat_natCast, hx]
  refine wpAny_bind (wpAny_rule (wpAny_bind (wpAny_setField ho hd (by simp) ?_)))
  show wpAny _ _ (newExc (.type "StopIteration") [] >>= _) _ _ _
  refine wpAny_bind ?_
  simp only [newExc, newTuple]
  refine wpAny_bind (wpAny_newObj_type ?_ (by size_fits))
  refine wpAny_bind (m := firstArgMember _ _) (wpAny_of_eq (a := Value.none) (by first | rfl | (simp only [firstArgMember]; rfl)) ?_)
  refine wpAny_newObj_type ?_ (by size_fits)
  simp only [raiseNew]
  refine wpAny_bind (wpAny_handled ?_)
  first | rw [show A.in1.in1.handled = none from hh] | rw [show A.in1.handled = none from hh] | rw [hh]
  refine wpAny_bind (wpAny_pure (wpAny_throw ?_))
  refine wpAny_bind (wpAny_isInstance (T := "StopIteration") (b := true) ⟨_, Heap.get?_push_size _ rfl, rfl⟩ isSubtype_stop ?_)
  exact wpAny_pure (hQ _ (((Heap.SameBut.update ..).extBut.push _).push _))
end
-- LFilt
section
set_option maxRecDepth 100000
set_option maxHeartbeats 1000000
variable {prog : Program} {w : World} {A : Around} {E : Value → Shared → Prop} {s : Shared}
theorem iter_filter {e it : Addr} {f : Value} {Q : Value → Shared → Prop} (he : s.heap.get? e = some (filtObj f it)) (h : Q (.ref e) s) : wpAny (model prog w) A (pyIter (.ref e)) Q E s := by
  have hT : s.TypeIs (.ref e) "filter" := ⟨_, he, rfl⟩
  refine wpAny_pyIter_slot hT fl_slotIter (wpAny_call_entry fl_slotIter hT fl_entryIter ?_ (fl_argsIter _))
  show wpAny _ _ (ret (.ref e)) _ _ s
  exact wpAny_pure ⟨_, rfl, "filter", _, hT, fl_slotNext.lookup, h⟩
theorem extend_filter {R : Result → Shared → Prop} {e it l S : Addr} {f : Value} {c₀ : Nat} (hh : A.handled = none) (he : s.heap.get? e = some (filtObj f it)) (hit : s.heap.IsListIter it l 0) (hl : s.heap.IsList l #[]) (hSe : S ≠ e) (hSi : S ≠ it) (hSl : S ≠ l)
    (hS : s.heap.get? S = some { cls := .type "list", data := .seq #[] c₀ })
    (hR : ∀ h' c', (∀ b o, b ≠ S → b ≠ it → s.heap.get? b = some o → h'.get? b = some o) → h'.get? S = some { cls := .type "list", dict := none, data := .seq #[] c', slots := #[] } → R (.ok (.ret .none)) { s with heap := h' }) :
    wpAny (model prog w) A.in1 (Builtin.List.listExtendWith (.ref S) (.ref e) .none)
      (fun fin s' => match fin with | .done f => R (.ok f) s' | .again c' => c'.quiet = true ∧ codeAny (model prog w) A c' R s') (fun e s' => R (.error e) s') s := by
  have hT : s.TypeIs (.ref e) "filter" := ⟨_, he, rfl⟩
  unfold Builtin.List.listExtendWith
  refine wpAny_bind (wpAny_typeOf hT ?_)
  have h1 : Builtin.List.listSameRef (.ref S) (.ref e) = false := by simp [Builtin.List.listSameRef, hSe]
  have h2 : (Value.type "filter" == Value.type "list") = false := by decide
  have h3 : (Value.type "filter" == Value.type "tuple") = false := by decide
  simp only [h1, h2, h3, Bool.or_false, Bool.false_eq_true, if_false]
  refine wpAny_bind (iter_filter he ?_)
  refine wpAny_bind (wpAny_holding ?_)
  unfold Builtin.List.listLengthHint
  refine wpAny_bind (wpAny_specialOf hT fl_noLen ?_)
  show wpAny _ A.in1 (specialOf (Value.ref e) (Str.ofString "__length_hint__") >>= _) _ _ _
  refine wpAny_bind (wpAny_specialOf hT fl_noHint ?_)
  refine wpAny_pure ?_
  show wpAny _ A.in1 (rule "list.extend.makes-room" >>= fun _ => Builtin.List.listTouch (.ref S) >>= fun _ =>
    again (.builtin "list.extend.loop" ⟨[.ref S, .ref e, .none], []⟩)) _ _ _
  refine wpAny_bind (wpAny_rule ?_)
  refine wpAny_bind ?_
  show wpAny _ A.in1 (updateSeq S (·.push .none) >>= fun _ => updateSeq S (·.pop)) _ _ _
  refine wpAny_bind (wpAny_updateSeq hS rfl ?_)
  have hS₂ := Heap.get?_update_self (Obj.mapSeq (·.push Value.none)) hS rfl
  refine wpAny_updateSeq (hz := by seq_fits) hS₂ rfl ?_
  have hS₃ := Heap.get?_update_self (Obj.mapSeq (·.pop)) hS₂ rfl
  have oth : ∀ b o, b ≠ S → s.heap.get? b = some o → ((s.heap.update S (Obj.mapSeq (·.push Value.none))).update S (Obj.mapSeq (·.pop))).get? b = some o :=
    fun b o hb q => (Heap.get?_update_other _ _ (Ne.symm hb)).trans ((Heap.get?_update_other _ _ (Ne.symm hb)).trans q)
  refine wpAny_pure ⟨plainId_quiet F.plain_extend_loop _, codeAny_builtin F.entry_extend_loop ?_⟩
  rw [Around.under_plainId F.plain_extend_loop _]
  unfold Builtin.«list.extend.loop»
  refine wpAny_bind (next_filter_end (A := A.in1) hh (oth _ _ hSe.symm he) (hit.at fun o q => oth _ o hSi.symm q) (hl.at fun o q => oth _ o hSl.symm q) rfl fun h' x' => ?_)
  exact wpAny_pure (hR _ _ (fun b o hb hi q => x' b o hi (oth b o hb q)) (x' _ _ hSi hS₃))
theorem call_list_filter {e it l : Addr} {f : Value} {Q : Value → Shared → Prop} (hh : A.handled = none) (he : s.heap.get? e = some (filtObj f it)) (hit : s.heap.IsListIter it l 0) (hl : s.heap.IsList l #[])
    (hQ : ∀ h' c', (∀ b o, b ≠ it → s.heap.get? b = some o → h'.get? b = some o) → h'.get? s.heap.objs.size = some { cls := .type "list", dict := none, data := .seq #[] c', slots := #[] } → Q (.ref s.heap.objs.size) { s with heap := h' }) :
    wpAny (model prog w) A (call (.type "list") [.ref e]) Q E s := by
  refine callType_codes (Q₁ := fun obj s₁ => obj = .ref s.heap.objs.size ∧ s₁ = { s with heap := s.heap.push { cls := .type "list", data := .seq #[] } }) F.called_list (F.typeCall_list_1 _) F.entry_list_init
    (code_list_new _ ⟨rfl, rfl⟩) fun obj s₁ h₁ => ?_
  obtain ⟨rfl, rfl⟩ := h₁
  have hS : (s.heap.push { cls := .type "list", data := .seq #[] }).get? s.heap.objs.size = some { cls := .type "list", data := .seq #[] } := Heap.get?_push_size _ rfl
  have up : ∀ b o, s.heap.get? b = some o → (s.heap.push { cls := .type "list", data := .seq #[] }).get? b = some o := fun b o q => Heap.get?_push_of_some _ q
  have ne1 : s.heap.objs.size ≠ e := Nat.ne_of_gt (Heap.lt_size he)
  have ne2 : s.heap.objs.size ≠ it := by obtain ⟨o, ho, _⟩ := hit; exact Nat.ne_of_gt (Heap.lt_size ho)
  have ne3 : s.heap.objs.size ≠ l := by obtain ⟨o, ho, _⟩ := hl; exact Nat.ne_of_gt (Heap.lt_size ho)
  refine ⟨⟨_, hS, rfl⟩, F.args_list_init_2 _ _, ?_⟩
  show wpAny _ A.in1.in1 (do let old ← Builtin.List.listItems (.ref s.heap.objs.size); Builtin.List.listUpdate (.ref s.heap.objs.size) (fun _ => #[]); letGo old.toList.reverse; Builtin.List.listExtendWith (.ref s.heap.objs.size) (.ref e) .none) _ _ _
  refine wpAny_bind ?_
  unfold Builtin.List.listItems
  refine wpAny_bind (wpAny_seqItems hS rfl (wpAny_pure ?_))
  show wpAny _ A.in1.in1 (updateSeq s.heap.objs.size (fun _ => #[]) >>= fun _ => letGo (#[] : Array Value).toList.reverse >>= fun _ => Builtin.List.listExtendWith (.ref s.heap.objs.size) (.ref e) .none) _ _ _
  refine wpAny_bind (wpAny_updateSeq hS rfl ?_)
  have hS₂ := Heap.get?_update_self (Obj.mapSeq (fun _ => (#[] : Array Value))) hS rfl
  have oth : ∀ b o, b ≠ s.heap.objs.size → s.heap.get? b = some o → ((s.heap.push { cls := .type "list", data := .seq #[] }).update s.heap.objs.size (Obj.mapSeq (fun _ => (#[] : Array Value)))).get? b = some o :=
    fun b o hb q => (Heap.get?_update_other _ _ (Ne.symm hb)).trans (up b o q)
  refine wpAny_bind (wpAny_letGo ?_)
  refine extend_filter (A := A.in1) hh (oth _ _ ne1.symm he) (hit.at fun o q => oth _ o ne2.symm q) (hl.at fun o q => oth _ o ne3.symm q) ne1 ne2 ne3 hS₂ fun h' c' k' hS' => ?_
  exact ⟨rfl, hQ h' c' (fun b o hi q => k' b o (Nat.ne_of_lt (Heap.lt_size q)) hi (oth b o (Nat.ne_of_lt (Heap.lt_size q)) q)) hS'⟩
end
-- UaN
section
variable {prog : Program} {w : World} {A : Around} {E : Value → Shared → Prop} {s : Shared} {h₀ : Heap} {L : Addr} {m : Str → Option Value} {news : List (Addr × Obj)} {Q : Value → Shared → Prop}
theorem news_keep {h' : Heap} (N : News h₀ L s.heap news) (k : ∀ b o, s.heap.get? b = some o → h'.get? b = some o) : News h₀ L h' news := fun p hp => ⟨k _ _ (N p hp).1, (N p hp).2⟩
theorem fr_keep {h' : Heap} (F : Fr h₀ L s.heap m) (k : ∀ b o, s.heap.get? b = some o → h'.get? b = some o) : Fr h₀ L h' m := ⟨F.ns.keeps k, fun b o q => k b o (F.keep b o q), F.above⟩
theorem news_add {h' : Heap} {a : Addr} {o : Obj} (F : Fr h₀ L s.heap m) (N : News h₀ L h' news) (ha : s.heap.objs.size ≤ a) (ho : h'.get? a = some o) : News h₀ L h' ((a, o) :: news) := fun p hp => by
  rcases List.mem_cons.mp hp with rfl | hp
  · exact ⟨ho, Nat.ne_of_gt (Nat.lt_of_lt_of_le F.ns.lt ha), Heap.get?_none_of_le (Nat.le_trans F.above (Nat.le_trans (Nat.le_of_lt F.ns.lt) ha))⟩
  · exact N p hp
noncomputable def setObj0 (es : Array (Int × Value)) (ep : Nat) (tb : SetTable) : Obj := { cls := .type "set", dict := none, data := .set es ep tb, slots := #[] }
theorem set_N {u : Addr} {n : Nat} (hh : A.handled = none) (F : Fr h₀ L s.heap m) (N : News h₀ L s.heap news) (hu : (u, W.listOf #[] n) ∈ news)
    (h : ∀ S es ep tb h' tk, Fr h₀ L h' m → News h₀ L h' ((S, setObj0 es ep tb) :: news) → (∀ p ∈ news, p.1 < S) → Q (.ref S) { s with heap := h', toks := tk }) :
    wpAny (model prog w) A (call (.type "set") [.ref u]) Q E s := by
  refine call_set_list (items := #[]) (ns := []) hh ⟨_, (N _ hu).1, rfl, _, rfl⟩ .nil (by decide) fun h' tk hS hk => ?_
  obtain ⟨o, ho, ⟨e1, e2, e3⟩, es, ep, tb, hd, _⟩ := hS.objOf
  obtain ⟨c, dct, dat, sl⟩ := o
  simp only at e1 e2 e3 hd
  subst e1 e2 e3 hd
  have k : ∀ b o, s.heap.get? b = some o → h'.get? b = some o := fun b o q => hk b o (Heap.lt_size q) q
  exact h _ es ep tb h' tk (fr_keep F k) (news_add F (news_keep N k) (Nat.le_refl _) ho) fun p hp => Heap.lt_size (N p hp).1
theorem contains_N {S : Addr} {es : Array (Int × Value)} {ep : Nat} {tb : SetTable} (F : Fr h₀ L s.heap m) (N : News h₀ L s.heap news) (hS : (S, setObj0 es ep tb) ∈ news)
    (h : ∀ B h', Fr h₀ L h' m → News h₀ L h' news → Q (.ref B) { s with heap := h', toks := s.toks + 1 }) :
    wpAny (model prog w) A (getAttr (.ref S) (Str.ofString "__contains__") true) Q E s :=
  sc_by (N _ hS).1 fun o _ => h _ _ (F.push o) fun p hp => ⟨Heap.get?_push_of_some _ (N p hp).1, (N p hp).2⟩
theorem filter_N {f : Value} {u : Addr} {n : Nat} (F : Fr h₀ L s.heap m) (N : News h₀ L s.heap news) (hu : (u, W.listOf #[] n) ∈ news)
    (h : ∀ e it h', Fr h₀ L h' m → News h₀ L h' ((e, filtObj f it) :: news) → h'.IsListIter it u 0 → (∀ p ∈ news, p.1 < it) → it < e → L < it → Q (.ref e) { s with heap := h' }) :
    wpAny (model prog w) A (call (.type "filter") [f, .ref u]) Q E s := by
  refine call_filter (N _ hu).1 fun h' he hit k => ?_
  exact h _ _ h' (fr_keep F k) (news_add F (news_keep N k) (Nat.le_succ _) he) hit (fun p hp => Heap.lt_size (N p hp).1) (Nat.lt_succ_self _) F.ns.lt
theorem listf_N {e it u : Addr} {f : Value} {n : Nat} (hh : A.handled = none) (F : Fr h₀ L s.heap m) (N : News h₀ L s.heap ((e, filtObj f it) :: news)) (hit : s.heap.IsListIter it u 0) (hu : (u, W.listOf #[] n) ∈ news) (hlt : ∀ p ∈ news, p.1 < it) (hL : L < it)
    (h : ∀ l c h', Fr h₀ L h' m → News h₀ L h' ((l, W.listOf #[] c) :: news) → (∀ p ∈ news, p.1 < l) → Q (.ref l) { s with heap := h' }) :
    wpAny (model prog w) A (call (.type "list") [.ref e]) Q E s := by
  refine call_list_filter hh (N _ (.head _)).1 hit ⟨_, (N _ (.tail _ hu)).1, rfl, _, rfl⟩ fun h' c' k hS => ?_
  have F' : Fr h₀ L h' m := ⟨F.ns.at' fun o q => k _ o (Nat.ne_of_lt hL) q, fun b o q => k b o (Nat.ne_of_lt (Nat.lt_of_lt_of_le (Heap.lt_size q) (Nat.le_trans F.above (Nat.le_of_lt hL)))) (F.keep b o q), F.above⟩
  have N' : News h₀ L h' news := fun p hp => ⟨k _ _ (Nat.ne_of_lt (hlt p hp)) (N p (.tail _ hp)).1, (N p (.tail _ hp)).2⟩
  exact h _ c' h' F' (news_add F N' (Nat.le_refl _) hS) fun p hp => Heap.lt_size (N p (.tail _ hp)).1
theorem cat_N {r1 r2 : Addr} {v1 v2 : List Value} {n1 n2 : Nat} (F : Fr h₀ L s.heap m) (N : News h₀ L s.heap news) (h1 : (r1, W.listOf v1.toArray n1) ∈ news) (h2 : (r2, W.listOf v2.toArray n2) ∈ news) (hz1 : v1.length ≤ 8) (hz2 : v2.length ≤ 8)
    (h : ∀ l h', Fr h₀ L h' m → News h₀ L h' ((l, W.listOf (v1 ++ v2).toArray 0) :: news) → (∀ p ∈ news, p.1 < l) → Q (.ref l) { s with heap := h' }) :
    wpAny (model prog w) A (binaryOp .Add (.ref r1) (.ref r2)) Q E s :=
  add_arrays F N ⟨_, (N _ h1).1, rfl, _, rfl⟩ ⟨_, (N _ h2).1, rfl, _, rfl⟩ (fun h' F' N' => h _ h' F' N' fun p hp => Heap.lt_size (N p hp).1) (by rw [List.size_toArray, List.size_toArray, sizeLine_eq]; omega)
end
-- Merge
/-- a record with these rules -/
noncomputable def BookAt (w : World) (news : List (Addr × Obj)) (x : Addr) (rules : List Value) : Prop :=
  ∃ d u r n nu t1 t2 t3 t4, (x, instObj 52 d) ∈ news ∧ (d, dictOf [⟨PyData.keyHash w.params (Str.ofString "useragents"), .str (Str.ofString "useragents") t1, .ref u⟩, ⟨PyData.keyHash w.params (Str.ofString "rulelines"), .str (Str.ofString "rulelines") t2, .ref r⟩, ⟨PyData.keyHash w.params (Str.ofString "delay"), .str (Str.ofString "delay") t3, .none⟩, ⟨PyData.keyHash w.params (Str.ofString "req_rate"), .str (Str.ofString "req_rate") t4, .none⟩] 4) ∈ news ∧ (u, W.listOf #[] nu) ∈ news ∧ (r, W.listOf rules.toArray n) ∈ news
abbrev MergeCS (w : World) (e1 e2 : Addr) (news : List (Addr × Obj)) (Out : Addr → List (Addr × Obj) → Prop) : Prop :=
  ∀ (loose : List Str) (mean : ExcName → Option Value) (mg mb : Str → Option Value) (dp un : Nat) (gd : Option (List Code)) (cn : Str) (cs : Scope) (a : Addr) (ccd : Value) (cl : List (Str × Addr)) (outer : List Env) (A₀ : Around) (base h₀ : Heap) (L : Addr) (m : Str → Option Value) (s : Shared) (Q E : Value → Shared → Prop),
    Below A₀ base outer h₀ → Fr h₀ L s.heap m → (hd.heap_39 w.params).In h₀ → News h₀ L s.heap news → Top topProg loose mean mg mb h₀ → cs.kind = .function → dp + 8 < recursionLimit → un + 40 < cLine →
    (∀ x h' tk' nw, Fr h₀ L h' m → News h₀ L h' nw → (∀ p ∈ news, p ∈ nw) → Out x nw → Q (.ref x) { s with heap := h', toks := tk' }) →
    wpAny (model (PySem.Challenge.rw_rl0026_01.row.prog) w) (ktrTop dp un gd cn cs L a ccd cl outer) (call (.ref 63) [.ref e1, .ref e2]) Q E s

set_option maxRecDepth 100000 in
set_option maxHeartbeats 8000000 in
theorem merge_spec (w : World) (e1 e2 : Addr) (news : List (Addr × Obj)) (v1 v2 : List Value) (h1 : BookAt w news e1 v1) (h2 : BookAt w news e2 v2) (hl1 : v1.length ≤ 8) (hl2 : v2.length ≤ 8) : MergeCS w e1 e2 news (fun x nw => BookAt w nw x (v1 ++ v2)) := by
  k_with_none
  unfold MergeCS; k_fill; w_on
  intro loose mean mg mb dp un gd cn' cs a ccd cl outer A₀ base h₀ L m s Q E B F X N T hk hd hu hret
  obtain ⟨d1, u1, r1, n1, nu1, a1, a2, a3, a4, m11, m12, m13, m14⟩ := h1
  obtain ⟨d2, u2, r2, n2, nu2, b1, b2, b3, b4, m21, m22, m23, m24⟩ := h2
  replace N := news_dup N m14
  replace N := news_dup N (.tail _ m24)
  replace N := news_dup N (.tail _ (.tail _ m13))
  replace N := news_dup N (.tail _ (.tail _ (.tail _ m23)))
  replace N := news_dup N (.tail _ (.tail _ (.tail _ (.tail _ m12))))
  replace N := news_dup N (.tail _ (.tail _ (.tail _ (.tail _ (.tail _ m22)))))
  replace N := news_dup N (.tail _ (.tail _ (.tail _ (.tail _ (.tail _ (.tail _ m11))))))
  replace N := news_dup N (.tail _ (.tail _ (.tail _ (.tail _ (.tail _ (.tail _ (.tail _ m21)))))))
  (refine wpAny_call ?_; k_dflt (refine' code_def ?k1 ?k2 ?k3 ?k4 ?k5 ?kA ?kF ?kK ?k6 ?k7 ?k8 ?k9 ?kB ?_ ?c2 ?c3 ?c4 ?c5; (case kA | kF => exact rfl); (case kK => assumption); (case k1 | k2 | k3 | k4 | k5 => k_asm); (case k6 | k7 => k_is); (case k8 => ktr_room); (case k9 => exact BindsTo.of_eq rfl); (case c5 => decide); (case kB => exact locs rfl); (case c2 | c3 | c4 => exact rfl); k_whole))
  intro g' L' h' FG' F' N' B' X' T'
  ((try dsimp only); (try k_fold))
  k_with "call ref" => (k_dflt (refine' EntryCS.use (entry_spec _ _) ?k1 ?k2 ?k3 ?k4 ?k5 ?kK ?kd ?ku ?_; ((case k1 | k2 | k3 | k4 | k5 => k_asm); (case kK => first | exact rfl | assumption); (case kd => ktr_room); (case ku => ktr_units))); intro x9 d9 l91 l92 t91 t92 t93 t94 h9 tk9 F9 N9 lt9 dx9 xl9 ll9; (try dsimp only); (try k_fold); (have hod : OwnOff news [d9, x9, l91, l92] := ownOff_lt (d := d9) (fun p hp => lt9 p (by simp only [List.mem_cons, hp, or_true])) (by intro b hb; simp at hb; rcases hb with rfl | rfl | rfl | rfl; exact Nat.le_refl _; exact Nat.le_of_lt dx9; exact Nat.le_of_lt (Nat.lt_trans dx9 xl9); exact Nat.le_of_lt (Nat.lt_trans dx9 (Nat.lt_trans xl9 ll9)))); k_lt lt9; k_lt2 dx9; k_lt2 xl9; k_lt2 ll9)
  k_with "call type:set" => (k_dflt (refine set_N rfl (by k_asm) (by k_asm) (by k_mem) ?_); intro S9 es9 ep9 tb9 hS9 tkS9 FS9 NS9 ltS9; k_lt ltS9; (try dsimp only); (try k_fold))
  k_with "getAttr ref" => ((with_reducible show wpAny _ _ (getAttr (Value.ref _) (PySem.Str.ofString "__contains__") _) _ _ _); k_dflt (refine contains_N (by k_asm) (by k_asm) (by k_mem) ?_); intro B9 hB9 FB9 NB9; (try dsimp only); (try k_fold))
  k_with "call type:filter" => (k_dflt (refine filter_N (by k_asm) (by k_asm) (by k_mem) ?_); intro e9 it9 he9 Fe9 Ne9 hit9 lte9 lie9 lLe9; (try dsimp only); (try k_fold))
  k_with "call type:list" => (k_dflt (refine listf_N rfl (by k_asm) (by k_asm) (by assumption) (by k_mem) (by assumption) (by assumption) ?_); intro l9 c9 hl9 Fl9 Nl9 ltl9; k_lt ltl9; (try dsimp only); (try k_fold))
  k_with "binaryOp Add ref ref" => (k_dflt (refine cat_N (r1 := r1) (r2 := r2) (v1 := v1) (v2 := v2) (by k_asm) (by k_asm) (by k_mem) (by k_mem) hl1 hl2 ?_); intro la9 hla9 Fla9 Nla9 ltla9; k_lt ltla9; (try dsimp only); (try k_fold))
  k_steps
  with_reducible rename News h₀ _ _ _ => NF
  refine hret x9 _ _ _ (by assumption) NF ?_ ?_
  · intro p hp
    simp only [List.mem_cons, hp, or_true]
  · exact ⟨d9, l9, la9, 0, c9, t91, t92, t93, t94, by k_mem, by k_mem, by k_mem, by k_mem⟩
-- LcTup
section
open PySem.Spec PySem.Calls LCg
variable {prog : Program} {w : World} {A : Around} {E : Value → Shared → Prop} {s : Shared} {h₀ : Heap} {L : Addr} {m : Str → Option Value} {env : Env}
/-- the tuple that a comprehension goes over lies in the ledger -/
noncomputable def TupSrc (ax : Addr) (its : Array Value) (news : List (Addr × Obj)) : Prop := ∃ o, (ax, o) ∈ news ∧ o.cls = .type "tuple" ∧ ∃ n, o.data = .seq its n
noncomputable def TupAt (prog : Program) (w : World) (A : Around) (h₀ : Heap) (L : Addr) (m : Str → Option Value) (env : Env) (elt : Expr) (x : Str) (scope : Scope) (cl : List (Str × Addr)) (Fin : Shared → List Value → List (Addr × Obj) → Prop) (xv : Value) (s₁ : Shared) : Prop :=
  ∃ ax its news, xv = .ref ax ∧ A.handled = none ∧ Fr h₀ L s₁.heap m ∧ News h₀ L s₁.heap news ∧ TupSrc ax its news ∧ its.size ≤ sizeLine ∧
    ∀ g : Heap, CompRest prog w A h₀ L m env elt x scope cl { s₁ with heap := g } (TupSrc ax its) (fun i v => its[i]? = some v) (Fin { s₁ with heap := g }) its.size 0 [] news
theorem TupAt.intro {elt : Expr} {x : Str} {scope : Scope} {cl : List (Str × Addr)} {Fin : Shared → List Value → List (Addr × Obj) → Prop} {ax : Addr} {its : Array Value} {k : Nat} {news : List (Addr × Obj)} {s₁ : Shared}
    (hh : A.handled = none) (F : Fr h₀ L s₁.heap m) (N : News h₀ L s₁.heap news) (hm : (ax, ({ cls := .type "tuple", data := .seq its k } : Obj)) ∈ news) (hsz : its.size ≤ sizeLine)
    (h : ∀ g : Heap, CompRest prog w A h₀ L m env elt x scope cl { s₁ with heap := g } (TupSrc ax its) (fun i v => its[i]? = some v) (Fin { s₁ with heap := g }) its.size 0 [] news) :
    TupAt prog w A h₀ L m env elt x scope cl Fin (.ref ax) s₁ := ⟨ax, its, news, rfl, hh, F, N, ⟨_, hm, rfl, _, rfl⟩, hsz, h⟩
theorem TupSrc.is {h : Heap} {ax : Addr} {its : Array Value} {news : List (Addr × Obj)} (S : TupSrc ax its news) (N : News h₀ L h news) : h.IsTuple ax its := let ⟨o, hm, r⟩ := S; ⟨o, (N _ hm).1, r⟩

theorem ListComp_Tup {elt iter : Expr} {x : Str} {px : Pos} {scope : Scope} {cl : List (Str × Addr)} {pos : Pos} {Q : Value → Shared → Prop} (F₀ : Fr h₀ L s.heap m)
    (hclos : closureFor scope env = pure cl) (hcell : ∀ y ∈ scope.names, y.2 ≠ .cell) (hkind : scope.kind = .function)
    (hnames : ∀ y ∈ scope.names, y.2 = .local → scope.names.lookup y.1 = some .local) (hx : scope.names.lookup x = some .local)
    (h : wpAny (model prog w) A (eval iter env) (TupAt prog w A h₀ L m env elt x scope cl (fun s₂ => FinE h₀ L m s₂ Q)) E s)
    (hs : ∀ x, foldedSetIterable iter env x = pure x := by intro _; rfl) :
    wpAny (model prog w) A (eval (.ListComp elt [⟨.Name x px, iter, [], 0⟩] scope pos) env) Q E s := by
  rw [eval_ListComp]
  refine wpAny_comprehension_free (use := none) rfl hs hclos hkind hnames (wpAny_mono h (fun xv s₁ h₁ => ?_) fun _ _ e => e)
  obtain ⟨ax, its, news, rfl, hh, F, N, S, hsz, R⟩ := h₁
  have hl := S.is N
  have hlt : ax < s₁.heap.objs.size := by obtain ⟨_, e, _⟩ := hl; exact Heap.lt_size e
  refine wpAny_pyIter_tuple hl ?_
  have up : ∀ b o, s₁.heap.get? b = some o → (s₁.heap.push { cls := .type "tuple_iterator", data := .fields #[.ref ax, .int 0 0] }).get? b = some o := fun b o e => Heap.get?_push_of_some _ e
  refine block_U (Walks.tuple hh s₁.heap.objs.size ax (Nat.ne_of_lt hlt) its) hsz (fun i h st => by obtain ⟨o, e, _⟩ := st.1; exact ⟨o, e⟩) ?_ hcell hkind hx ⟨⟨_, Heap.get?_push_size _ rfl, rfl, rfl⟩, hl.at fun o e => up _ o e⟩ (fun b hb => ?_)
    (F.keeps up) (N.grown up) (Nat.ne_of_lt F.ns.lt) (next_is_new F) (fun p hp => Nat.ne_of_lt (Heap.lt_size (N p hp).1)) S (R _) ?_
  · intro i h h' o nw st e e' _ N' S'
    refine ⟨?_, S'.is N'⟩
    obtain ⟨o', q, r⟩ := st.1
    rw [e] at q
    cases q
    exact ⟨o, e', r⟩
  · show b < (s₁.heap.push _).objs.size
    rw [Heap.size_push]
    rcases List.mem_cons.mp hb with rfl | hb
    · exact Nat.lt_succ_self _
    · rw [List.mem_singleton.mp hb]; exact Nat.lt_succ_of_lt hlt
  · intro D C h tk m' ys news' F' N' o1 hn hC₀ hD₀ hCL hDL hCD offC fin
    refine ⟨m', hn, fun h'' hs'' => fin D h'' tk (F'.change hs'' hCL hC₀) (fun p hp => ?_) o1⟩
    refine ⟨hs''.extBut _ _ ?_ (N' p hp).1, (N' p hp).2⟩
    rcases List.mem_cons.mp hp with rfl | hp
    · exact Ne.symm hCD
    · exact offC p hp
end
-- Comp
theorem RuleIn.mono {w : World} {c : List Int} {news nw : List (Addr × Obj)} {k : Nat} {x : Addr} (h : RuleIn w c news k x) (hs : ∀ p ∈ news, (∀ n, p.2 ≠ W.listOf #[] n) → p ∈ nw) : RuleIn w c nw k x := by
  obtain ⟨core, h1, h2, h3⟩ := h
  exact ⟨core, fun p hp => hs p (h1 p hp) (h2 p hp), h2, h3⟩
theorem LamTab.mono {news nw : List (Addr × Obj)} (h : LamTab news) (hs : ∀ p ∈ news, (∀ n, p.2 ≠ W.listOf #[] n) → p ∈ nw) : LamTab nw := by
  obtain ⟨c', oc, vs, t, m1, m2, e1, e2⟩ := h
  exact ⟨c', oc, vs, t, hs _ m1 (noNil_data (by intro xs n e; cases e)), hs _ m2 (noNil_data (by rw [e1]; intro xs n e; cases e)), e1, e2⟩
theorem BookAt.mono {w : World} {news nw : List (Addr × Obj)} {x : Addr} {rules : List Value} (h : BookAt w news x rules) (hs : ∀ p ∈ news, p ∈ nw) : BookAt w nw x rules := by
  obtain ⟨d, u, r, n, nu, t1, t2, t3, t4, m1, m2, m3, m4⟩ := h
  exact ⟨d, u, r, n, nu, t1, t2, t3, t4, hs _ m1, hs _ m2, hs _ m3, hs _ m4⟩
theorem news_sub {h₀ h : Heap} {L : Addr} {news nw : List (Addr × Obj)} (N : News h₀ L h news) (hs : ∀ p ∈ nw, p ∈ news) : News h₀ L h nw := fun p hp => N p (hs p hp)
/-- two entries of one ledger at one address are one -/
theorem news_one {h₀ h : Heap} {L : Addr} {news : List (Addr × Obj)} {a : Addr} {o o' : Obj} (N : News h₀ L h news) (h1 : (a, o) ∈ news) (h2 : (a, o') ∈ news) : o = o' := by
  have e1 := (N _ h1).1
  have e2 := (N _ h2).1
  exact Option.some.inj (e1.symm.trans e2)

/-- a call of _law_rule over any ledger: what stood at 135 may turn -/
abbrev RuleG (w : World) (c : List Int) (cA : Addr) (k : Nat) (t : Tok) (news seed : List (Addr × Obj)) : Prop :=
  ∀ (loose : List Str) (mean : ExcName → Option Value) (mg mb : Str → Option Value) (dp un : Nat) (gd : Option (List Code)) (cn : Str) (cs : Scope) (a : Addr) (ccd : Value) (cl : List (Str × Addr)) (outer : List Env) (A₀ : Around) (base h₀ : Heap) (L : Addr) (m : Str → Option Value) (s : Shared) (Q E : Value → Shared → Prop),
    Below A₀ base outer h₀ → Fr h₀ L s.heap m → (hd.heap_39 w.params).In h₀ → News h₀ L s.heap news → Top topProg loose mean mg mb h₀ → cs.kind = .function → dp + 8 < recursionLimit → un + 40 < cLine → CodeHd base 139 135 →
    (∀ x h' tk' nw core, Fr h₀ L h' m → News h₀ L h' nw → (∀ p ∈ news, p.1 ≠ 135 ∨ 0 < k → p ∈ nw) → (∀ p ∈ core, p ∈ nw ∧ (p.1 = 135 ∨ p ∈ seed ∨ ∀ q ∈ news, q.1 ≠ 135 → q.1 < p.1)) → NoNil core → LamTab core → RuleAt w c core k x → Q (.ref x) { s with heap := h', toks := tk' }) →
    wpAny (model (PySem.Challenge.rw_rl0026_01.row.prog) w) (ktrTop dp un gd cn cs L a ccd cl outer) (call (.ref 140) [.ref cA, .int k t]) Q E s
theorem RuleG.use {w : World} {c : List Int} {cA : Addr} {k : Nat} {t : Tok} {news seed : List (Addr × Obj)} (C : RuleG w c cA k t news seed) {loose : List Str} {mean : ExcName → Option Value} {mg mb : Str → Option Value} {dp un : Nat} {gd : Option (List Code)} {cn : Str} {cs : Scope} {a : Addr} {ccd : Value} {cl : List (Str × Addr)} {outer : List Env} {A₀ : Around} {base h₀ : Heap} {L : Addr} {m : Str → Option Value} {s : Shared} {Q E : Value → Shared → Prop}
    (B : Below A₀ base outer h₀) (F : Fr h₀ L s.heap m) (X : (hd.heap_39 w.params).In h₀) (N : News h₀ L s.heap news) (T : Top topProg loose mean mg mb h₀) (hk : cs.kind = .function) (hd : dp + 8 < recursionLimit) (hu : un + 40 < cLine) (hC : CodeHd base 139 135)
    (ret : ∀ x h' tk' nw core, Fr h₀ L h' m → News h₀ L h' nw → (∀ p ∈ news, p.1 ≠ 135 ∨ 0 < k → p ∈ nw) → (∀ p ∈ core, p ∈ nw ∧ (p.1 = 135 ∨ p ∈ seed ∨ ∀ q ∈ news, q.1 ≠ 135 → q.1 < p.1)) → NoNil core → LamTab core → RuleAt w c core k x → Q (.ref x) { s with heap := h', toks := tk' }) :
    wpAny (model (PySem.Challenge.rw_rl0026_01.row.prog) w) (ktrTop dp un gd cn cs L a ccd cl outer) (call (.ref 140) [.ref cA, .int k t]) Q E s :=
  C loose mean mg mb dp un gd cn cs a ccd cl outer A₀ base h₀ L m s Q E B F X N T hk hd hu hC ret
theorem ruleG_first (w : World) (cA : Addr) (cvs : List Value) (c : List Int) (cn : Nat) (news seed : List (Addr × Obj)) (hsd : ∀ p ∈ seed, p ∈ news) (hc : (cA, W.listOf cvs.toArray cn) ∈ seed) (hI : IntsAre cvs c) (hlen : c.length = 5) (h135 : (135, tabObj #[]) ∈ news) (hcA : cA ≠ 135) (t : Tok) : RuleG w c cA 0 t news seed := by
  intro loose mean mg mb dp un gd cn' cs a ccd cl outer A₀ base h₀ L m s Q E B F X N T hk hd hu hC hret
  refine rule_first w cA cvs c cn (news.filter fun p => p.1 ≠ 135) (seed.filter fun p => p.1 ≠ 135) (fun p hp => List.mem_filter.mpr ⟨hsd p (List.mem_filter.mp hp).1, (List.mem_filter.mp hp).2⟩) (List.mem_filter.mpr ⟨hc, by simpa using hcA⟩) hI hlen (fun p hp b hb => ?_) t loose mean mg mb dp un gd cn' cs a ccd cl outer A₀ base h₀ L m s Q E B F X (news_sub N fun p hp => ?_) T hk hd hu hC fun x h' tk' nw core F' N' hs hcr hn hl hr => ?_
  · rw [List.mem_singleton.mp hb]
    simpa using (List.mem_filter.mp hp).2
  · rcases List.mem_cons.mp hp with rfl | hp
    · exact h135
    · exact (List.mem_filter.mp hp).1
  · refine hret x h' tk' nw core F' N' (fun p hp hne => hs p (List.mem_filter.mpr ⟨hp, by simpa using hne.resolve_right (Nat.lt_irrefl 0)⟩)) (fun p hp => ⟨(hcr p hp).1, ?_⟩) hn hl hr
    rcases (hcr p hp).2 with e | e | e
    · exact .inl e
    · exact .inr (.inl (List.mem_filter.mp e).1)
    · exact .inr (.inr fun q hq hne => e q (List.mem_filter.mpr ⟨hq, by simpa using hne⟩))
theorem ruleG_next (w : World) (cA : Addr) (cvs : List Value) (c : List Int) (cn : Nat) (news seed : List (Addr × Obj)) (hsd : ∀ p ∈ seed, p ∈ news) (hc : (cA, W.listOf cvs.toArray cn) ∈ seed) (hI : IntsAre cvs c) (hlen : c.length = 5) (hlt : LamTab seed) (k : Nat) (hk0 : 0 < k) (hk5 : k < 5) (t : Tok) : RuleG w c cA k t news seed := by
  intro loose mean mg mb dp un gd cn' cs a ccd cl outer A₀ base h₀ L m s Q E B F X N T hk hd hu hC hret
  have ret2 : ∀ x h' tk' nw core, Fr h₀ L h' m → News h₀ L h' nw → (∀ p ∈ news, p ∈ nw) → (∀ p ∈ core, p ∈ nw ∧ (p.1 = 135 ∨ p ∈ seed ∨ ∀ q ∈ news, q.1 < p.1)) → NoNil core → LamTab core → RuleAt w c core k x → Q (.ref x) { s with heap := h', toks := tk' } := fun x h' tk' nw core F' N' hs hcr hn hl hr => hret x h' tk' nw core F' N' (fun p hp _ => hs p hp) (fun p hp => ⟨(hcr p hp).1, (hcr p hp).2.imp id (Or.imp id fun e q hq _ => e q hq)⟩) hn hl hr
  exact rule_next w cA cvs c cn news seed hsd hc hI hlen hlt k hk5 t loose mean mg mb dp un gd cn' cs a ccd cl outer A₀ base h₀ L m s Q E B F X N T hk hd hu hC ret2

section
open LCg
variable {prog : Program} {w : World} {A : Around} {s : Shared} {h₀ : Heap} {L : Addr} {m : Str → Option Value} {env : Env}
/-- what a turn of a comprehension hands on, over any ledger -/
noncomputable def TurnOut (h₀ : Heap) (L : Addr) (m : Str → Option Value) (s : Shared) (I C D : Addr) (oI oC oD : Obj) (Next : Value → List (Addr × Obj) → Prop) (y : Value) (s₂ : Shared) : Prop :=
  ∃ h' tk' nw, s₂ = { s with heap := h', toks := tk' } ∧ Fr h₀ L h' m ∧ News h₀ L h' nw ∧ (I, oI) ∈ nw ∧ (C, oC) ∈ nw ∧ (D, oD) ∈ nw ∧ Next y nw
theorem TurnOut.intro {I C D : Addr} {oI oC oD : Obj} {Next : Value → List (Addr × Obj) → Prop} {y : Value} {h' : Heap} {tk' : Nat} {nw : List (Addr × Obj)} (F : Fr h₀ L h' m) (N : News h₀ L h' nw) (h1 : (I, oI) ∈ nw) (h2 : (C, oC) ∈ nw) (h3 : (D, oD) ∈ nw) (hn : Next y nw) :
    TurnOut h₀ L m s I C D oI oC oD Next y { s with heap := h', toks := tk' } := ⟨h', tk', nw, rfl, F, N, h1, h2, h3, hn⟩
/-- a comprehension over a ledger that grows, by an invariant -/
theorem rest_grow {elt : Expr} {x : Str} {scope : Scope} {cl : List (Str × Addr)} {S : List (Addr × Obj) → Prop} {P : Nat → Value → Prop} {Fin : List Value → List (Addr × Obj) → Prop} {n : Nat} (J : Nat → List Value → List (Addr × Obj) → Prop)
    (turn : ∀ i ys nw v I oI C oC D m₂ h tk (E' : Value → Shared → Prop), i < n → J i ys nw → P i v → NsObj oC m₂ → m₂ x = some v → Fr h₀ L h m → News h₀ L h ((I, oI) :: (C, oC) :: (D, lst ys) :: nw) → Off3 I C D nw →
      wpAny (model prog w) A (eval elt (compEnvC scope cl C env)) (TurnOut h₀ L m { s with heap := h, toks := tk } I C D oI oC (lst ys) (fun y nw' => ∀ nw'', (∀ p ∈ nw', p.1 ≠ I → p.1 ≠ C → p.1 ≠ D → p ∈ nw'') → S nw'' ∧ J (i + 1) (ys ++ [y]) nw'')) E' { s with heap := h, toks := tk })
    (fin : ∀ ys nw, J n ys nw → Fin ys nw) : ∀ k i ys nw, i + k = n → J i ys nw → CompRest prog w A h₀ L m env elt x scope cl s S P Fin k i ys nw := by
  intro k
  induction k with
  | zero =>
    intro i ys nw hi hj
    refine CompRest.zero (fin ys nw ?_)
    rw [← hi]; exact hj
  | succ k ih =>
    intro i ys nw₀ hi hj
    refine CompRest.succ ?_
    intro v I oI C oC D m₂ h tk E' hP hC hx F N off ne
    refine wpAny_mono (turn i ys nw₀ v I oI C oC D m₂ h tk E' (by omega) hj hP hC hx F N off) (fun y s₂ q => ?_) fun _ _ q => q
    obtain ⟨h', tk', nw, rfl, F', N', m1, m2, m3, hn⟩ := q
    have o3 : Off3 I C D (nw.filter fun p => decide (p.1 ≠ I) && decide (p.1 ≠ C) && decide (p.1 ≠ D)) := Off3.of fun p hp => by
      have := (List.mem_filter.mp hp).2
      simp only [Bool.and_eq_true, decide_eq_true_eq] at this
      exact ⟨this.1.1, this.1.2, this.2⟩
    obtain ⟨hS, hR⟩ := hn (nw.filter fun p => decide (p.1 ≠ I) && decide (p.1 ≠ C) && decide (p.1 ≠ D)) fun p hp h1 h2 h3 => List.mem_filter.mpr ⟨hp, by simp [h1, h2, h3]⟩
    refine ⟨h', tk', _, rfl, F', fun p hp => ?_, o3, hS, ih (i + 1) _ _ (by omega) hR⟩
    rcases List.mem_cons.mp hp with rfl | hp
    · exact N' _ m1
    rcases List.mem_cons.mp hp with rfl | hp
    · exact N' _ m2
    rcases List.mem_cons.mp hp with rfl | hp
    · exact N' _ m3
    · exact N' p (List.mem_filter.mp hp).1
end
/-- the table of _law_rule's code before the rule k is made -/
noncomputable def TabFor (k : Nat) (nw : List (Addr × Obj)) : Prop := (k = 0 ∧ (135, tabObj #[]) ∈ nw) ∨ (0 < k ∧ LamTab nw)
theorem TabFor.at {k : Nat} {nw : List (Addr × Obj)} (h : TabFor k nw) : ∃ o, (135, o) ∈ nw := by
  rcases h with ⟨_, h⟩ | ⟨_, c', oc, vs, t, h, _⟩
  · exact ⟨_, h⟩
  · exact ⟨_, h⟩
theorem ruleG_any (w : World) (cA : Addr) (cvs : List Value) (c : List Int) (cn : Nat) (news seed : List (Addr × Obj)) (hsd : ∀ p ∈ seed, p ∈ news) (hc : (cA, W.listOf cvs.toArray cn) ∈ seed) (hI : IntsAre cvs c) (hlen : c.length = 5) (hcA : cA ≠ 135) (k : Nat) (hk5 : k < 5) (hT : TabFor k seed) (t : Tok) : RuleG w c cA k t news seed := by
  rcases hT with ⟨rfl, h⟩ | ⟨h0, h⟩
  · exact ruleG_first w cA cvs c cn news seed hsd hc hI hlen (hsd _ h) hcA t
  · exact ruleG_next w cA cvs c cn news seed hsd hc hI hlen h k h0 hk5 t
/-- the rules of the things ks, in turn -/
noncomputable def RulesIn (w : World) (c : List Int) (nw : List (Addr × Obj)) : List Nat → List Value → Prop
  | [], [] => True
  | k :: ks, v :: vs => (∃ x, v = .ref x ∧ RuleIn w c nw k x) ∧ RulesIn w c nw ks vs
  | _, _ => False
theorem RulesIn.mono {w : World} {c : List Int} {news nw : List (Addr × Obj)} (hs : ∀ p ∈ news, (∀ n, p.2 ≠ W.listOf #[] n) → p ∈ nw) : ∀ {ks : List Nat} {vs : List Value}, RulesIn w c news ks vs → RulesIn w c nw ks vs
  | [], [], _ => trivial
  | _ :: _, _ :: _, ⟨⟨x, e, h⟩, r⟩ => ⟨⟨x, e, h.mono hs⟩, RulesIn.mono hs r⟩
  | [], _ :: _, h => nomatch h
  | _ :: _, [], h => nomatch h
theorem RulesIn.snoc {w : World} {c : List Int} {nw : List (Addr × Obj)} {k : Nat} {x : Addr} (hx : RuleIn w c nw k x) : ∀ {ks : List Nat} {vs : List Value}, RulesIn w c nw ks vs → RulesIn w c nw (ks ++ [k]) (vs ++ [.ref x])
  | [], [], _ => ⟨⟨x, rfl, hx⟩, trivial⟩
  | _ :: _, _ :: _, ⟨h, r⟩ => ⟨h, RulesIn.snoc hx r⟩
  | [], _ :: _, h => nomatch h
  | _ :: _, [], h => nomatch h
theorem RulesIn.length {w : World} {c : List Int} {nw : List (Addr × Obj)} : ∀ {ks : List Nat} {vs : List Value}, RulesIn w c nw ks vs → vs.length = ks.length
  | [], [], _ => rfl
  | _ :: _, _ :: _, ⟨_, r⟩ => by rw [List.length_cons, List.length_cons, RulesIn.length r]
  | [], _ :: _, h => nomatch h
  | _ :: _, [], h => nomatch h
/-- the state of a comprehension of rules behind i turns -/
noncomputable def RulesJ (w : World) (c : List Int) (base : List (Addr × Obj)) (ks : List Nat) (i : Nat) (ys : List Value) (nw : List (Addr × Obj)) : Prop :=
  (∀ p ∈ base, p.1 ≠ 135 ∨ (∀ k ∈ ks, 0 < k) → p ∈ nw) ∧ (∀ k, ks[i]? = some k → TabFor k nw) ∧ (0 < i → LamTab nw) ∧ RulesIn w c nw (ks.take i) ys
theorem RulesJ.next {w : World} {c : List Int} {base : List (Addr × Obj)} {ks : List Nat} {i k : Nat} {ys : List Value} {nw nw' nw'' core : List (Addr × Obj)} {x I C D : Addr} {oI oC oD : Obj} (h : RulesJ w c base ks i ys nw) (hk : ks[i]? = some k) (h1 : ∀ j k, ks[j + 1]? = some k → 0 < k) (off : LCg.Off3 I C D nw)
    (hs : ∀ p ∈ (I, oI) :: (C, oC) :: (D, oD) :: nw, p.1 ≠ 135 ∨ 0 < k → p ∈ nw') (hcr : ∀ p ∈ core, p ∈ nw' ∧ (p.1 = 135 ∨ p ∈ nw ∨ ∀ q ∈ (I, oI) :: (C, oC) :: (D, oD) :: nw, q.1 ≠ 135 → q.1 < p.1)) (hn : NoNil core) (hl : LamTab core) (hr : RuleAt w c core k x)
    (hs2 : ∀ p ∈ nw', p.1 ≠ I → p.1 ≠ C → p.1 ≠ D → p ∈ nw'') : RulesJ w c base ks (i + 1) (ys ++ [.ref x]) nw'' := by
  obtain ⟨a1, a2, a3, a4⟩ := h
  have off' := off.mem
  obtain ⟨o135, m135⟩ := (a2 k hk).at
  obtain ⟨z1, z2, z3⟩ := off' _ m135
  have hcore : ∀ p ∈ core, p ∈ nw'' := fun p hp => by
    obtain ⟨hp1, hp2⟩ := hcr p hp
    have hne : p.1 ≠ I ∧ p.1 ≠ C ∧ p.1 ≠ D := by
      rcases hp2 with e | e | e
      · rw [e]; exact ⟨z1, z2, z3⟩
      · exact off' p e
      · exact ⟨Nat.ne_of_gt (e (I, oI) (.head _) (Ne.symm z1)), Nat.ne_of_gt (e (C, oC) (.tail _ (.head _)) (Ne.symm z2)), Nat.ne_of_gt (e (D, oD) (.tail _ (.tail _ (.head _))) (Ne.symm z3))⟩
    exact hs2 p hp1 hne.1 hne.2.1 hne.2.2
  have hold : ∀ p ∈ nw, p.1 ≠ 135 ∨ 0 < k → p ∈ nw'' := fun p hp hne => hs2 p (hs p (.tail _ (.tail _ (.tail _ hp))) hne) (off' p hp).1 (off' p hp).2.1 (off' p hp).2.2
  have hlam : LamTab nw'' := hl.mono fun p hp _ => hcore p hp
  refine ⟨fun p hp hne => hold p (a1 p hp hne) (hne.imp id fun q => q k (List.mem_of_getElem? hk)), fun k' hk' => .inr ⟨h1 i k' hk', hlam⟩, fun _ => hlam, ?_⟩
  have e2 : ks.take (i + 1) = ks.take i ++ [k] := by simp [List.take_add_one, hk]
  rw [e2]
  refine RulesIn.snoc ⟨core, hcore, hn, hr⟩ ?_
  by_cases hk0 : 0 < k
  · exact a4.mono fun p hp _ => hold p hp (.inr hk0)
  · have hi0 : i = 0 := by
      match i, hk with
      | 0, _ => rfl
      | j + 1, hk => exact absurd (h1 j k hk) hk0
    subst hi0
    have e3 := a4.length
    match ys, e3 with
    | [], _ => exact trivial
-- Shadow
section
variable {prog : Program} {w : World} {A : Around} {E : Value → Shared → Prop} {s : Shared} {K : Frag} {x C L : Addr} {h₀ : Heap} {m : Str → Option Value} {ox : Obj} {es : List DictEntry} {n : Nat} {v : Value} {name : Str}
theorem findObj_shadow {a g : Value} {od : Obj} (hh : hasDictIn K C = true) (ha : findIn K (.ref C) name = some (some a)) (hg : specialIn K a "__get__" = some (some g)) (ht : takesIn K a = some false) (hl : lookIn name od = some (some v)) :
    findObj K C (some od) name = some (.value v) := by
  obtain ⟨cd, hc, hd⟩ := any_some hh
  unfold findObj
  rw [hc, Option.bind_some, ha, Option.bind_some]
  have ho : W.ownOf cd (some od) name = some (some v) := by unfold W.ownOf; rw [if_pos hd]; exact hl
  simp [hg, ht, ho]
/-- an attribute of the object's own that lies before a method of its class -/
theorem get_shadow {expr : Bool} {Q : Value → Shared → Prop} {a g : Value} (F : Fr h₀ L s.heap m) (X₀ : K.In h₀) (I : InstAt s.heap x ox C (some (dictOf es n))) (hg : plainGet K C name = true) (hh : hasDictIn K C = true)
    (ha : findIn K (.ref C) name = some (some a)) (hgt : specialIn K a "__get__" = some (some g)) (ht : takesIn K a = some false) (hl : getL name es = some (some v)) (hv : handedIn v = true) (h : Q v { s with toks := s.toks + 1 }) :
    wpAny (model prog w) A (getAttr (.ref x) name expr) Q E s :=
  get_value (X₀.keeps F.keep) I (plainGet_of hg).1 (findObj_shadow hh ha hgt ht (by rw [lookIn_dict]; exact hl)) hv h
theorem method_shadow {pl : Sem Bool} {Q : Value × List Value → Shared → Prop} {f : Addr} (F : Fr h₀ L s.heap m) (X₀ : K.In h₀) (I : InstAt s.heap x ox C (some (dictOf es n))) (hg : plainGet K C name = true)
    (hf : findIn K (.ref C) name = some (some (.ref f))) (ht : isFn K (.ref f) = true) (hl : getL name es = some (some v)) (h : wpAny (model prog w) A (getAttr (.ref x) name) (fun v => Q (v, [])) E s) : wpAny (model prog w) A (getMethod (.ref x) name pl) Q E s := by
  have X := X₀.keeps F.keep
  have hcan := PySem.F.canon_object_ga
  have u : wpAny (model prog w) A (do return (← getAttr (.ref x) name, ([] : List Value))) Q E s := wpAny_bind (wpAny_mono h (fun _ _ z => wpAny_pure z) fun _ _ z => z)
  unfold getMethod specialOf
  refine wpAny_bind (wpAny_bind (I.type.here ((looks_findIn X (plainGet_of hg).1).here ?_)))
  dsimp only
  rw [hcan, if_neg (by decide)]
  refine wpAny_bind (wpAny_bind (I.type.here ((looks_findIn X (plainGet_of hg).2).here ?_)))
  refine wpAny_bind (wpAny_bind (I.type.here ((looks_findIn X hf).here (wpAny_bind ((looks_typeIn X (beq_iff_eq.mp ht)).here ?_)))))
  rw [if_neg (by decide +kernel)]
  refine wpAny_bind (wpAny_loadPart I.at_ ?_)
  have hd := I.dict
  cases e : ox.dict with
  | none => rw [e] at hd; exact hd.elim
  | some dx =>
    rw [e] at hd
    refine wpAny_bind (wpAny_bind (wpAny_loadPart hd ?_))
    have a : lookIn name (dictOf es n) = some (some v) := by rw [lookIn_dict]; exact hl
    rw [nsLook_of a]
    refine wpAny_pure ?_
    exact u
end
-- Allow
/-- what a record's allowance is: True, or a letter -/
noncomputable def AllowV : Option Nat → Value → Prop
  | none, v => v = .bool true
  | some k, v => ∃ t, v = .str (nameStr [k]) t
noncomputable def allowTo (c : List Int) (order is : List Nat) (j : Nat) : Int × Option Nat := (order.take j).foldl (allowStep c is) (-1, none)
theorem allowTo_step {c : List Int} {order is : List Nat} {j k : Nat} (h : order[j]? = some k) : allowTo c order is (j + 1) = allowStep c is (allowTo c order is j) k := by
  unfold allowTo
  rw [List.take_add_one, h, List.foldl_append]
  rfl
theorem allowTo_all (c : List Int) (order is : List Nat) : (allowTo c order is order.length).2 = allowF c order is := by
  unfold allowTo allowF
  rw [List.take_length]
theorem allowTo_ok (c : List Int) (order is : List Nat) : ∀ j, (allowTo c order is j = (-1, none)) ∨ ∃ b k, allowTo c order is j = (b, some k) ∧ 0 < b := by
  intro j
  induction j with
  | zero => exact .inl rfl
  | succ j ih =>
    by_cases hj : j < order.length
    · rw [allowTo_step (List.getElem?_eq_getElem hj)]
      have hr := reach_range c order[j] is
      unfold allowStep
      by_cases q : reachF c order[j] is ≠ 0 ∧ (allowTo c order is j).1 < reachF c order[j] is
      · rw [if_pos q]
        exact .inr ⟨_, _, rfl, by omega⟩
      · rw [if_neg q]; exact ih
    · have e : allowTo c order is (j + 1) = allowTo c order is j := by
        unfold allowTo
        rw [List.take_of_length_le (by omega), List.take_of_length_le (by omega)]
      rw [e]; exact ih
theorem RulesIn.at {w : World} {c : List Int} {nw : List (Addr × Obj)} : ∀ {ks : List Nat} {vs : List Value} {j : Nat} {v : Value}, RulesIn w c nw ks vs → vs[j]? = some v → ∃ k x, ks[j]? = some k ∧ v = .ref x ∧ RuleIn w c nw k x
  | [], [], _, _, _, h => by simp at h
  | k :: ks, v :: vs, 0, u, ⟨⟨x, e, h⟩, _⟩, hv => ⟨k, x, rfl, by rw [← e]; exact (Option.some.inj hv).symm, h⟩
  | k :: ks, v :: vs, j + 1, u, ⟨_, r⟩, hv => RulesIn.at r (j := j) hv
  | [], _ :: _, _, _, h, _ => nomatch h
  | _ :: _, [], _, _, h, _ => nomatch h
theorem truthy_name {prog : Program} {w : World} {A : Around} {E : Value → Shared → Prop} {s : Shared} {k : Nat} {t : Tok} {Q : Bool → Shared → Prop} (h : Q true { s with toks := s.toks + 1 + 1 }) : wpAny (model prog w) A (truthy (.str (nameStr [k]) t)) Q E s :=
  PySem.P.truthy_str (by show ¬ (((1 : Nat) : Int) ≥ 2 ^ 63); decide) h
section
set_option maxRecDepth 100000 in
set_option maxHeartbeats 8000000 in
theorem allow_spec (w : World) (c : List Int) (x : Addr) (rules : List Value) (order is : List Nat) (tn : Tok) (news : List (Addr × Obj)) (hB : BookAt w news x rules) (hR : RulesIn w c news order rules) (his : ∀ i ∈ is, i < 5) (hil : is.length ≤ 5) :
    CS w 49 [.ref x, .str (nameStr is) tn] news 8 72 (AllowV (allowF c order is)) := by
  k_with_none
  unfold CS; k_fill; w_on
  k_with "truthy str" => (k_dflt (refine truthy_name ?_); (try dsimp only))
  k_with "exec For Name Attribute cons nil" => (k_dflt (refine wpAny_For ?_ (by intro _; rfl)))
  k_with "getMethod ref" => (k_dflt (refine' method_shadow ?k1 ?k2 ?k3 ?k4 ?k5 ?k6 ?k7 ?_; (case k1 => k_asm); (case k2 => k_asm); (case k3 => k_inst); (case k4 => k_is); (case k5 => k_is); (case k6 => k_is); (case k7 => k_get); k_whole))
  k_with "getAttr ref" => (k_dflt (refine' get_shadow ?k1 ?k2 ?k3 ?k4 ?k5 ?k6 ?k7 ?k8 ?k9 ?k10 ?_; (case k1 => k_asm); (case k2 => k_asm); (case k3 => k_inst); (case k4 => k_is); (case k5 => k_is); (case k6 => k_is); (case k7 => k_is); (case k8 => k_is); (case k9 => k_get); (case k10 => k_handed); k_whole))
  k_with "callWith" => (k_extra "callWith ref")
  k_with "pyIter ref" => (refine Hold.on ?_)
  intro loose mean mg mb dp un gd cn cs a ccd cl outer A₀ base h₀ L m s Q E B F X N T hk hd hu hret
  obtain ⟨d1, u1, r1, n1, nu1, a1, a2, a3, a4, m11, m12, m13, m14⟩ := hB
  replace N := news_dup N m14
  replace N := news_dup N (.tail _ m12)
  replace N := news_dup N (.tail _ (.tail _ m11))
  (refine wpAny_call ?_; k_dflt (refine' code_def ?k1 ?k2 ?k3 ?k4 ?k5 ?kA ?kF ?kK ?k6 ?k7 ?k8 ?k9 ?kB ?_ ?c2 ?c3 ?c4 ?c5; (case kA | kF => exact rfl); (case kK => assumption); (case k1 | k2 | k3 | k4 | k5 => k_asm); (case k6 | k7 => k_is); (case k8 => ktr_room); (case k9 => exact BindsTo.of_eq rfl); (case c5 => decide); (case kB => exact locs rfl); (case c2 | c3 | c4 => exact rfl); k_whole))
  intro g' L' h' FG' F' N' B' X' T'
  ((try dsimp only); (try k_fold))
  obtain ⟨m0, hm1, hm2, F1⟩ : ∃ m0, m0 (Str.ofString "self") = some (.ref x) ∧ m0 (Str.ofString "filename") = some (.str (nameStr is) tn) ∧ Fr g' L' h' m0 := ⟨_, rfl, rfl, F'⟩
  clear F'
  k_with "eval Name" => (k_dflt (refine' ld ?k1 ?k2 ?_; (case k1 => k_asm); (case k2 => first | exact rfl | exact hm1 | exact hm2); k_whole))
  k_steps
  with_reducible rename News g' L' _ _ => N2
  with_reducible rename Fr g' L' _ _ => F2
  refine ⟨for_list rfl F2 N2 (.tail _ (.tail _ (.head _))) (fun j m' nw => (∀ p ∈ news, p ∈ nw) ∧ m' (Str.ofString "filename") = some (.str (nameStr is) tn) ∧ (∃ t, m' (Str.ofString "best_match") = some (.int (allowTo c order is j).1 t)) ∧ ∃ v, m' (Str.ofString "allowance") = some v ∧ AllowV (allowTo c order is j).2 v) ?j0 ?step ?hR (fun it s' q => q)⟩
  case j0 =>
    intro nw hs
    exact ⟨fun p hp => hs p (.tail _ (.tail _ (.tail _ hp))), hm2, ⟨_, rfl⟩, _, rfl, rfl⟩
  case hR =>
    rintro h9 tk9 m9 nw9 F9 N9 ⟨k1, k2, ⟨tb, k3⟩, va, k4, k5⟩
    k_with "eval Name" => (k_dflt (refine' ld ?k1 ?k2 ?_; (case k1 => k_asm); (case k2 => exact k4); k_whole))
    dsimp only
    k_steps
    refine hret _ _ _ (by assumption) (fun p hp => (show News h₀ L _ nw9 by assumption) p (k1 p hp)) ?_
    rw [hR.length, allowTo_all] at k5
    exact k5
  case step =>
    rintro I j v m1 nw1 h1 tk1 own hv ⟨k1, k2, ⟨tb, k3⟩, va, k4, k5⟩ hoff hown hlt F3 N3
    obtain ⟨k, xk, hok, rfl, core, hcore, hnil, dk, fk, l1, l2, t1, t2, t3, t4, t5, t6, tl, oF, fd, mk1, mk2, mk3, hFd, C⟩ := hR.at hv
    have hsub : ∀ p ∈ core, p ∈ own ++ nw1 := fun p hp => List.mem_append_right _ (k1 p (hcore p hp))
    replace N3 := news_dup N3 (hsub _ mk2)
    replace N3 := news_dup N3 (.tail _ (hsub _ mk1))
    have hrr := reach_range c k is
    obtain ⟨R, hRD⟩ : ∃ R, R = reachF c k is := ⟨_, rfl⟩
    obtain ⟨oFc, oFd, oFa, oFs⟩ := oF
    have hFd' : oFa = .func fd := hFd
    subst hFd'
    k_with "callWith ref" => (k_dflt (refine' callWith_F ?k1 ?_; (case k1 => exact FnAt.of (by k_asm) (.tail _ (.tail _ (hsub _ mk3)))); k_whole))
    k_with "FnAt" => exact FnAt.of (by k_asm) (.tail _ (.tail _ (hsub _ mk3)))
    k_with "call ref" => (k_dflt (show wpAny _ _ (call (Value.ref fk) [Value.str (nameStr is) tn]) _ _ _); k_dflt (refine' CS.use (C _ (fun p hp => ?hsb) is tn his hil) ?k1 ?k2 ?k3 ?k4 ?k5 ?kK ?kd ?ku ?_; ((case k1 | k2 | k3 | k4 | k5 => k_asm); (case kK => first | exact rfl | assumption); (case kd => ktr_room); (case ku => ktr_units)); (case hsb => exact .tail _ (.tail _ (hsub p hp))); (intro _ _ _ _ _ qo9; (try (obtain ⟨_, qe9⟩ := qo9; subst qe9)); (try (subst qo9)); (try dsimp only); (try k_fold))))
    k_with "eval Name" => (k_dflt (refine' ld ?k1 ?k2 ?_; (case k1 => k_asm); (case k2 => first | exact rfl | exact k2 | exact k3 | exact k4); k_whole))
    have e8 := allowTo_step (c := c) (is := is) hok
    rcases allowTo_ok c order is j with hst | ⟨b, k', hst, hb⟩
    · rw [hst] at k3 k5 e8
      have hva : va = .bool true := k5
      subst hva
      dsimp only at k3
      k_steps
      all_goals with_reducible rename News g' L' _ _ => N6
      all_goals with_reducible rename Fr g' L' _ _ => F6
      all_goals refine LEnd.on F6 N6 (fun p hp => .tail _ (.tail _ (List.mem_append_left _ hp))) fun nw' hs => ?_
      all_goals have up : ∀ p ∈ nw1, p ∈ nw' := fun p hp => hs p (.tail _ (.tail _ (List.mem_append_right _ hp))) fun q => hoff p hp (List.mem_singleton.mp q)
      · rename reachF c k is ≠ 0 => hz
        have hz2 : (-1 : Int) < reachF c k is := by omega
        rw [e8]
        unfold allowStep
        refine ⟨fun p hp => up p (k1 p hp), k2, ⟨?tA, ?h1⟩, ?vB, ?h2, ?h3⟩
        case h1 => rw [if_pos ⟨hz, hz2⟩]; rfl
        case h2 => rfl
        case h3 => rw [if_pos ⟨hz, hz2⟩]; exact ⟨_, rfl⟩
      · rename reachF c k is = 0 => hz
        rw [e8]
        unfold allowStep
        refine ⟨fun p hp => up p (k1 p hp), k2, ⟨tb, ?_⟩, _, k4, ?_⟩
        · rw [if_neg (fun q => q.1 hz)]; exact k3
        · rw [if_neg (fun q => q.1 hz)]; exact rfl
    · rw [hst] at k3 k5 e8
      obtain ⟨tv, hva⟩ := k5
      subst hva
      dsimp only at k3
      k_steps
      all_goals with_reducible rename News g' L' _ _ => N6
      all_goals with_reducible rename Fr g' L' _ _ => F6
      all_goals refine LEnd.on F6 N6 (fun p hp => .tail _ (.tail _ (List.mem_append_left _ hp))) fun nw' hs => ?_
      all_goals have up : ∀ p ∈ nw1, p ∈ nw' := fun p hp => hs p (.tail _ (.tail _ (List.mem_append_right _ hp))) fun q => hoff p hp (List.mem_singleton.mp q)
      · rename reachF c k is ≠ 0 => hz
        rename b < reachF c k is => hz2
        rw [e8]
        unfold allowStep
        refine ⟨fun p hp => up p (k1 p hp), k2, ⟨?tA2, ?h12⟩, ?vB2, ?h22, ?h32⟩
        case h12 => rw [if_pos ⟨hz, hz2⟩]; rfl
        case h22 => rfl
        case h32 => rw [if_pos ⟨hz, hz2⟩]; exact ⟨_, rfl⟩
      · rename ¬ b < reachF c k is => hz
        rw [e8]
        unfold allowStep
        refine ⟨fun p hp => up p (k1 p hp), k2, ⟨tb, ?_⟩, _, k4, ?_⟩
        · rw [if_neg (fun q => hz q.2)]; exact k3
        · rw [if_neg (fun q => hz q.2)]; exact ⟨_, rfl⟩
      · rename ¬ b < reachF c k is => hz
        rw [e8]
        unfold allowStep
        refine ⟨fun p hp => up p (k1 p hp), k2, ⟨tb, ?_⟩, _, k4, ?_⟩
        · rw [if_neg (fun q => hz q.2)]; exact k3
        · rw [if_neg (fun q => hz q.2)]; exact ⟨_, rfl⟩
      · rename reachF c k is = 0 => hz
        rw [e8]
        unfold allowStep
        refine ⟨fun p hp => up p (k1 p hp), k2, ⟨tb, ?_⟩, _, k4, ?_⟩
        · rw [if_neg (fun q => q.1 hz)]; exact k3
        · rw [if_neg (fun q => q.1 hz)]; exact ⟨_, rfl⟩
end
-- Name
noncomputable def NameV : Option (List Nat) → Value → Prop
  | none, v => v = .none
  | some is, v => ∃ t, v = .str (nameStr is) t
theorem allowF_mem {c : List Int} {order is : List Nat} {k : Nat} (h : allowF c order is = some k) : k ∈ order := by
  have : ∀ j b k, allowTo c order is j = (b, some k) → k ∈ order := by
    intro j
    induction j with
    | zero => intro b k h; cases h
    | succ j ih =>
      intro b k h
      by_cases hj : j < order.length
      · rw [allowTo_step (List.getElem?_eq_getElem hj)] at h
        unfold allowStep at h
        split at h
        · cases h; exact List.getElem_mem hj
        · exact ih b k h
      · have e : allowTo c order is (j + 1) = allowTo c order is j := by
          unfold allowTo
          rw [List.take_of_length_le (by omega), List.take_of_length_le (by omega)]
        rw [e] at h
        exact ih b k h
  rw [← allowTo_all] at h
  exact this order.length (allowTo c order is order.length).1 k (Prod.ext rfl h)
theorem name_app (is js : List Nat) : nameStr is ++ nameStr js = nameStr (is ++ js) := by
  show Str.mk _ = Str.mk _
  simp [nameStr]
theorem name_length (is : List Nat) : (nameStr is).length = is.length := by simp [nameStr, Str.length]
section
set_option maxRecDepth 100000 in
set_option maxHeartbeats 8000000 in
theorem name_spec (w : World) (c : List Int) (x : Addr) (rules : List Value) (order : List Nat) (news : List (Addr × Obj)) (hB : BookAt w news x rules) (hR : RulesIn w c news order rules) (h5 : ∀ i ∈ order, i < 5) :
    CS w 152 [.ref x] news 12 100 (NameV (nameRun c order 5 [])) := by
  k_with_none
  unfold CS; k_fill; w_on
  k_with "exec For Name Call cons nil" => (k_dflt (refine wpAny_For ?_ (by intro _; rfl)))
  k_with "pyIter ref" => (refine Hold.on ?_)
  intro loose mean mg mb dp un gd cn cs a ccd cl outer A₀ base h₀ L m s Q E B F X N T hk hd hu hret
  have hB0 := hB
  obtain ⟨d1, u1, r1, n1, nu1, a1, a2, a3, a4, m11, m12, m13, m14⟩ := hB
  replace N := news_dup N m12
  replace N := news_dup N (.tail _ m11)
  (refine wpAny_call ?_; k_dflt (refine' code_def ?k1 ?k2 ?k3 ?k4 ?k5 ?kA ?kF ?kK ?k6 ?k7 ?k8 ?k9 ?kB ?_ ?c2 ?c3 ?c4 ?c5; (case kA | kF => exact rfl); (case kK => assumption); (case k1 | k2 | k3 | k4 | k5 => k_asm); (case k6 | k7 => k_is); (case k8 => ktr_room); (case k9 => exact BindsTo.of_eq rfl); (case c5 => decide); (case kB => exact locs rfl); (case c2 | c3 | c4 => exact rfl); k_whole))
  intro g' L' h' FG' F' N' B' X' T'
  ((try dsimp only); (try k_fold))
  obtain ⟨m0, hm1, F1⟩ : ∃ m0, m0 (Str.ofString "book") = some (.ref x) ∧ Fr g' L' h' m0 := ⟨_, rfl, F'⟩
  clear F'
  k_steps
  with_reducible rename News g' L' _ _ => N2
  with_reducible rename Fr g' L' _ _ => F2
  with_reducible rename IsRange _ _ _ _ _ _ _ _ => R2
  refine ⟨for_range 5 rfl R2 (by decide) (by decide) F2 N2 (fun i m' nw => (∀ p ∈ news, p ∈ nw) ∧ m' (Str.ofString "book") = some (.ref x) ∧ ∃ is t, m' (Str.ofString "name") = some (.str (nameStr is) t) ∧ is.length = i ∧ (∀ k ∈ is, k < 5) ∧ nameRun c order (5 - i) is = nameRun c order 5 []) ?j0 ?step ?hR (fun it s' q => q)⟩
  case j0 =>
    intro nw hs
    exact ⟨fun p hp => hs p (.tail _ (.tail _ hp)), hm1, [], _, rfl, rfl, (fun k hk => nomatch hk), rfl⟩
  case hR =>
    rintro h9 tk9 m9 nw9 F9 N9 ⟨k1, k2, is, t, k3, k4, k5, k6⟩
    dsimp only
    k_steps
    refine hret _ _ _ (by assumption) (fun p hp => (show News h₀ L _ nw9 by assumption) p (k1 p hp)) ?_
    rw [← k6]
    rfl
  case step =>
    rintro I i t m1 nw1 h1 tk1 own hi ⟨k1, k2, is, tn, k3, k4, k5, k6⟩ hoff hown hlt F3 N3
    have hsub : ∀ p ∈ news, p ∈ own ++ nw1 := fun p hp => List.mem_append_right _ (k1 p hp)
    replace N3 := news_dup N3 (hsub _ m12)
    replace N3 := news_dup N3 (.tail _ (hsub _ m11))
    have hl5 : is.length ≤ 5 := by omega
    have hnl : (nameStr is).length ≤ 8 := by rw [name_length]; omega
    have hB2 : ∀ (p q : Addr × Obj), BookAt w (p :: q :: (own ++ nw1)) x rules := fun p q => hB0.mono fun z hz => .tail _ (.tail _ (hsub z hz))
    have hR2 : ∀ (p q : Addr × Obj), RulesIn w c (p :: q :: (own ++ nw1)) order rules := fun p q => hR.mono fun z hz _ => .tail _ (.tail _ (hsub z hz))
    k_with "eval Name" => (k_dflt (refine' ld ?k1 ?k2 ?_; (case k1 => k_asm); (case k2 => first | exact rfl | exact k2 | exact k3); k_whole))
    cases hal : allowF c order is with
    | none =>
      k_with "call ref" => (k_dflt (refine' CS.use (allow_spec w c x rules order is _ _ (hB2 _ _) (hR2 _ _) k5 hl5) ?k1 ?k2 ?k3 ?k4 ?k5 ?kK ?kd ?ku ?_; ((case k1 | k2 | k3 | k4 | k5 => k_asm); (case kK => first | exact rfl | assumption); (case kd => ktr_room); (case ku => ktr_units))); intro r9 h9 tk9 F9 N9 o9; (rw [hal] at o9); (have o9' : r9 = .bool true := o9); subst o9'; (try dsimp only); (try k_fold))
      k_steps
      dsimp only [LEnd]
      k_steps
      refine hret _ _ _ (by assumption) (fun p hp => (show News h₀ L _ (_ :: _ :: (own ++ nw1)) by assumption) p (.tail _ (.tail _ (hsub p hp)))) ?_
      rw [← k6, show 5 - i = (4 - i) + 1 by omega, nameRun, hal]
      exact ⟨_, rfl⟩
    | some k =>
      k_with "call ref" => (k_dflt (first
        | (refine' CS.use (allow_spec w c x rules order is _ _ (hB2 _ _) (hR2 _ _) k5 hl5) ?k1 ?k2 ?k3 ?k4 ?k5 ?kK ?kd ?ku ?_; ((case k1 | k2 | k3 | k4 | k5 => k_asm); (case kK => first | exact rfl | assumption); (case kd => ktr_room); (case ku => ktr_units)); intro r9 h9 tk9 F9 N9 o9; (rw [hal] at o9); (obtain ⟨t9, o9'⟩ : ∃ t, r9 = .str (nameStr [k]) t := o9); subst o9'; (try dsimp only); (try k_fold))
        | (refine' CS.use (concat_spec w _ (nameStr is) (nameStr [k]) _ _ hnl (by rw [name_length]; exact Nat.le_add_left 1 7)) ?k1 ?k2 ?k3 ?k4 ?k5 ?kK ?kd ?ku ?_; ((case k1 | k2 | k3 | k4 | k5 => k_asm); (case kK => first | exact rfl | assumption); (case kd => ktr_room); (case ku => ktr_units)); (intro _ _ _ _ _ qo9; (try (obtain ⟨_, qe9⟩ := qo9; subst qe9)); (try (subst qo9)); (try dsimp only); (try k_fold)))))
      k_steps
      with_reducible rename News g' L' _ _ => N6
      with_reducible rename Fr g' L' _ _ => F6
      refine LEnd.on F6 N6 (fun p hp => .tail _ (.tail _ (List.mem_append_left _ hp))) fun nw' hs => ?_
      have up : ∀ p ∈ nw1, p ∈ nw' := fun p hp => hs p (.tail _ (.tail _ (List.mem_append_right _ hp))) fun q => hoff p hp (List.mem_singleton.mp q)
      refine ⟨fun p hp => up p (k1 p hp), k2, is ++ [k], ?tA, ?h1, by rw [List.length_append, k4]; rfl, ?_, ?_⟩
      case h1 => rw [← name_app]; rfl
      · intro j hj
        rcases List.mem_append.mp hj with hj | hj
        · exact k5 j hj
        · rw [List.mem_singleton.mp hj]; exact h5 k (allowF_mem hal)
      · rw [← k6, show 5 - i = (5 - (i + 1)) + 1 by omega]
        show _ = nameRun c order ((5 - (i + 1)) + 1) is
        rw [nameRun, hal]
end
-- Merges
section
variable {prog : Program} {w : World} {A : Around} {E : Value → Shared → Prop} {s : Shared} {h₀ : Heap} {L : Addr} {m : Str → Option Value} {news : List (Addr × Obj)} {Q : Value → Shared → Prop}
/-- an empty list of any ledger is extended by another list of it -/
theorem extend_G {l b : Addr} {ys : List Value} {n n2 : Nat} (F : Fr h₀ L s.heap m) (N : News h₀ L s.heap news) (hl : (l, W.listOf #[] n) ∈ news) (hb : (b, W.listOf ys.toArray n2) ∈ news) (h0 : 0 < ys.length) (h8 : ys.length ≤ 8)
    (h : ∀ h' nw, Fr h₀ L h' m → News h₀ L h' nw → (l, W.listOf ys.toArray (n + 1)) ∈ nw → (∀ p ∈ news, p.1 ≠ l → p ∈ nw) → Q .none { s with heap := h' }) :
    wpAny (model prog w) A (call (.builtin "list.extend") [.ref l, .ref b]) Q E s := by
  have hbl : b ≠ l := fun e => by
    subst e
    exact noNil_list h0 n (news_one N hb hl)
  refine kl_extend (news := (l, W.listOf #[] n) :: news.filter fun p => p.1 ≠ l) (its := #[]) (its2 := ys.toArray) (l := ys) F (news_sub N fun p hp => ?_) (.tail _ (List.mem_filter.mpr ⟨hb, by simpa using hbl⟩)) (by simp) (by simp; intro e; rw [e] at h0; exact absurd h0 (Nat.lt_irrefl 0)) (Upd.head fun p hp => by simpa using (List.mem_filter.mp hp).2) (by simp) (by simp) (by show 0 + ys.toArray.size ≤ _; rw [List.size_toArray, sizeLine_eq]; omega) fun h' F' N' => h h' _ F' N' (.head _) fun p hp hne => .tail _ (List.mem_filter.mpr ⟨hp, by simpa using hne⟩)
  rcases List.mem_cons.mp hp with rfl | hp
  · exact hl
  · exact (List.mem_filter.mp hp).1
end
theorem MergeCS.use {w : World} {e1 e2 : Addr} {news : List (Addr × Obj)} {Out : Addr → List (Addr × Obj) → Prop} (C : MergeCS w e1 e2 news Out) {loose : List Str} {mean : ExcName → Option Value} {mg mb : Str → Option Value} {dp un : Nat} {gd : Option (List Code)} {cn : Str} {cs : Scope} {a : Addr} {ccd : Value} {cl : List (Str × Addr)} {outer : List Env} {A₀ : Around} {base h₀ : Heap} {L : Addr} {m : Str → Option Value} {s : Shared} {Q E : Value → Shared → Prop}
    (B : Below A₀ base outer h₀) (F : Fr h₀ L s.heap m) (X : (hd.heap_39 w.params).In h₀) (N : News h₀ L s.heap news) (T : Top topProg loose mean mg mb h₀) (hk : cs.kind = .function) (hd : dp + 8 < recursionLimit) (hu : un + 40 < cLine)
    (ret : ∀ x h' tk' nw, Fr h₀ L h' m → News h₀ L h' nw → (∀ p ∈ news, p ∈ nw) → Out x nw → Q (.ref x) { s with heap := h', toks := tk' }) :
    wpAny (model (PySem.Challenge.rw_rl0026_01.row.prog) w) (ktrTop dp un gd cn cs L a ccd cl outer) (call (.ref 63) [.ref e1, .ref e2]) Q E s :=
  C loose mean mg mb dp un gd cn cs a ccd cl outer A₀ base h₀ L m s Q E B F X N T hk hd hu ret
theorem RulesIn.three {w : World} {c : List Int} {nw : List (Addr × Obj)} {a b d : Nat} : ∀ {vs : List Value}, RulesIn w c nw [a, b, d] vs → ∃ x y z, vs = [.ref x, .ref y, .ref z] ∧ RuleIn w c nw a x ∧ RuleIn w c nw b y ∧ RuleIn w c nw d z
  | [_, _, _], ⟨⟨x, e1, h1⟩, ⟨y, e2, h2⟩, ⟨z, e3, h3⟩, _⟩ => ⟨x, y, z, by rw [e1, e2, e3], h1, h2, h3⟩
  | [], h => nomatch h
  | [_], h => nomatch h.2
  | [_, _], h => nomatch h.2.2
  | _ :: _ :: _ :: _ :: _, h => nomatch h.2.2.2
theorem RulesIn.two {w : World} {c : List Int} {nw : List (Addr × Obj)} {a b : Nat} : ∀ {vs : List Value}, RulesIn w c nw [a, b] vs → ∃ x y, vs = [.ref x, .ref y] ∧ RuleIn w c nw a x ∧ RuleIn w c nw b y
  | [_, _], ⟨⟨x, e1, h1⟩, ⟨y, e2, h2⟩, _⟩ => ⟨x, y, by rw [e1, e2], h1, h2⟩
  | [], h => nomatch h
  | [_], h => nomatch h.2
  | _ :: _ :: _ :: _, h => nomatch h.2.2
abbrev MergesCS (w : World) (c : List Int) (cA : Addr) (news : List (Addr × Obj)) : Prop :=
  ∀ (loose : List Str) (mean : ExcName → Option Value) (mg mb : Str → Option Value) (dp un : Nat) (gd : Option (List Code)) (cn : Str) (cs : Scope) (a : Addr) (ccd : Value) (cl : List (Str × Addr)) (outer : List Env) (A₀ : Around) (base h₀ : Heap) (L : Addr) (m : Str → Option Value) (s : Shared) (Q E : Value → Shared → Prop),
    Below A₀ base outer h₀ → Fr h₀ L s.heap m → (hd.heap_39 w.params).In h₀ → News h₀ L s.heap news → Top topProg loose mean mg mb h₀ → cs.kind = .function → dp + 12 < recursionLimit → un + 60 < cLine → CodeHd base 139 135 →
    (∀ lr n b1 b2 x0 x1 x2 x3 x4 h' tk' nw, Fr h₀ L h' m → News h₀ L h' nw → (∀ p ∈ news, p.1 ≠ 135 → p ∈ nw) → (lr, W.listOf #[.ref b1, .ref b2] n) ∈ nw → BookAt w nw b1 [.ref x0, .ref x2, .ref x4, .ref x1, .ref x3] → BookAt w nw b2 [.ref x1, .ref x3, .ref x0, .ref x2, .ref x4] →
      RuleIn w c nw 0 x0 → RuleIn w c nw 1 x1 → RuleIn w c nw 2 x2 → RuleIn w c nw 3 x3 → RuleIn w c nw 4 x4 → LamTab nw → Q (.ref lr) { s with heap := h', toks := tk' }) →
    wpAny (model (PySem.Challenge.rw_rl0026_01.row.prog) w) (ktrTop dp un gd cn cs L a ccd cl outer) (call (.ref 145) [.ref cA]) Q E s

set_option maxRecDepth 100000 in
set_option maxHeartbeats 8000000 in
theorem merges_spec (w : World) (cA : Addr) (cvs : List Value) (c : List Int) (cn : Nat) (news : List (Addr × Obj)) (hc : (cA, W.listOf cvs.toArray cn) ∈ news) (hI : IntsAre cvs c) (hlen : c.length = 5) (h135 : (135, tabObj #[]) ∈ news) (hcA : cA ≠ 135) : MergesCS w c cA news := by
  k_with_none
  unfold MergesCS; k_fill; w_on
  intro loose mean mg mb dp un gd cn' cs a ccd cl outer A₀ base h₀ L m s Q E B F X N T hk hd hu codeHd hret
  refine wpAny_call ?_
  k_dflt (refine' code_defC ?k1 ?k2 ?k3 ?k4 ?k5 ?kA ?kF ?kK ?k6 ?k7 ?k8 ?k9 ?kB ?kD ?_ ?c2 ?c3 ?c4; (case kA => exact rfl); (case kF => exact rfl); (case kK => assumption); (case k1 => k_asm); (case k2 => k_asm); (case k3 => k_asm); (case k4 => k_asm); (case k5 => k_asm); (case k6 => k_is); (case k7 => k_is); (case k8 => ktr_room); (case k9 => exact BindsTo.of_eq rfl); (case kB => exact rfl); (case kD => decide +kernel); (case c2 => exact rfl); (case c3 => exact rfl); (case c4 => exact rfl); k_whole)
  intro g' L' h' tk' cells' FG' F' N' Y' B' X' T' l1
  have hL135 : 135 < L' := l1 _ h135
  k_cells Y'
  rename_i oC dC
  have hdC : oC.data = Data.cell (some (.ref cA)) := dC
  simp only [List.cons_append, List.nil_append] at N'
  dsimp only
  (try k_fold)
  obtain ⟨m0, hm0, F1⟩ : ∃ m0, (m0 = m0) ∧ Fr g' L' h' m0 := ⟨_, rfl, F'⟩
  clear F' hm0
  k_with "eval ListComp" => (k_dflt (refine ListComp_Tup (F₀ := by k_asm) (by with_unfolding_all rfl) (by decide) (by rfl) (by decide) (by rfl) ?_))
  k_with "call ref" => (k_dflt (refine' EntryCS.use (entry_spec _ _) ?k1 ?k2 ?k3 ?k4 ?k5 ?kK ?kd ?ku ?_; ((case k1 | k2 | k3 | k4 | k5 => k_asm); (case kK => first | exact rfl | assumption); (case kd => ktr_room); (case ku => ktr_units))); intro x9 d9 l91 l92 t91 t92 t93 t94 h9 tk9 F9 N9 lt9 dx9 xl9 ll9; (try dsimp only); (try k_fold))
  k_steps
  with_reducible rename News g' L' _ (_ :: _) => N1
  with_reducible rename Fr g' L' _ _ => F1
  rename_i x1 d1 u1 r1 ta1 tb1 tc1 td1 hh1 tk1 lt1 dx1 xl1 ll1 qk1 ek1 ha1 tka ha2 D1 hb1 lD1
  generalize hnw : (_ :: _ : List (Addr × Obj)) = nw1 at N1
  have hin : ∀ p ∈ _, p ∈ nw1 := fun p hp => hnw ▸ hp
  have hc1 : (cA, W.listOf cvs.toArray cn) ∈ nw1 := by rw [← hnw]; simp only [List.mem_cons, hc, or_true]
  have h1351 : (135, tabObj #[]) ∈ nw1 := by rw [← hnw]; simp only [List.mem_cons, h135, or_true]
  have hnews1 : ∀ p ∈ news, p ∈ nw1 := by rw [← hnw]; intro p hp; simp only [List.mem_cons, hp, or_true]
  have mC1 : (L' + 1, oC) ∈ nw1 := by rw [← hnw]; k_mem
  have mx1 : (x1, instObj 52 d1) ∈ nw1 := by rw [← hnw]; k_mem
  have md1 : (d1, _) ∈ nw1 := hin _ (.tail _ (.tail _ (.tail _ (.tail _ (.tail _ (.tail _ (.tail _ (.tail _ (.head _)))))))))
  have mu1 : (u1, W.listOf #[] 0) ∈ nw1 := by rw [← hnw]; k_mem
  have mr1 : (r1, W.listOf #[] 0) ∈ nw1 := by rw [← hnw]; k_mem
  have mx2 : (x9, instObj 52 d9) ∈ nw1 := by rw [← hnw]; k_mem
  have md2 : (d9, _) ∈ nw1 := hin _ (.tail _ (.tail _ (.tail _ (.tail _ (.head _)))))
  have mu2 : (l91, W.listOf #[] 0) ∈ nw1 := by rw [← hnw]; k_mem
  have mr2 : (l92, W.listOf #[] 0) ∈ nw1 := by rw [← hnw]; k_mem
  have mT1 : (D1, _) ∈ nw1 := hin _ (.head _)
  have q1 : L' + 1 < d1 := lt1 _ (.head _)
  have q2 : r1 < d9 := lt9 _ (.head _)
  have q4 : L' < r1 := Nat.lt_trans (Nat.lt_of_succ_lt q1) (Nat.lt_trans dx1 (Nat.lt_trans xl1 ll1))
  have q5 : L' < l92 := Nat.lt_trans q4 (Nat.lt_trans q2 (Nat.lt_trans dx9 (Nat.lt_trans xl9 ll9)))
  have q6 : r1 ≠ 135 := Nat.ne_of_gt (Nat.lt_trans hL135 q4)
  have q7 : l92 ≠ 135 := Nat.ne_of_gt (Nat.lt_trans hL135 q5)
  have q3 : D1 ≠ 135 := Nat.ne_of_gt (Nat.lt_trans hL135 (Nat.lt_trans q5 lD1.1))
  have neC : L' + 1 ≠ 135 := Nat.ne_of_gt (Nat.lt_succ_of_lt hL135)
  have hlN : ∀ p ∈ news, p.1 < L' := l1
  refine TupAt.intro rfl F1 N1 (hin _ (.head _)) (by rw [sizeLine_eq]; show 3 ≤ _; decide) ?_
  intro g9
  refine rest_grow (n := 3) (RulesJ w c nw1 [0, 2, 4]) ?turn ?fin 3 0 [] nw1 rfl ⟨fun p hp _ => hp, fun k hk => .inl ⟨by simpa using hk.symm, h1351⟩, fun h => absurd h (Nat.lt_irrefl 0), trivial⟩
  case turn =>
    intro i ys nw v I oI C oC D m₂ h tk E' hi hj hP hC hx F N off
    have mC := hj.1 _ mC1 (.inl neC)
    have mc := hj.1 _ hc1 (.inl hcA)
    replace N := news_dup N (.tail _ (.tail _ (.tail _ mC)))
    obtain ⟨k, tv, hk, hk5, rfl⟩ : ∃ (k : Nat) (tv : Tok), [0, 2, 4][i]? = some k ∧ k < 5 ∧ v = .int k tv := by
      rcases (show i = 0 ∨ i = 1 ∨ i = 2 by omega) with rfl | rfl | rfl
      · exact ⟨0, _, rfl, by decide, (Option.some.inj hP).symm⟩
      · exact ⟨2, _, rfl, by decide, (Option.some.inj hP).symm⟩
      · exact ⟨4, _, rfl, by decide, (Option.some.inj hP).symm⟩
    obtain ⟨o135, m135⟩ := (hj.2.1 k hk).at
    have off' := off.mem
    have o3 := off' _ m135
    k_with "call ref" => (k_dflt (refine' RuleG.use (ruleG_any w cA cvs c cn _ nw (fun p hp => ?hsd) mc hI hlen hcA k hk5 (hj.2.1 k hk) _) ?k1 ?k2 ?k3 ?k4 ?k5 ?kK ?kd ?ku ?kC ?_; ((case k1 | k2 | k3 | k4 | k5 => k_asm); (case kK => first | exact rfl | assumption); (case kd => ktr_room); (case ku => ktr_units)); (case kC => exact codeHd); (case hsd => simp only [List.mem_cons, hp, or_true])); intro x5 h5 tk5 nw5 core5 F5 N5 hs5 hcr5 hn5 hl5 hr5; (try dsimp only); (try k_fold))
    k_steps
    refine TurnOut.intro F5 N5 (hs5 _ (.tail _ (.head _)) (.inl (Ne.symm o3.1))) (hs5 _ (.tail _ (.tail _ (.head _))) (.inl (Ne.symm o3.2.1))) (hs5 _ (.tail _ (.tail _ (.tail _ (.head _)))) (.inl (Ne.symm o3.2.2))) fun nw'' hs'' => ?_
    have hJ := hj.next hk (fun j k' h' => by match j, h' with | 0, h' => (cases h'; decide) | 1, h' => (cases h'; decide) | j + 2, h' => exact nomatch h') off (fun p hp hne => hs5 p (.tail _ hp) hne) (fun p hp => ⟨(hcr5 p hp).1, (hcr5 p hp).2.imp id (Or.imp id fun e q hq hne => e q (.tail _ hq) hne)⟩) hn5 hl5 hr5 hs''
    exact ⟨⟨_, hJ.1 _ mT1 (.inl q3), rfl, _, rfl⟩, hJ⟩
  case fin =>
    intro ys nw hj
    unfold LCg.FinE
    intro D9 h9 tk9 F9 N9 o9
    dsimp only
    obtain ⟨x0, x2, x4, rfl, R0, R2, R4⟩ := RulesIn.three hj.2.2.2
    have keep : ∀ p ∈ nw1, p.1 ≠ 135 → p ∈ nw := fun p hp hne => hj.1 p hp (.inl hne)
    have hr1 : (r1, W.listOf #[] 0) ∈ nw := keep _ mr1 q6
    k_with "call builtin:list.extend" => (k_dflt (refine extend_G (l := r1) (b := D9) (n := 0) (ys := [.ref x0, .ref x2, .ref x4]) (n2 := 3) F9 N9 (.tail _ hr1) (.head _) (Nat.succ_pos _) (Nat.le_of_ble_eq_true rfl) ?_); intro h6 nw6 F6 N6 m6 hs6)
    k_steps
    have hL : LamTab nw := hj.2.2.1 (by decide)
    have k6 : ∀ p ∈ nw, (∀ n, p.2 ≠ W.listOf #[] n) → p ∈ nw6 := fun p hp hn => hs6 p (.tail _ hp) fun e => by
      obtain ⟨a, o⟩ := p
      subst e
      exact hn 0 (news_one N9 (.tail _ hp) (.tail _ hr1))
    have keep6 : ∀ p ∈ nw1, p.1 ≠ 135 → p.1 ≠ r1 → p ∈ nw6 := fun p hp h1 h2 => hs6 p (.tail _ (keep p hp h1)) h2
    replace hL := hL.mono k6
    replace R0 := R0.mono k6
    replace R2 := R2.mono k6
    replace R4 := R4.mono k6
    have gtL : ∀ {a : Nat}, L' < a → a ≠ 135 := fun h => Nat.ne_of_gt (Nat.lt_trans hL135 h)
    have q8 : L' < d1 := Nat.lt_of_succ_lt q1
    have q9 : L' < d9 := Nat.lt_trans q4 q2
    have gtr : ∀ {a : Nat}, r1 < a → a ≠ r1 := fun h => Nat.ne_of_gt h
    have q10 : r1 < x9 := Nat.lt_trans q2 dx9
    have q11 : r1 < l92 := Nat.lt_trans q10 (Nat.lt_trans xl9 ll9)
    have nx2 := keep6 _ mx2 (gtL (Nat.lt_trans q9 dx9)) (gtr q10)
    have nd2 := keep6 _ md2 (gtL q9) (gtr q2)
    have nr2 := keep6 _ mr2 q7 (gtr q11)
    have nC := keep6 _ mC1 neC (Nat.ne_of_lt (Nat.lt_trans q1 (Nat.lt_trans dx1 (Nat.lt_trans xl1 ll1))))
    have nx1 := keep6 _ mx1 (gtL (Nat.lt_trans q8 dx1)) (Nat.ne_of_lt (Nat.lt_trans xl1 ll1))
    have nd1 := keep6 _ md1 (gtL q8) (Nat.ne_of_lt (Nat.lt_trans dx1 (Nat.lt_trans xl1 ll1)))
    have nu1 := keep6 _ mu1 (gtL (Nat.lt_trans q8 (Nat.lt_trans dx1 xl1))) (Nat.ne_of_lt ll1)
    have nu2 := keep6 _ mu2 (gtL (Nat.lt_trans q9 (Nat.lt_trans dx9 xl9))) (gtr (Nat.lt_trans q10 xl9))
    have nc := hs6 _ (.tail _ (hj.1 _ hc1 (.inl hcA))) (Nat.ne_of_lt (Nat.lt_trans (hlN _ hc) q4))
    have nN : ∀ p ∈ news, p.1 ≠ 135 → p ∈ nw6 := fun p hp h => keep6 p (hnews1 p hp) h (Nat.ne_of_lt (Nat.lt_trans (hlN p hp) q4))
    clear hs6 keep6 keep N9 F9 hj o9 k6 hr1 mT1 hin
    replace N6 := news_dup N6 nC
    replace N6 := news_dup N6 (.tail _ nr2)
    replace N6 := news_dup N6 (.tail _ (.tail _ nd2))
    replace N6 := news_dup N6 (.tail _ (.tail _ (.tail _ nx2)))
    k_steps
    with_reducible rename News g' L' _ ((_, Obj.mk _ _ _ _) :: _) => N7
    with_reducible rename Fr g' L' _ _ => F7
    rename_i D2 hb2 lD2
    generalize hnw7 : (_ :: _ : List (Addr × Obj)) = nw7 at N7
    have hin7 : ∀ p ∈ _, p ∈ nw7 := fun p hp => hnw7 ▸ hp
    have up7 : ∀ p ∈ nw6, p ∈ nw7 := by rw [← hnw7]; intro p hp; simp only [List.mem_cons, hp, or_true]
    have mT2 : (D2, _) ∈ nw7 := hin7 _ (.head _)
    have hL7 : LamTab nw7 := hL.mono fun p hp _ => up7 p hp
    have q13 : D2 ≠ 135 := Nat.ne_of_gt (Nat.lt_trans hL135 (Nat.lt_trans q5 lD2.2.2.1))
    refine TupAt.intro rfl F7 N7 (hin7 _ (.head _)) (by rw [sizeLine_eq]; show 2 ≤ _; decide) ?_
    intro g10
    refine rest_grow (n := 2) (RulesJ w c nw7 [1, 3]) ?turn ?fin 2 0 [] nw7 rfl ⟨fun p hp _ => hp, fun k hk => .inr ⟨by simp at hk; omega, hL7⟩, fun h => absurd h (Nat.lt_irrefl 0), trivial⟩
    case turn =>
      intro i ys nw v I oI C oC8 D m₂ h tk E' hi hj hP hC hx F N off
      have mC := hj.1 _ (up7 _ nC) (.inl neC)
      have mc := hj.1 _ (up7 _ nc) (.inl hcA)
      replace N := news_dup N (.tail _ (.tail _ (.tail _ mC)))
      obtain ⟨k, tv, hk, hk5, rfl⟩ : ∃ (k : Nat) (tv : Tok), [1, 3][i]? = some k ∧ k < 5 ∧ v = .int k tv := by
        rcases (show i = 0 ∨ i = 1 by omega) with rfl | rfl
        · exact ⟨1, _, rfl, by decide, (Option.some.inj hP).symm⟩
        · exact ⟨3, _, rfl, by decide, (Option.some.inj hP).symm⟩
      obtain ⟨o135, m135⟩ := (hj.2.1 k hk).at
      have off' := off.mem
      have o3 := off' _ m135
      k_with "call ref" => (k_dflt (refine' RuleG.use (ruleG_any w cA cvs c cn _ nw (fun p hp => ?hsd) mc hI hlen hcA k hk5 (hj.2.1 k hk) _) ?k1 ?k2 ?k3 ?k4 ?k5 ?kK ?kd ?ku ?kC ?_; ((case k1 | k2 | k3 | k4 | k5 => k_asm); (case kK => first | exact rfl | assumption); (case kd => ktr_room); (case ku => ktr_units)); (case kC => exact codeHd); (case hsd => simp only [List.mem_cons, hp, or_true])); intro x5 h5 tk5 nw5 core5 F5 N5 hs5 hcr5 hn5 hl5 hr5; (try dsimp only); (try k_fold))
      k_steps
      refine TurnOut.intro F5 N5 (hs5 _ (.tail _ (.head _)) (.inl (Ne.symm o3.1))) (hs5 _ (.tail _ (.tail _ (.head _))) (.inl (Ne.symm o3.2.1))) (hs5 _ (.tail _ (.tail _ (.tail _ (.head _)))) (.inl (Ne.symm o3.2.2))) fun nw'' hs'' => ?_
      have hJ := hj.next hk (fun j k' h' => by match j, h' with | 0, h' => (cases h'; decide) | j + 1, h' => exact nomatch h') off (fun p hp hne => hs5 p (.tail _ hp) hne) (fun p hp => ⟨(hcr5 p hp).1, (hcr5 p hp).2.imp id (Or.imp id fun e q hq hne => e q (.tail _ hq) hne)⟩) hn5 hl5 hr5 hs''
      exact ⟨⟨_, hJ.1 _ mT2 (.inl q13), rfl, _, rfl⟩, hJ⟩
    case fin =>
      intro ys nw hj
      unfold LCg.FinE
      intro D8 h8 tk8 F8 N8 o8
      dsimp only
      obtain ⟨x1', x3, rfl, R1, R3⟩ := RulesIn.two hj.2.2.2
      have keep : ∀ p ∈ nw6, p ∈ nw := fun p hp => hj.1 p (up7 p hp) (.inr (by decide))
      have hr2 : (l92, W.listOf #[] 0) ∈ nw := keep _ nr2
      k_with "call builtin:list.extend" => (k_dflt (refine extend_G (l := l92) (b := D8) (n := 0) (ys := [.ref x1', .ref x3]) (n2 := 2) F8 N8 (.tail _ hr2) (.head _) (Nat.succ_pos _) (Nat.le_of_ble_eq_true rfl) ?_); intro ha nwa Fa Na ma hsa)
      k_steps
      have ka : ∀ p ∈ nw, (∀ n, p.2 ≠ W.listOf #[] n) → p ∈ nwa := fun p hp hn => hsa p (.tail _ hp) fun e => by
        obtain ⟨a, o⟩ := p
        subst e
        exact hn 0 (news_one N8 (.tail _ hp) (.tail _ hr2))
      have hLa : LamTab nwa := (hj.2.2.1 (by decide)).mono ka
      have keepa : ∀ p ∈ nw6, p.1 ≠ l92 → p ∈ nwa := fun p hp h => hsa p (.tail _ (keep p hp)) h
      replace R0 := (R0.mono fun p hp _ => keep p hp).mono ka
      replace R2 := (R2.mono fun p hp _ => keep p hp).mono ka
      replace R4 := (R4.mono fun p hp _ => keep p hp).mono ka
      replace R1 := R1.mono ka
      replace R3 := R3.mono ka
      have bk1 : BookAt w nwa x1 [.ref x0, .ref x2, .ref x4] := ⟨d1, u1, r1, 1, 0, ta1, tb1, tc1, td1, keepa _ nx1 ?z1, keepa _ nd1 ?z2, keepa _ nu1 ?z3, keepa _ m6 ?z4⟩
      have bk2 : BookAt w nwa x9 [.ref x1', .ref x3] := ⟨d9, l91, l92, 1, 0, t91, t92, t93, t94, keepa _ nx2 ?y1, keepa _ nd2 ?y2, keepa _ nu2 ?y3, ma⟩
      case z1 => exact Nat.ne_of_lt (Nat.lt_trans (Nat.lt_trans xl1 ll1) q11)
      case z2 => exact Nat.ne_of_lt (Nat.lt_trans (Nat.lt_trans dx1 (Nat.lt_trans xl1 ll1)) q11)
      case z3 => exact Nat.ne_of_lt (Nat.lt_trans ll1 q11)
      case z4 => exact Nat.ne_of_lt q11
      case y1 => exact Nat.ne_of_lt (Nat.lt_trans xl9 ll9)
      case y2 => exact Nat.ne_of_lt (Nat.lt_trans dx9 (Nat.lt_trans xl9 ll9))
      case y3 => exact Nat.ne_of_lt ll9
      have nNa : ∀ p ∈ news, p.1 ≠ 135 → p ∈ nwa := fun p hp h => keepa p (nN p hp h) (Nat.ne_of_lt (Nat.lt_trans (hlN p hp) q5))
      clear hsa keepa keep N8 F8 hj o8 ka hr2 mT2 hin7
      k_with "call ref" => (k_dflt (refine' MergeCS.use (merge_spec w x1 x9 nwa _ _ bk1 bk2 (Nat.le_of_ble_eq_true rfl) (Nat.le_of_ble_eq_true rfl)) ?k1 ?k2 ?k3 ?k4 ?k5 ?kK ?kd ?ku ?_; ((case k1 | k2 | k3 | k4 | k5 => k_asm); (case kK => first | exact rfl | assumption); (case kd => ktr_room); (case ku => ktr_units))); intro bA hA tkA nwA FA NA sA bkA; (try dsimp only); (try k_fold))
      k_steps
      replace bk1 := bk1.mono sA
      replace bk2 := bk2.mono sA
      k_with "call ref" => (k_dflt (refine' MergeCS.use (merge_spec w x9 x1 nwA _ _ bk2 bk1 (Nat.le_of_ble_eq_true rfl) (Nat.le_of_ble_eq_true rfl)) ?k1 ?k2 ?k3 ?k4 ?k5 ?kK ?kd ?ku ?_; ((case k1 | k2 | k3 | k4 | k5 => k_asm); (case kK => first | exact rfl | assumption); (case kd => ktr_room); (case ku => ktr_units))); intro bB hB tkB nwB FB NB sB bkB; (try dsimp only); (try k_fold))
      k_steps
      have up : ∀ {q : Addr × Obj}, ∀ p ∈ nwa, p ∈ q :: nwB := fun p hp => List.mem_cons_of_mem _ (sB p (sA p hp))
      exact hret _ _ bA bB x0 x1' x2 x3 x4 _ _ _ (by assumption) (by assumption) (fun p hp h => up p (nNa p hp h)) (.head _) (bkA.mono fun p hp => .tail _ (sB p hp)) (bkB.mono fun p hp => .tail _ hp)
        (R0.mono fun p hp _ => up p hp) (R1.mono fun p hp _ => up p hp) (R2.mono fun p hp _ => up p hp) (R3.mono fun p hp _ => up p hp) (R4.mono fun p hp _ => up p hp) (hLa.mono fun p hp _ => up p hp)
-- Taken
theorem name_snoc (is : List Nat) (k : Nat) : nameStr is ++ nameStr [k] = nameStr (is ++ [k]) := by
  show Str.mk _ = Str.mk _
  simp [nameStr]
theorem name_len (is : List Nat) : (nameStr is).length = is.length := by simp [nameStr, Str.length]
noncomputable def rowsW : List Int := [7, 6, 5, 4, 3, 2, 1]
theorem rows_at : ∀ i : Nat, i < 7 → rowsW[i]? = some (7 + (i : Int) * -1) := by decide +kernel
noncomputable def takenTo (c : List Int) (order : List Nat) (i j : Nat) : Nat × List Nat := (order.take j).foldl (takeStep c (7 + (i : Int) * -1)) ((rowsW.take i).foldl (takeRow c order) (0, []))
theorem takenTo_row (c : List Int) (order : List Nat) (i : Nat) (hi : i < 7) : takenTo c order (i + 1) 0 = takenTo c order i order.length := by
  unfold takenTo
  rw [List.take_add_one, rows_at i hi, List.take_length, List.take_zero, List.foldl_append]
  rfl
theorem takenTo_step {c : List Int} {order : List Nat} {i j k : Nat} (h : order[j]? = some k) : takenTo c order i (j + 1) = takeStep c (7 + (i : Int) * -1) (takenTo c order i j) k := by
  unfold takenTo
  rw [List.take_add_one, h, List.foldl_append]
  rfl
theorem takenTo_inv {c : List Int} {order : List Nat} (hn : order.Nodup) (h5 : ∀ i ∈ order, i < 5) (ha : ∀ i, i < 5 → i ∈ order) : ∀ i : Nat, i < 7 → ∀ j, Inv c order (7 + (i : Int) * -1) (order.take j) (takenTo c order i j) := by
  have row : ∀ i : Nat, i < 7 → Inv c order (7 + (i : Int) * -1) [] (takenTo c order i 0) → ∀ j, Inv c order (7 + (i : Int) * -1) (order.take j) (takenTo c order i j) := by
    intro i hi h j
    induction j with
    | zero => exact h
    | succ j ih =>
      by_cases hj : j < order.length
      · have e : order[j]? = some order[j] := List.getElem?_eq_getElem hj
        have e2 : order.take (j + 1) = order.take j ++ [order[j]] := by rw [List.take_add_one, e]; rfl
        rw [takenTo_step e, e2]
        exact ih.step (post := order.drop (j + 1)) (by rw [← List.drop_eq_getElem_cons hj, List.take_append_drop]) hn h5 (by omega)
      · have e1 : order.take (j + 1) = order.take j := by rw [List.take_of_length_le (by omega), List.take_of_length_le (by omega)]
        have e2 : takenTo c order i (j + 1) = takenTo c order i j := by unfold takenTo; rw [e1]
        rw [e1, e2]; exact ih
  intro i
  induction i with
  | zero => intro hi; exact row 0 hi (Inv.start c order)
  | succ i ih =>
    intro hi
    refine row (i + 1) hi ?_
    have h := ih (by omega) order.length
    rw [List.take_length] at h
    rw [takenTo_row c order i (by omega)]
    have := h.next ha
    rwa [show 7 + (i : Int) * -1 - 1 = 7 + ((i + 1 : Nat) : Int) * -1 by omega] at this
/-- the state of the loops: row i, place j of the order -/
noncomputable def TakenJ (c : List Int) (order : List Nat) (cA bA oA : Addr) (news : List (Addr × Obj)) (i j : Nat) (m' : Str → Option Value) (nw : List (Addr × Obj)) : Prop :=
  (∀ p ∈ news, p ∈ nw) ∧ m' (Str.ofString "cells") = some (.ref cA) ∧ m' (Str.ofString "bound") = some (.ref bA) ∧ m' (Str.ofString "order") = some (.ref oA) ∧
    (∃ t, m' (Str.ofString "taken") = some (.int ((takenTo c order i j).1 : Nat) t)) ∧ ∃ t, m' (Str.ofString "name") = some (.str (nameStr (takenTo c order i j).2) t)
theorem take_facts {c : List Int} {order : List Nat} {w : Int} {pre post : List Nat} {k : Nat} {st : Nat × List Nat} (I : Inv c order w pre st) (ho : order = pre ++ k :: post) (hn : order.Nodup) (h5 : ∀ i ∈ order, i < 5) (hw : weightF c k = w) : st.1 + 2 ^ k < 32 := by
  have hkp : k ∉ pre := by
    rw [ho, List.nodup_append] at hn
    exact fun q => hn.2.2 k q k (.head _) rfl
  have hki : k ∉ st.2 := fun q => (I.come k q).elim (fun z => by omega) fun z => hkp z.2
  have hbit : st.1.testBit k = false := by
    rw [I.mask, ← Bool.not_eq_true, maskOf_bit]; exact hki
  have hT : st.1 < 32 := by rw [I.mask]; exact maskOf_lt _ I.lt5
  exact (mask_add1 k (h5 k (by rw [ho]; simp)) _ hT hbit).1
theorem Inv.len4 {c : List Int} {order pre : List Nat} {w : Int} {st : Nat × List Nat} (I : Inv c order w pre st) : st.2.length ≤ 4 := by
  have hT : st.1 < 32 := by rw [I.mask]; exact maskOf_lt _ I.lt5
  have := rank_le (keyN_lt c) hT I.free
  rwa [I.len] at this
theorem bools_item {c : List Int} {T k : Nat} (h : T + 2 ^ k < 32) : (0 : Int) ≤ (T : Int) + 2 ^ ((k : Int)).toNat ∧ (T : Int) + 2 ^ ((k : Int)).toNat < 2 ^ 63 ∧ (boolsTo c 32)[((T : Int) + 2 ^ ((k : Int)).toNat).toNat]? = some (.bool (boundB (keyN c) (T + 2 ^ k))) := by
  have e : (2 : Int) ^ ((k : Int)).toNat = ((2 ^ k : Nat) : Int) := by simp
  have e2 : ((T : Int) + 2 ^ ((k : Int)).toNat).toNat = T + 2 ^ k := by rw [e]; generalize 2 ^ k = z; omega
  refine ⟨by rw [e]; generalize 2 ^ k = z at h; omega, by rw [e]; generalize 2 ^ k = z at h; omega, ?_⟩
  rw [e2]
  simp [boolsTo, h]
theorem ord_item {vs : List Value} {order : List Nat} {j : Nat} {v : Value} (h : IntsAre vs (order.map Int.ofNat)) (hv : vs[j]? = some v) : ∃ (k : Nat) (t : Tok), order[j]? = some k ∧ v = .int (k : Int) t := by
  have hlt := (List.getElem?_eq_some_iff.mp hv).1
  rw [IntsAre.length h, List.length_map] at hlt
  obtain ⟨t, ht⟩ := h.get j (order[j] : Int) (by simp [hlt])
  rw [hv] at ht
  exact ⟨order[j], t, List.getElem?_eq_getElem hlt, Option.some.inj ht⟩
section
set_option maxRecDepth 100000 in
set_option maxHeartbeats 8000000 in
theorem taken_spec (w : World) (cA bA oA : Addr) (cvs ovs : List Value) (c : List Int) (order : List Nat) (ck bk ok : Nat) (news : List (Addr × Obj)) (hc : (cA, W.listOf cvs.toArray ck) ∈ news) (hb : (bA, W.listOf (boolsTo c 32).toArray bk) ∈ news) (ho : (oA, W.listOf ovs.toArray ok) ∈ news) (hI : IntsAre cvs c) (hlen : c.length = 5)
    (hO : IntsAre ovs (order.map Int.ofNat)) (hn : order.Nodup) (h5 : ∀ i ∈ order, i < 5) (ha : ∀ i, i < 5 → i ∈ order) : CS w 174 [.ref cA, .ref bA, .ref oA] news 4 40 (fun r => ∃ t, r = .str (nameStr (takenF c order).2) t) := by
  k_with_none
  unfold CS; k_fill; w_on
  k_with "exec For Name Call cons nil" => (k_dflt (refine wpAny_For ?_ (by intro _; rfl)))
  k_with "exec For Name Name cons nil" => (k_dflt (refine wpAny_For ?_ (by intro _; rfl)))
  k_with "pyIter ref" => (refine Hold.on ?_)
  intro loose mean mg mb dp un gd cn cs a ccd cl outer A₀ base h₀ L m s Q E B F X N T hk hd hu hret
  have hcells : ∀ k : Nat, k < 5 → ∃ t, cvs[((k : Int)).toNat]? = some (.int (c.getD k 0) t) := fun k hk => cells_at hI (by omega)
  have hinv := takenTo_inv (c := c) hn h5 ha
  (refine wpAny_call ?_; k_dflt (refine' code_def ?k1 ?k2 ?k3 ?k4 ?k5 ?kA ?kF ?kK ?k6 ?k7 ?k8 ?k9 ?kB ?_ ?c2 ?c3 ?c4 ?c5; (case kA | kF => exact rfl); (case kK => assumption); (case k1 | k2 | k3 | k4 | k5 => k_asm); (case k6 | k7 => k_is); (case k8 => ktr_room); (case k9 => exact BindsTo.of_eq rfl); (case c5 => decide); (case kB => exact locs rfl); (case c2 | c3 | c4 => exact rfl); k_whole))
  intro g' L' h' FG' F' N' B' X' T'
  ((try dsimp only); (try k_fold))
  obtain ⟨m0, hm1, hm2, hm3, F1⟩ : ∃ m0, m0 (Str.ofString "cells") = some (.ref cA) ∧ m0 (Str.ofString "bound") = some (.ref bA) ∧ m0 (Str.ofString "order") = some (.ref oA) ∧ Fr g' L' h' m0 := ⟨_, rfl, rfl, rfl, F'⟩
  clear F'
  k_steps
  with_reducible rename News g' L' _ _ => N2
  with_reducible rename Fr g' L' _ _ => F2
  with_reducible rename IsRange _ _ _ _ _ _ _ _ => R2
  refine ⟨for_down 7 rfl R2 (by decide) (by decide) F2 N2 (fun i m' nw => TakenJ c order cA bA oA news i 0 m' nw) ?j0 ?step ?hR (fun it s' q => q)⟩
  case j0 =>
    intro nw hs
    exact ⟨hs, hm1, hm2, hm3, ⟨_, rfl⟩, _, rfl⟩
  case hR =>
    rintro h9 tk9 m9 nw9 F9 N9 ⟨k1, k2, k3, k4, k5, tn, k6⟩
    k_with "eval Name" => (k_dflt (refine' ld ?k1 ?k2 ?_; (case k1 => k_asm); (case k2 => exact k6); k_whole))
    dsimp only
    k_steps
    exact hret _ _ _ (by assumption) (fun p hp => (show News h₀ L _ nw9 by assumption) p (k1 p hp)) ⟨_, rfl⟩
  case step =>
    rintro I i t m1 nw1 h1 tk1 own hi ⟨k1, k2, k3, k4, ⟨tt, k5⟩, tn, k6⟩ hoff hown hlt F3 N3
    k_with "eval Name" => (k_dflt (refine' ld ?k1 ?k2 ?_; (case k1 => k_asm); (case k2 => first | exact rfl | exact k2 | exact k3 | exact k4 | exact k5 | exact k6); k_whole))
    k_steps
    with_reducible rename News g' L' _ _ => N4
    with_reducible rename Fr g' L' _ _ => F4
    clear N3 F3
    refine ⟨for_list rfl F4 N4 (List.mem_append_right _ (k1 _ ho)) (fun j m' nw => TakenJ c order cA bA oA news i j m' nw ∧ (∀ p ∈ own, p ∈ nw) ∧ m' (Str.ofString "weight") = some (.int (7 + (i : Int) * -1) t)) ?i0 ?istep ?ihR (fun it s' q => q)⟩
    case i0 =>
      intro nw hs
      exact ⟨⟨fun p hp => hs p (List.mem_append_right _ (k1 p hp)), k2, k3, k4, ⟨tt, k5⟩, tn, k6⟩, fun p hp => hs p (List.mem_append_left _ hp), rfl⟩
    case ihR =>
      rintro h9 tk9 m9 nw9 F9 N9 ⟨⟨k1, k2, k3, k4, ⟨tt, k5⟩, tn, k6⟩, ko, kw⟩
      dsimp only
      k_steps
      refine LEnd.on F9 N9 ko fun nw' hs => ?_
      have e7 : takenTo c order (i + 1) 0 = takenTo c order i ovs.length := by rw [takenTo_row c order i hi, IntsAre.length hO, List.length_map]
      refine ⟨fun p hp => hs p (k1 p hp) fun q => Nat.ne_of_lt (hlt p hp) (List.mem_singleton.mp q), k2, k3, k4, ⟨tt, ?_⟩, tn, ?_⟩
      · rw [e7]; exact k5
      · rw [e7]; exact k6
    case istep =>
      rintro I2 j v m2 nw2 h2 tk2 own2 hv ⟨⟨k1, k2, k3, k4, ⟨tt, k5⟩, tn, k6⟩, ko, kw⟩ hoff2 hown2 hlt2 F5 N5
      obtain ⟨k, tk3, hk3, rfl⟩ := ord_item hO hv
      have hk5 : k < 5 := h5 k (List.mem_of_getElem? hk3)
      obtain ⟨tc, hcl⟩ := hcells k hk5
      have c0 : (0 : Int) ≤ (k : Int) := by omega
      have c1 : (k : Int) < 2 ^ 63 := by omega
      have II := hinv i hi j
      have hlt := List.getElem?_eq_some_iff.mp hk3
      have hok : order = order.take j ++ k :: order.drop (j + 1) := by
        obtain ⟨hjl, hjk⟩ := hlt
        rw [← hjk, ← List.drop_eq_getElem_cons hjl, List.take_append_drop]
      have hbi : ((c.getD k 0).fdiv 16).fmod 8 = 7 + (i : Int) * -1 → (takenTo c order i j).1 + 2 ^ k < 32 := fun e => take_facts II hok hn h5 e
      have hnl := II.len4
      obtain ⟨T, hT⟩ : ∃ T, T = (takenTo c order i j).1 := ⟨_, rfl⟩
      obtain ⟨is, his⟩ : ∃ is, is = (takenTo c order i j).2 := ⟨_, rfl⟩
      rw [← hT] at k5 hbi
      rw [← his] at k6 hnl
      have hnl2 : (nameStr is).length ≤ 4 := by rw [name_len]; exact hnl
      k_with "eval Name" => (k_dflt (refine' ld ?k1 ?k2 ?_; (case k1 => k_asm); (case k2 => first | exact rfl | exact k2 | exact k3 | exact k4 | exact k5 | exact k6 | exact kw); k_whole))
      k_with "subscriptTail Name Name ref int" => (k_dflt (refine item_N (n := ck) (by k_asm) (List.mem_append_right _ (k1 _ hc)) c0 c1 hcl ?_); k_whole)
      k_with "subscriptTail Name BinOp ref int" => ((obtain ⟨z1, z2, z3⟩ := bools_item (c := c) (hbi (by assumption))); k_dflt (refine item_N (n := bk) (by k_asm) (List.mem_append_right _ (k1 _ hb)) z1 z2 z3 ?_); k_whole)
      k_with "subscriptTail Constant Name str int" => (k_dflt (refine KXi.item (n := 5) abc_len (by omega) (by omega) (by decide) ?_; intro _; rw [abc_item k hk5]))
      k_steps
      all_goals with_reducible rename News g' L' _ _ => N6
      all_goals with_reducible rename Fr g' L' _ _ => F6
      all_goals refine LEnd.on F6 N6 (fun p hp => List.mem_append_left _ hp) fun nw' hs => ?_
      all_goals have up : ∀ p ∈ nw2, p ∈ nw' := fun p hp => hs p (List.mem_append_right _ hp) fun q => hoff2 p hp (List.mem_singleton.mp q)
      all_goals have e8 := takenTo_step (c := c) (i := i) hk3
      · rename boundB _ _ = true => hz
        have e9 : takenTo c order i (j + 1) = takenTo c order i j := by
          rw [e8]; unfold takeStep
          rw [← hT]
          exact if_neg fun q => by rw [hz] at q; cases q.2
        refine ⟨⟨fun p hp => up p (k1 p hp), k2, k3, k4, ⟨tt, ?_⟩, tn, ?_⟩, fun p hp => up p (ko p hp), kw⟩
        · rw [e9, ← hT]; exact k5
        · rw [e9, ← his]; exact k6
      · rename boundB _ _ = false => hz
        rename Int.fmod _ 8 = _ => hz2
        have e9 : takenTo c order i (j + 1) = (T + 2 ^ k, is ++ [k]) := by
          rw [e8]; unfold takeStep
          rw [← hT, ← his]
          exact if_pos ⟨hz2, hz⟩
        have e10 : (T : Int) + 2 ^ ((k : Int)).toNat = ((T + 2 ^ k : Nat) : Int) := by simp
        refine ⟨⟨fun p hp => up p (k1 p hp), k2, k3, k4, ⟨?tA, ?h1⟩, ?tB, ?h2⟩, fun p hp => up p (ko p hp), kw⟩
        case h1 => rw [e9]; exact congrArg (fun z => some (Value.int z _)) e10
        case h2 => rw [e9, ← name_snoc, ← abc_item k hk5]; rfl
      · rename Int.fmod _ 8 ≠ _ => hz
        have e9 : takenTo c order i (j + 1) = takenTo c order i j := by
          rw [e8]; unfold takeStep
          exact if_neg fun q => hz q.1
        refine ⟨⟨fun p hp => up p (k1 p hp), k2, k3, k4, ⟨tt, ?_⟩, tn, ?_⟩, fun p hp => up p (ko p hp), kw⟩
        · rw [e9, ← hT]; exact k5
        · rw [e9, ← his]; exact k6
end
-- Greatest
theorem upTo_zero (b : List Int) : UpTo b [] b := ⟨rfl, fun p => by simp⟩
theorem upTo_step {b0 b ns : List Int} {j : Nat} {x : Int} (h : UpTo b0 (ns.take j) b) (hx : ns[j]? = some x) (hj : j < b0.length) : UpTo b0 (ns.take (j + 1)) (b.set j (if -x > b.getD j 0 then -x else b.getD j 0)) := by
  obtain ⟨h1, h2⟩ := h
  have hlt := (List.getElem?_eq_some_iff.mp hx).1
  have e1 : (ns.take j).length = j := by rw [List.length_take]; omega
  have e2 : (ns.take (j + 1)).length = j + 1 := by rw [List.length_take]; omega
  refine ⟨by rw [List.length_set, h1], fun p => ?_⟩
  rw [e2]
  by_cases hp : p = j
  · subst hp
    rw [if_pos (Nat.lt_succ_self p)]
    have e3 : (b.set p (if -x > b.getD p 0 then -x else b.getD p 0)).getD p 0 = if -x > b.getD p 0 then -x else b.getD p 0 := by
      have : p < b.length := by omega
      simp [this]
    have e4 : (ns.take (p + 1)).getD p 0 = x := by simp [List.getD, hx]
    have e5 := h2 p
    rw [e1, if_neg (Nat.lt_irrefl p)] at e5
    rw [e3, e4, e5]
    by_cases q : b0.getD p 0 < -x
    · rw [if_pos q]; omega
    · rw [if_neg q]; omega
  · have e3 : (b.set j (if -x > b.getD j 0 then -x else b.getD j 0)).getD p 0 = b.getD p 0 := by
      simp only [List.getD]
      rw [List.getElem?_set_ne (Ne.symm hp)]
    rw [e3, h2 p, e1]
    by_cases q : p < j
    · have e6 : (ns.take (j + 1)).getD p 0 = (ns.take j).getD p 0 := by
        simp [List.getD, List.getElem?_take, q, Nat.lt_succ_of_lt q]
      rw [if_pos q, if_pos (Nat.lt_succ_of_lt q), e6]
    · rw [if_neg q, if_neg (by omega)]
noncomputable def GreatJ (c : List Int) (bA lA cC : Addr) (oC : Obj) (news : List (Addr × Obj)) (i : Nat) (m' : Str → Option Value) (nw : List (Addr × Obj)) : Prop :=
  m' (Str.ofString "bound") = some (.ref bA) ∧ m' (Str.ofString "best") = some (.ref lA) ∧ (∀ p ∈ news, p ∈ nw) ∧ (cC, oC) ∈ nw ∧ ∃ vs bs n, (lA, W.listOf vs.toArray n) ∈ nw ∧ IntsAre vs bs ∧ BestOk c (i + 1) bs
section
set_option maxRecDepth 100000 in
set_option maxHeartbeats 8000000 in
theorem great_spec (w : World) (cA bA : Addr) (cvs : List Value) (c : List Int) (ck bk : Nat) (news : List (Addr × Obj)) (hc : (cA, W.listOf cvs.toArray ck) ∈ news) (hb : (bA, W.listOf (boolsTo c 32).toArray bk) ∈ news) (hI : IntsAre cvs c) (hlen : c.length = 5) :
    CL w 167 [.ref cA, .ref bA] news 6 100 (fun h => True) (fun vs => ∃ bs, BestOk c 32 bs ∧ IntsAre vs (bs.filter fun x => decide (0 < x))) := by
  k_with_none
  unfold CL; k_fill; w_on
  k_with "exec For Name Call cons nil" => (k_dflt (refine wpAny_For ?_ (by intro _; rfl)))
  k_with "exec For Name Name cons nil" => (k_dflt (refine wpAny_For ?_ (by intro _; rfl)))
  k_with "CompSrc" => (refine Hold.on ?_)
  k_with "CompSrcT" => (refine Hold.on ?_)
  k_with "eval ListComp" => (first | (lct_look; k_dflt (refine LCt.ListComp_T (F₀ := by k_asm) (by with_unfolding_all rfl) (by decide) (by rfl) (by decide) (by rfl) ?_)) | k_dflt (refine LCg.ListComp_U (F₀ := by k_asm) (by with_unfolding_all rfl) (by decide) (by rfl) (by decide) (by rfl) ?_))
  k_with "pyIter ref" => (refine Hold.on ?_)
  intro loose mean mg mb dp un gd cn cs a ccd cl outer A₀ base h₀ L m s Q E B F X N T hk hd hu hP hret
  have hcells : ∀ k : Nat, k < 5 → ∃ t, cvs[((k : Int)).toNat]? = some (.int (c.getD k 0) t) := fun k hk => cells_at hI (by omega)
  (refine wpAny_call ?_; k_dflt (refine' code_defC ?k1 ?k2 ?k3 ?k4 ?k5 ?kA ?kF ?kK ?k6 ?k7 ?k8 ?k9 ?kB ?kD ?_ ?c2 ?c3 ?c4; (case kA | kF => exact rfl); (case kK => assumption); (case k1 | k2 | k3 | k4 | k5 => k_asm); (case k6 | k7 => k_is); (case k8 => ktr_room); (case k9 => exact BindsTo.of_eq rfl); (case kB => exact rfl); (case kD => decide +kernel); (case c2 | c3 | c4 => exact rfl); k_whole))
  intro g' L' h' tk' cells' FG' F' N' Y' B' X' T' l1
  have hoff2 : OwnOff news [L' + 1] := ownOff_lt l1 (by intro b hb; simp at hb; rcases hb with rfl; exact Nat.le_add_right _ _)
  k_cells Y'
  rename_i oC dC
  have hdC : oC.data = Data.cell (some (.ref cA)) := dC
  clear dC
  simp only [List.cons_append, List.nil_append] at N'
  ((try dsimp only); (try k_fold))
  obtain ⟨m0, hm0, F1⟩ : ∃ m0, m0 (Str.ofString "bound") = some (.ref bA) ∧ Fr g' L' h' m0 := ⟨_, rfl, F'⟩
  clear F'
  k_steps
  with_reducible rename News g' L' _ _ => N2
  with_reducible rename Fr g' L' _ _ => F2
  with_reducible rename IsRange _ _ _ _ _ _ _ _ => R2
  rename_i lA hh1 ltA hh2 FF5 NN5 ecl hh5 tk5 t5 u5 v5 kk5
  clear FF5 NN5
  have hcL : cA < L' := l1 _ hc
  have hbL : bA < L' := l1 _ hb
  have hLA : L' < lA := Nat.lt_of_succ_lt ltA.1
  refine ⟨for_range 31 rfl R2 (by decide) (by decide) F2 N2 (GreatJ c bA lA (L' + 1) oC news) ?j0 ?step ?hR (fun it s' q => q)⟩
  case j0 =>
    intro nw hs
    exact ⟨hm0, rfl, fun p hp => hs p (.tail _ (.tail _ hp)), hs _ (.tail _ (.head _)), _, [0, 0, 0, 0, 0], 0, hs _ (.head _), .cons _ _ (.cons _ _ (.cons _ _ (.cons _ _ (.cons _ _ .nil)))), best_start c⟩
  case hR =>
    rintro h9 tk9 m9 nw9 F9 N9 ⟨k1, k2, k3, kC, vs, bs, nA, mA, hIb, hbest⟩
    k_with "eval Name" => (k_dflt (refine' ld ?k1 ?k2 ?_; (case k1 => k_asm); (case k2 => exact k2); k_whole))
    dsimp only
    k_steps
    rotate_right 1
    · have hv5 : vs.length = 5 := by rw [IntsAre.length hIb]; exact hbest.len
      refine ⟨LCt.CompSrcT.ledger (by rfl) (by k_asm) (by k_asm) mA (by rw [List.size_toArray, hv5, sizeLine_eq]; decide) ?_⟩
      intro g10
      refine restT_inv (fun j ys => IntsAre ys ((bs.take j).filter fun x => decide (0 < x))) (.inr ⟨_, mA, rfl, _, rfl⟩) ?turn ?fin _ 0 [] (Nat.zero_add _) .nil
      case turn =>
        intro j ys v I2 oI C oC2 D m₂ h tk E' hj hJ hP hC hx F N off
        have hP2 : vs[j]? = some v := by simpa using hP
        have hjl := (List.getElem?_eq_some_iff.mp hP2).1
        rw [IntsAre.length hIb] at hjl
        have hbj : bs[j]? = some bs[j] := List.getElem?_eq_getElem hjl
        obtain ⟨tb, hb2⟩ := hIb.get j _ hbj
        rw [hP2] at hb2
        obtain ⟨b, hbD⟩ : ∃ b, b = bs[j] := ⟨_, rfl⟩
        rw [← hbD] at hb2 hbj
        have hb3 := Option.some.inj hb2
        subst hb3
        have e9 : bs.take (j + 1) = bs.take j ++ [b] := by rw [List.take_add_one, hbj]; rfl
        k_steps
        · rename 0 < b => hz
          refine TOut.intro F N ?_
          rw [e9, List.filter_append]
          simp only [List.filter_cons, decide_eq_true hz, if_true, List.filter_nil]
          exact intsAre_more hJ _ _
        · rename ¬ 0 < b => hz
          refine TOut.intro F N ?_
          rw [e9, List.filter_append]
          simp only [List.filter_cons, decide_eq_false hz, Bool.false_eq_true, if_false, List.filter_nil, List.append_nil]
          exact hJ
      case fin =>
        intro ys hys
        unfold LCg.FinE
        intro D8 h8 tk8 F8 N8 o8
        have o8' := off1_mem o8
        dsimp only
        k_steps
        refine hret D8 ys ys.length _ _ (by assumption) (fun p hp => (show News h₀ L _ (_ :: nw9) by assumption) p (by rcases List.mem_cons.mp hp with rfl | hp; exact .head _; exact .tail _ (k3 p hp))) (fun p hp => o8' p (k3 p hp)) ⟨bs, hbest, ?_⟩
        rwa [List.size_toArray, hv5, List.take_of_length_le (by rw [hbest.len]; exact Nat.le_refl _)] at hys
    all_goals first | exact Str.ofString "" | exact (0 : Nat) | exact Value.none
  case step =>
    rintro I i t m1 nw1 h1 tk1 own hi ⟨k1, k2, k3, kC, vs, bs, nA, mA, hIb, hbest⟩ hoff hown hlt F3 N3
    obtain ⟨rest, hrest⟩ : ∃ rest, rest = (own ++ nw1).filter (fun p => decide (p.1 ≠ lA ∧ p.1 ≠ L' + 1)) := ⟨_, rfl⟩
    have hro : OwnOff rest [lA, L' + 1] := by
      intro p hp b hb
      rw [hrest] at hp
      have := (List.mem_filter.mp hp).2
      simp only [decide_eq_true_eq] at this
      simp only [List.mem_cons, List.not_mem_nil, or_false] at hb
      rcases hb with rfl | rfl
      · exact this.1
      · exact this.2
    have hrm : ∀ p ∈ rest, p ∈ own ++ nw1 := fun p hp => by rw [hrest] at hp; exact (List.mem_filter.mp hp).1
    have N4 : News g' L' h1 ((lA, W.listOf vs.toArray nA) :: (L' + 1, oC) :: (cA, W.listOf cvs.toArray ck) :: (bA, W.listOf (boolsTo c 32).toArray bk) :: rest) := fun p hp => by
      rcases List.mem_cons.mp hp with rfl | hp
      · exact N3 _ (List.mem_append_right _ mA)
      rcases List.mem_cons.mp hp with rfl | hp
      · exact N3 _ (List.mem_append_right _ kC)
      rcases List.mem_cons.mp hp with rfl | hp
      · exact N3 _ (List.mem_append_right _ (k3 _ hc))
      rcases List.mem_cons.mp hp with rfl | hp
      · exact N3 _ (List.mem_append_right _ (k3 _ hb))
      · exact N3 p (hrm p hp)
    have nI1 : lA ≠ I := Nat.ne_of_lt (hlt _ (.head _))
    have nI2 : L' + 1 ≠ I := Nat.ne_of_lt (hlt _ (.tail _ (.head _)))
    have nI6 : ∀ p ∈ news, p.1 ≠ I := fun p hp => Nat.ne_of_lt (hlt p (.tail _ (.tail _ hp)))
    have ownr : ∀ p ∈ own, p ∈ rest := fun p hp => by
      rw [hrest]; exact List.mem_filter.mpr ⟨List.mem_append_left _ hp, by simp only [decide_eq_true_eq]; rw [hown p hp]; exact ⟨nI1.symm, nI2.symm⟩⟩
    have hrl : ∀ p ∈ rest, p.1 ≠ lA := fun p hp => hro p hp lA (.head _)
    have newr : ∀ p ∈ news, p ∈ rest := fun p hp => by
      rw [hrest]; exact List.mem_filter.mpr ⟨List.mem_append_right _ (k3 p hp), by simp only [decide_eq_true_eq]; exact ⟨Nat.ne_of_lt (Nat.lt_trans (l1 p hp) hLA), Nat.ne_of_lt (Nat.lt_succ_of_lt (l1 p hp))⟩⟩
    have hn1 : (0 : Int) ≤ 1 + (i : Int) := by omega
    have hn32 : 1 + (i : Int) < 32 := by omega
    have hn63 : 1 + (i : Int) < 2 ^ 63 := by omega
    have hbb : (boolsTo c 32)[(1 + (i : Int)).toNat]? = some (.bool (boundB (keyN c) (1 + i))) := by
      have e : (1 + (i : Int)).toNat = 1 + i := by omega
      have e2 : 1 + i < 32 := by omega
      rw [e]
      simp [boolsTo, e2]
    k_with "call ref" => (k_dflt (refine' CL.use (members_spec _ _ _ _ hn1 hn32) ?k1 ?k2 ?k3 ?k4 ?k5 ?kK ?kd ?ku ?kP ?_; ((case k1 | k2 | k3 | k4 | k5 => k_asm); (case kK => first | exact rfl | assumption); (case kd => ktr_room); (case ku => ktr_units)); (case kP => exact trivial)); intro l9 vs9 n9 h9 tk9 F9 N9 ne9 o9; (try dsimp only); (try k_fold); (have o9 := (members_last hi o9).1); (have hl9 : vs9.length = (memb (1 + i)).length := (IntsAre.length o9).trans (List.length_map ..)); (have nA9 : @Ne Nat lA l9 := ne9 _ (.head _)); (have nB9 : @Ne Nat (L' + 1) l9 := ne9 _ (.tail _ (.head _))))
    k_with "eval Name" => (k_dflt (refine' ld ?k1 ?k2 ?_; (case k1 => k_asm); (case k2 => first | exact rfl | exact k1 | exact k2); k_whole))
    k_with "subscriptTail Name Name ref int" => (k_dflt (refine item_N (by k_asm) (by k_mem) hn1 hn63 hbb ?_); k_whole)
    clear N3
    k_steps
    rotate_right 1
    · refine ⟨LCg.CompSrc.ledger (by rfl) (by k_asm) (by k_asm) (by k_mem) (by rw [List.size_toArray, hl9, sizeLine_eq]; exact Nat.le_trans (memb_len _) (by decide)) ?_⟩
      intro g10
      refine rest_inv (fun j ys => IntsAre ys (((memb (1 + i)).take j).map fun k => -weightF c k)) (.inr ⟨_, .head _, rfl, _, rfl⟩) ?turn ?fin _ 0 [] (Nat.zero_add _) .nil
      case turn =>
        intro j ys v I2 oI C oC2 D m₂ h tk E' hj hJ hP hC hx F N off
        obtain ⟨kk, tkk, hkk, rfl⟩ := memb_item o9 hP
        obtain ⟨hk5, hkn⟩ := memb_facts (1 + i) (by omega) kk (List.mem_of_getElem? hkk)
        obtain ⟨tc, hcl⟩ := hcells kk hk5
        have c0 : (0 : Int) ≤ (kk : Int) := by omega
        have c1 : (kk : Int) < 2 ^ 63 := by omega
        k_with "subscriptTail Name Name ref int" => (k_dflt (refine item_N (by k_asm) (by k_mem) c0 c1 hcl ?_); k_whole)
        k_steps
        refine TOut.intro F N ?_
        rw [List.take_add_one, hkk, List.map_append]
        exact intsAre_more hJ _ _
      case fin =>
        intro ys hys
        unfold LCg.FinE
        intro D8 h8 tk8 F8 N8 o8
        have o8' := off1_mem o8
        have pD2 : @Ne Nat lA D8 := o8' _ (.tail _ (.head _))
        rw [List.size_toArray, hl9, List.take_length] at hys
        have hyl : ((memb (1 + i)).map fun k => -weightF c k).length ≤ 5 := by rw [List.length_map]; exact memb_len _
        k_with "call builtin:sorted" => (k_dflt (refine kso_sorted (vs := ys) (by k_asm) (by k_asm) (kso_isList (by k_asm) (by k_mem) rfl) hys (by omega) ?_); intro D7 vs7 ns7 c7 h7 F7 N7 lt7 i7 e7 p7 s7 _)
        dsimp only
        k_steps
        have q1 : @LT.lt Nat _ lA D7 := lt7 _ (.tail _ (.tail _ (.head _)))
        refine ⟨for_list rfl F7 N7 (.head _) (fun j m' nw => m' (Str.ofString "bound") = some (.ref bA) ∧ m' (Str.ofString "best") = some (.ref lA) ∧ (∃ t, m' (Str.ofString "place") = some (.int (j : Nat) t)) ∧ (∀ p ∈ rest, p ∈ nw) ∧ (L' + 1, oC) ∈ nw ∧ ∃ vs2 bs2 n2, (lA, W.listOf vs2.toArray n2) ∈ nw ∧ IntsAre vs2 bs2 ∧ UpTo bs (ns7.take j) bs2) ?i0 ?istep ?ihR (fun it s' q => q)⟩
        case i0 =>
          intro nw hs
          exact ⟨k1, k2, ⟨_, rfl⟩, fun p hp => hs p (by simp only [List.mem_cons, hp, or_true]), hs _ (by k_mem), vs, bs, nA, hs _ (by k_mem), hIb, upTo_zero bs⟩
        case ihR =>
          rintro h9 tk9 m9 nw9 F9 N9 ⟨g1, g2, ⟨tp, g3⟩, gr, gC, vs2, bs2, n2, g4, g5, g6⟩
          dsimp only
          k_steps
          have hb7 : BestOk c (1 + i + 1) bs2 := best_free (n := 1 + i) (by rw [Nat.add_comm]; exact hbest) p7 s7 (by rw [IntsAre.length i7, List.take_length] at g6; exact g6) (by assumption)
          refine LEnd.on F9 N9 (fun p hp => gr p (ownr p hp)) fun nw' hs => ?_
          refine ⟨g1, g2, fun p hp => ?_, ?_, vs2, bs2, n2, ?_, g5, by rw [Nat.add_comm i 1]; exact hb7⟩
          · exact hs p (gr p (newr p hp)) fun q => nI6 p hp (List.mem_singleton.mp q)
          · exact hs _ gC fun q => nI2 (List.mem_singleton.mp q)
          · exact hs _ g4 fun q => nI1 (List.mem_singleton.mp q)
        case istep =>
          rintro I2 j v m2 nw2 h2 tk2 own2 hv ⟨g1, g2, ⟨tp, g3⟩, gr, gC, vs2, bs2, n2, g4, g5, g6⟩ hoff2 hown2 hlt2 F5 N5
          have hvl : j < ns7.length := by
            have := (List.getElem?_eq_some_iff.mp hv).1
            rwa [IntsAre.length i7] at this
          have hn7 : ns7.length ≤ 5 := by rw [e7]; exact hyl
          have hx7 : ns7[j]? = some ns7[j] := List.getElem?_eq_getElem hvl
          obtain ⟨tx, hx⟩ := i7.get j _ hx7
          rw [hv] at hx
          obtain ⟨x, hxD⟩ : ∃ x, x = ns7[j] := ⟨_, rfl⟩
          rw [← hxD] at hx7 hx
          have hx2 := Option.some.inj hx
          subst hx2
          have hb5 : bs2.length = 5 := by rw [g6.1]; exact hbest.len
          obtain ⟨tb, hb2⟩ := g5.get j (bs2.getD j 0) (by simp [show j < bs2.length by omega])
          obtain ⟨rest2, hrest2⟩ : ∃ rest2, rest2 = (own2 ++ nw2).filter (fun p => decide (p.1 ≠ lA)) := ⟨_, rfl⟩
          have hro2 : OwnOff rest2 [lA] := by
            intro p hp b hb
            rw [hrest2] at hp
            rw [List.mem_singleton.mp hb]
            simpa using (List.mem_filter.mp hp).2
          clear hro
          have N6 : News g' L' h2 ((lA, W.listOf vs2.toArray n2) :: rest2) := fun p hp => by
            rcases List.mem_cons.mp hp with rfl | hp
            · exact N5 _ (List.mem_append_right _ g4)
            · rw [hrest2] at hp; exact N5 p (List.mem_filter.mp hp).1
          have j0 : (0 : Int) ≤ (j : Int) := by omega
          have j63 : (j : Int) < 2 ^ 63 := by omega
          have jlt : (j : Int) < (bs2.length : Int) := by omega
          have hb3 : vs2[((j : Int)).toNat]? = some (.int (bs2.getD j 0) tb) := by rw [Int.toNat_natCast]; exact hb2
          k_with "eval Name" => (k_dflt (refine' ld ?k1 ?k2 ?_; (case k1 => k_asm); (case k2 => first | exact rfl | exact g1 | exact g2 | exact g3); k_whole))
          k_with "subscriptTail Name Name ref int" => (k_dflt (refine item_N (by k_asm) (by k_mem) j0 j63 hb3 ?_); k_whole)
          k_with "setItem ref int" => (k_dflt (refine ksa_set (by k_asm) (by k_asm) (by k_upd) g5 j0 jlt j63 ?_); intro h8 F8 N8 i8 _ _)
          clear N5
          k_steps
          all_goals try first | exact Str.ofString "" | exact (0 : Nat) | exact Value.none
          with_reducible rename News g' L' _ _ => N9
          with_reducible rename Fr g' L' _ _ => F9
          have mI2 : ∀ p ∈ nw2, p.1 ≠ lA → p ∈ rest2 := fun p hp h => by rw [hrest2]; exact List.mem_filter.mpr ⟨List.mem_append_right _ hp, by simpa using h⟩
          have nIr : ∀ p ∈ rest, p.1 ≠ I2 := fun p hp => Nat.ne_of_lt (hlt2 p (by simp only [List.mem_cons, hp, or_true]))
          refine LEnd.on F9 N9 (fun p hp => .tail _ ?_) fun nw' hs => ⟨g1, g2, ⟨?tA, ?h1⟩, fun p hp => hs p (.tail _ (mI2 p (gr p hp) (hrl p hp))) fun q => nIr p hp (List.mem_singleton.mp q), hs _ (.tail _ (mI2 _ gC (Nat.ne_of_lt ltA.1))) (fun q => absurd (List.mem_singleton.mp q) (Nat.ne_of_lt (hlt2 (L' + 1, oC) (by k_mem)))), _, _, n2, hs _ (.head _) (fun q => absurd (List.mem_singleton.mp q) (Nat.ne_of_lt (hlt2 (lA, W.listOf vs.toArray nA) (by k_mem)))), i8, ?_⟩
          case h1 => exact congrArg (fun z => some (Value.int z _)) (Int.natCast_succ j).symm
          · rw [hrest2]
            refine List.mem_filter.mpr ⟨List.mem_append_left _ hp, ?_⟩
            rcases hown2 p hp with e | e
            · rw [e]; simpa using Nat.ne_of_gt (hlt2 (lA, W.listOf vs.toArray nA) (by k_mem))
            · rw [e]; simpa using Nat.ne_of_gt q1
          · rw [Int.toNat_natCast]
            exact upTo_step g6 hx7 (by rw [hbest.len]; omega)
    all_goals try first | exact Str.ofString "" | exact (0 : Nat) | exact Value.none
    with_reducible rename News g' L' _ _ => N6
    with_reducible rename Fr g' L' _ _ => F6
    rename boundB _ _ = true => hz
    refine LEnd.on F6 N6 (fun p hp => .tail _ (.tail _ (.tail _ (.tail _ (ownr p hp))))) fun nw' hs => ?_
    refine ⟨k1, k2, fun p hp => ?_, ?_, vs, bs, nA, ?_, hIb, best_bound hbest (by rw [Nat.add_comm]; exact hz)⟩
    · exact hs p (.tail _ (.tail _ (.tail _ (.tail _ (newr p hp))))) fun q => nI6 p hp (List.mem_singleton.mp q)
    · exact hs _ (by k_mem) fun q => nI2 (List.mem_singleton.mp q)
    · exact hs _ (by k_mem) fun q => nI1 (List.mem_singleton.mp q)
end
-- Cells
set_option maxRecDepth 100000 in
set_option maxHeartbeats 8000000 in
theorem cells_spec (w : World) (news : List (Addr × Obj)) (sA : Addr) (svs : List Value) (sns : List Int) (hI : IntsAre svs sns) (hlen : sns.length ≤ 63) : CL w 119 [.ref sA] news 2 16 (fun h => h.IsList sA svs.toArray) (fun vs => ∃ c : List Int, IntsAre vs c ∧ c.length = 5) := by
  k_with_none
  unfold CL; k_fill; w_on
  intro loose mean mg mb dp un gd cn cs a ccd cl outer A₀ base h₀ L m s Q E B F X N T hk hd hu hP hret
  (refine wpAny_call ?_; k_dflt (refine' code_def ?k1 ?k2 ?k3 ?k4 ?k5 ?kA ?kF ?kK ?k6 ?k7 ?k8 ?k9 ?kB ?_ ?c2 ?c3 ?c4 ?c5; (case kA | kF => exact rfl); (case kK => assumption); (case k1 | k2 | k3 | k4 | k5 => k_asm); (case k6 | k7 => k_is); (case k8 => ktr_room); (case k9 => exact BindsTo.of_eq rfl); (case c5 => decide); (case kB => exact locs rfl); (case c2 | c3 | c4 => exact rfl); k_whole))
  intro g' L' h' FG' F' N' B' X' T'
  have hl : g'.IsList sA svs.toArray := hP.at fun o e => FG'.keep sA o e
  ((try dsimp only); (try k_fold))
  k_with "pyIter ref" => k_state (fun pre cells place => cells.length = 5 ∧ 0 ≤ place ∧ place < 5) "cells" "place"
  k_steps
  exact hret _ _ _ _ _ (by assumption) (fun p hp => (show News h₀ _ _ (_ :: _ :: news) by assumption) p (.tail _ hp)) (fun p hp => Nat.ne_of_lt ((show ∀ p ∈ news, p.1 < _ by assumption) p hp)) ⟨_, by assumption, by assumption⟩
-- LcStr
section
open PySem.Spec PySem.Calls LCg
variable {prog : Program} {w : World} {A : Around} {E : Value → Shared → Prop} {s : Shared} {h₀ : Heap} {L : Addr} {m : Str → Option Value} {env : Env}
/-- a comprehension over an ascii text -/
noncomputable def StrAt (prog : Program) (w : World) (A : Around) (h₀ : Heap) (L : Addr) (m : Str → Option Value) (env : Env) (elt : Expr) (x : Str) (scope : Scope) (cl : List (Str × Addr)) (Fin : Shared → List Value → List (Addr × Obj) → Prop) (xv : Value) (s₁ : Shared) : Prop :=
  ∃ z t news, xv = .str z t ∧ z.cps.all (· < 128) = true ∧ A.handled = none ∧ Fr h₀ L s₁.heap m ∧ News h₀ L s₁.heap news ∧ z.cps.size ≤ sizeLine ∧
    ∀ g : Heap, CompRest prog w A h₀ L m env elt x scope cl { s₁ with heap := g } (fun _ => True) (SignAt z) (Fin { s₁ with heap := g }) z.cps.size 0 [] news
theorem StrAt.intro {elt : Expr} {x : Str} {scope : Scope} {cl : List (Str × Addr)} {Fin : Shared → List Value → List (Addr × Obj) → Prop} {z : Str} {t : Tok} {news : List (Addr × Obj)} {s₁ : Shared}
    (hz : z.cps.all (· < 128) = true) (hh : A.handled = none) (F : Fr h₀ L s₁.heap m) (N : News h₀ L s₁.heap news) (hsz : z.cps.size ≤ sizeLine)
    (h : ∀ g : Heap, CompRest prog w A h₀ L m env elt x scope cl { s₁ with heap := g } (fun _ => True) (SignAt z) (Fin { s₁ with heap := g }) z.cps.size 0 [] news) :
    StrAt prog w A h₀ L m env elt x scope cl Fin (.str z t) s₁ := ⟨z, t, news, rfl, hz, hh, F, N, hsz, h⟩
theorem ListComp_Str {elt iter : Expr} {x : Str} {px : Pos} {scope : Scope} {cl : List (Str × Addr)} {pos : Pos} {Q : Value → Shared → Prop} (F₀ : Fr h₀ L s.heap m)
    (hclos : closureFor scope env = pure cl) (hcell : ∀ y ∈ scope.names, y.2 ≠ .cell) (hkind : scope.kind = .function)
    (hnames : ∀ y ∈ scope.names, y.2 = .local → scope.names.lookup y.1 = some .local) (hx : scope.names.lookup x = some .local)
    (h : wpAny (model prog w) A (eval iter env) (StrAt prog w A h₀ L m env elt x scope cl (fun s₂ => FinE h₀ L m s₂ Q)) E s)
    (hs : ∀ x, foldedSetIterable iter env x = pure x := by intro _; rfl) :
    wpAny (model prog w) A (eval (.ListComp elt [⟨.Name x px, iter, [], 0⟩] scope pos) env) Q E s := by
  rw [eval_ListComp]
  refine wpAny_comprehension_free (use := none) rfl hs hclos hkind hnames (wpAny_mono h (fun xv s₁ h₁ => ?_) fun _ _ e => e)
  obtain ⟨z, t, news, rfl, hz, hh, F, N, hsz, R⟩ := h₁
  refine wpAny_pyIter_ascii hz ?_
  have up : ∀ b o, s₁.heap.get? b = some o → (s₁.heap.push { cls := .type "str_ascii_iterator", data := .fields #[.str z t, .int 0 0] }).get? b = some o := fun b o e => Heap.get?_push_of_some _ e
  refine block_U (Walks.strAscii hh s₁.heap.objs.size z t) hsz (fun i h st => by obtain ⟨o, e, _⟩ := st; exact ⟨o, e⟩) ?_ hcell hkind hx ⟨_, Heap.get?_push_size _ rfl, rfl, rfl⟩ (fun b hb => ?_)
    (F.keeps up) (N.grown up) (Nat.ne_of_lt F.ns.lt) (next_is_new F) (fun p hp => Nat.ne_of_lt (Heap.lt_size (N p hp).1)) trivial (R _) ?_
  · intro i h h' o nw st e e' _ N' S'
    obtain ⟨o', q, r⟩ := st
    rw [e] at q
    cases q
    exact ⟨o, e', r⟩
  · show b < (s₁.heap.push _).objs.size
    rw [Heap.size_push, List.mem_singleton.mp hb]
    exact Nat.lt_succ_self _
  · intro D C h tk m' ys news' F' N' o1 hn hC₀ hD₀ hCL hDL hCD offC fin
    refine ⟨m', hn, fun h'' hs'' => fin D h'' tk (F'.change hs'' hCL hC₀) (fun p hp => ?_) o1⟩
    refine ⟨hs''.extBut _ _ ?_ (N' p hp).1, (N' p hp).2⟩
    rcases List.mem_cons.mp hp with rfl | hp
    · exact Ne.symm hCD
    · exact offC p hp
end
-- Law
theorem occ_abc : ∀ k : Nat, k < 5 → Builtin.Str.occurrences (Str.ofString "abcde") (Str.mk #[97 + k]) 0 (Str.ofString "abcde").length 1 = [k] := by decide +kernel
theorem MergesCS.use {w : World} {c : List Int} {cA : Addr} {news : List (Addr × Obj)} (C : MergesCS w c cA news) {loose : List Str} {mean : ExcName → Option Value} {mg mb : Str → Option Value} {dp un : Nat} {gd : Option (List Code)} {cn : Str} {cs : Scope} {a : Addr} {ccd : Value} {cl : List (Str × Addr)} {outer : List Env} {A₀ : Around} {base h₀ : Heap} {L : Addr} {m : Str → Option Value} {s : Shared} {Q E : Value → Shared → Prop}
    (B : Below A₀ base outer h₀) (F : Fr h₀ L s.heap m) (X : (hd.heap_39 w.params).In h₀) (N : News h₀ L s.heap news) (T : Top topProg loose mean mg mb h₀) (hk : cs.kind = .function) (hd : dp + 12 < recursionLimit) (hu : un + 60 < cLine) (hC : CodeHd base 139 135)
    (ret : ∀ lr n b1 b2 x0 x1 x2 x3 x4 h' tk' nw, Fr h₀ L h' m → News h₀ L h' nw → (∀ p ∈ news, p.1 ≠ 135 → p ∈ nw) → (lr, W.listOf #[.ref b1, .ref b2] n) ∈ nw → BookAt w nw b1 [.ref x0, .ref x2, .ref x4, .ref x1, .ref x3] → BookAt w nw b2 [.ref x1, .ref x3, .ref x0, .ref x2, .ref x4] →
      RuleIn w c nw 0 x0 → RuleIn w c nw 1 x1 → RuleIn w c nw 2 x2 → RuleIn w c nw 3 x3 → RuleIn w c nw 4 x4 → LamTab nw → Q (.ref lr) { s with heap := h', toks := tk' }) :
    wpAny (model (PySem.Challenge.rw_rl0026_01.row.prog) w) (ktrTop dp un gd cn cs L a ccd cl outer) (call (.ref 145) [.ref cA]) Q E s :=
  C loose mean mg mb dp un gd cn cs a ccd cl outer A₀ base h₀ L m s Q E B F X N T hk hd hu hC ret
section
set_option maxRecDepth 100000 in
set_option maxHeartbeats 8000000 in
theorem law_holds : PySem.Challenge.rw_rl0026_01.Holds := hd (by
  k_with_none
  k_with "exec For Name Call cons nil" => (k_dflt (refine wpAny_For ?_ (by intro _; rfl)))
  k_with "eval ListComp" => (k_dflt (refine ListComp_Str (F₀ := by k_asm) (by with_unfolding_all rfl) (by decide) (by rfl) (by decide) (by rfl) ?_))
  k_with "StrAt" => (refine Hold.on ?_)
  k_with "call ref" => (refine Hold.on ?_)
  k_with "pyIter ref" => (refine Hold.on ?_)
  k_go0
  (all_goals try k_fold)
  rename World => w
  rename IntsAre _ _ => hI
  rename ¬ _ < _ => hlen
  rename List Int => sns
  rename List Value => svs
  rename Obj.data _ = Data.cell _ => hx9
  rename Obj => oC
  have hdC : oC.data = Data.cell none := hx9
  clear hx9
  k_steps
  refine ⟨?_⟩
  k_dflt (refine' CL.use (cells_spec w _ _ svs sns hI (by omega)) ?k1 ?k2 ?k3 ?k4 ?k5 ?kK ?kd ?ku ?kP ?_; ((case k1 | k2 | k3 | k4 | k5 => k_asm); (case kK => first | exact rfl | assumption); (case kd => ktr_room); (case ku => ktr_units)); (case kP => exact lifted))
  intro cA cvs ck h2 tk2 F2 N2 ne2 ⟨c, hIc, hlc⟩
  dsimp only
  k_steps
  refine ⟨?_⟩
  k_dflt (refine' CL.use (bound_spec w cA cvs c ck _ ?hc hIc hlc) ?k1 ?k2 ?k3 ?k4 ?k5 ?kK ?kd ?ku ?kP ?_; ((case k1 | k2 | k3 | k4 | k5 => k_asm); (case kK => first | exact rfl | assumption); (case kd => ktr_room); (case ku => ktr_units)); (case kP => exact trivial); (case hc => exact .head _))
  intro bA bvs bk h3 tk3 F3 N3 ne3 hbv
  subst hbv
  dsimp only
  simp only [List.cons_append, List.nil_append] at N3
  k_steps
  refine ⟨?_⟩
  k_dflt (refine' CL.use (great_spec w cA bA cvs c ck bk _ ?hc ?hb hIc hlc) ?k1 ?k2 ?k3 ?k4 ?k5 ?kK ?kd ?ku ?kP ?_; ((case k1 | k2 | k3 | k4 | k5 => k_asm); (case kK => first | exact rfl | assumption); (case kd => ktr_room); (case ku => ktr_units)); (case kP => exact trivial); (case hc => exact .tail _ (.head _)); (case hb => exact .head _))
  intro gA gvs gk h4 tk4 F4 N4 ne4 ⟨bs, hbest, hIg⟩
  dsimp only
  k_steps
  refine ⟨?_⟩
  with_reducible rename News _ _ _ _ => N5
  with_reducible rename Fr _ _ _ _ => F5
  rename_i hz1 tkz oA1 hz2 lt1 oA2 hz3 lt2 oO hz4 lt3 hz5
  rename Obj.data _ = Data.cell (some (Value.ref cA)) => hcC
  have hcA : cA ≠ 135 := Ne.symm (ne2 (135, tabObj #[]) (.tail _ (.head _)))
  k_dflt (refine' MergesCS.use (merges_spec w cA cvs c ck _ ?hc hIc hlc ?h135 hcA) ?k1 ?k2 ?k3 ?k4 ?k5 ?kK ?kd ?ku ?kC ?_; ((case k1 | k2 | k3 | k4 | k5 => k_asm); (case kK => first | exact rfl | assumption); (case kd => ktr_room); (case ku => ktr_units)); (case hc => k_mem); (case h135 => k_mem); (case kC => exact codeHd))
  intro lr nr b1 b2 x0 x1 x2 x3 x4 h6 tk6 nw6 F6 N6 s6 mlr bk1 bk2 R0 R1 R2 R3 R4 hlam
  have g135 : ∀ {a : Nat}, 135 < a → a ≠ 135 := fun h => Nat.ne_of_gt h
  have hgt : ∀ {a b : Nat}, a < b → b < a → False := fun h1 h2 => Nat.lt_asymm h1 h2
  have nC := s6 _ (.tail _ (.tail _ (.tail _ (.tail _ (.tail _ (.tail _ (.head _))))))) (g135 (Nat.lt_succ_of_lt (by assumption)))
  have nc : (cA, W.listOf cvs.toArray ck) ∈ nw6 := s6 _ (by k_mem) hcA
  have nb : (bA, W.listOf (boolsTo c 32).toArray bk) ∈ nw6 := s6 _ (by k_mem) (Ne.symm (ne3 (135, tabObj #[]) (by simp)))
  have ng : (gA, W.listOf gvs.toArray gk) ∈ nw6 := s6 _ (by k_mem) (Ne.symm (ne4 (135, tabObj #[]) (by simp)))
  have no1 := s6 _ (.tail _ (.tail _ (.head _))) (g135 lt1.2.2.2.2)
  have no2 := s6 _ (.tail _ (.head _)) (g135 lt2.2.2.2.2.2)
  have noO := s6 _ (.head _) (g135 lt3.2.2.2.2.2.2)
  clear s6 N5 F5
  obtain ⟨m6, v1, v2, v3, F7⟩ : ∃ m6, m6 (Str.ofString "bound") = some (.ref bA) ∧ m6 (Str.ofString "greatest") = some (.ref gA) ∧ m6 (Str.ofString "orders") = some (.ref oO) ∧ Fr _ _ h6 m6 := ⟨_, rfl, rfl, rfl, F6⟩
  clear F6
  obtain ⟨c', oc', vsc, tc', m135, mc', dc', dv'⟩ := hlam
  have hcase : ∀ i : Nat, i < 2 → ∃ b rules order oA ovs ok, [Value.ref b1, .ref b2][(0 + (i : Int)).toNat]? = some (.ref b) ∧ [Value.ref oA1, .ref oA2][(0 + (i : Int)).toNat]? = some (.ref oA) ∧ BookAt w nw6 b rules ∧ RulesIn w c nw6 order rules ∧ (oA, W.listOf ovs.toArray ok) ∈ nw6 ∧ IntsAre ovs (order.map Int.ofNat) ∧ order.Nodup ∧ (∀ i ∈ order, i < 5) ∧ (∀ i, i < 5 → i ∈ order) := by
    intro i hi
    rcases (show i = 0 ∨ i = 1 by omega) with rfl | rfl
    · exact ⟨b1, _, [0, 2, 4, 1, 3], oA1, _, _, rfl, rfl, bk1, ⟨⟨x0, rfl, R0⟩, ⟨x2, rfl, R2⟩, ⟨x4, rfl, R4⟩, ⟨x1, rfl, R1⟩, ⟨x3, rfl, R3⟩, trivial⟩, no1, .cons _ _ (.cons _ _ (.cons _ _ (.cons _ _ (.cons _ _ .nil)))), by decide, by decide, by decide⟩
    · exact ⟨b2, _, [1, 3, 0, 2, 4], oA2, _, _, rfl, rfl, bk2, ⟨⟨x1, rfl, R1⟩, ⟨x3, rfl, R3⟩, ⟨x0, rfl, R0⟩, ⟨x2, rfl, R2⟩, ⟨x4, rfl, R4⟩, trivial⟩, no2, .cons _ _ (.cons _ _ (.cons _ _ (.cons _ _ (.cons _ _ .nil)))), by decide, by decide, by decide⟩
  dsimp only
  k_steps
  with_reducible rename News _ _ _ _ => N8
  with_reducible rename Fr _ _ _ _ => F8
  with_reducible rename IsRange _ _ _ _ _ _ _ _ => R8
  refine ⟨for_range 2 rfl R8 (by decide) (by decide) F8 N8 (fun i m' nw => (∀ p ∈ nw6, p ∈ nw) ∧ m' (Str.ofString "bound") = some (.ref bA) ∧ m' (Str.ofString "greatest") = some (.ref gA) ∧ m' (Str.ofString "orders") = some (.ref oO) ∧ m' (Str.ofString "merges") = some (.ref lr)) ?j0 ?step ?hR (fun it s' q => q)⟩
  case j0 =>
    intro nw hs
    exact ⟨hs, v1, v2, v3, rfl⟩
  case hR =>
    rintro h9 tk9 m9 nw9 F9 N9 ⟨k1, k2, k3, k4, k5⟩
    replace N9 := news_dup N9 (k1 _ m135)
    dsimp only
    k_steps
  case step =>
    rintro I i t m1 nw1 h1 tk1 own hi ⟨k1, k2, k3, k4, k5⟩ hoff hown hlt F3 N3
    obtain ⟨b, rules, order, oA, ovs, ok, q1, q2, bkR, RR, no, hOI, hn, h5, ha⟩ := hcase i hi
    have hsub : ∀ p ∈ nw6, p ∈ own ++ nw1 := fun p hp => List.mem_append_right _ (k1 p hp)
    replace N3 := news_dup N3 (hsub _ nC)
    replace N3 := news_dup N3 (.tail _ (hsub _ nc))
    replace N3 := news_dup N3 (.tail _ (.tail _ (hsub _ mlr)))
    replace N3 := news_dup N3 (.tail _ (.tail _ (.tail _ (hsub _ noO))))
    replace N3 := news_dup N3 (.tail _ (.tail _ (.tail _ (.tail _ (hsub _ ng)))))
    replace N3 := news_dup N3 (.tail _ (.tail _ (.tail _ (.tail _ (.tail _ (hsub _ nb))))))
    replace N3 := news_dup N3 (.tail _ (.tail _ (.tail _ (.tail _ (.tail _ (.tail _ (hsub _ no)))))))
    have i0 : (0 : Int) ≤ 0 + (i : Int) := by omega
    have i63 : 0 + (i : Int) < 2 ^ 63 := by omega
    have hnm := name_taken (c := c) hn h5 ha
    k_with "eval Name" => (k_dflt (refine' ld ?k1 ?k2 ?_; (case k1 => k_asm); (case k2 => first | exact rfl | exact k2 | exact k3 | exact k4 | exact k5); k_whole))
    k_with "subscriptTail Name Name ref int" => (k_dflt (first | refine item_N (vs := [.ref b1, .ref b2]) (l := lr) (by k_asm) (by k_mem) i0 i63 q1 ?_ | refine item_N (vs := [.ref oA1, .ref oA2]) (l := oO) (by k_asm) (by k_mem) i0 i63 q2 ?_); k_whole)
    k_steps
    rotate_right 1
    refine ⟨?_⟩
    k_dflt (refine' CS.use (name_spec w c b rules order _ ?bk ?rr h5) ?k1 ?k2 ?k3 ?k4 ?k5 ?kK ?kd ?ku ?_; ((case k1 | k2 | k3 | k4 | k5 => k_asm); (case kK => first | exact rfl | assumption); (case kd => ktr_room); (case ku => ktr_units)); (case bk => exact bkR.mono fun p hp => by simp only [List.mem_cons, hsub p hp, or_true]); (case rr => exact RR.mono fun p hp _ => by simp only [List.mem_cons, hsub p hp, or_true]))
    intro r4 h4 tk4 F4 N4 o4
    rw [hnm] at o4
    obtain ⟨t4, rfl⟩ := o4
    have hinv := taken_inv (c := c) hn h5 ha
    have htl := taken_len hinv
    have ht5 := hinv.lt5
    have hbt := best_taken hinv ha hbest
    generalize hisD : (takenF c order).2 = is at htl ht5 hbt F4 N4
    dsimp only
    k_steps
    rotate_left 6
    have hcs : (nameStr is).cps.size = is.length := by simp [nameStr]
    refine ⟨StrAt.intro (nameStr_ascii ht5) rfl (by k_asm) (by k_asm) (by rw [hcs, sizeLine_eq]; exact Nat.le_trans htl (by decide)) ?_⟩
    intro g10
    refine rest_inv (fun j ys => IntsAre ys ((is.take j).map (weightF c))) trivial ?turn ?fin _ 0 [] (Nat.zero_add _) .nil
    case turn =>
      intro j ys v I2 oI C oC2 D m₂ h tk E' hj hJ hP hC hx F N off
      obtain ⟨cc, uu, hcc, rfl⟩ := hP
      obtain ⟨k, hk, rfl⟩ := nameStr_at hcc
      have hk5 : k < 5 := ht5 k (List.mem_of_getElem? hk)
      obtain ⟨tc, hcl⟩ := cells_at hIc (k := k) (by omega)
      have c0 : (0 : Int) ≤ (k : Int) := by omega
      have c1 : (k : Int) < 2 ^ 63 := by omega
      k_with "subscriptTail Name Call ref int" => (k_dflt (refine item_N (by k_asm) (by k_mem) c0 c1 hcl ?_); k_whole)
      k_with "call builtin:str.index" => (k_dflt (refine SC.index (occ_abc k hk5) ?_))
      k_steps
      refine TOut.intro F N ?_
      rw [List.take_add_one, hk, List.map_append]
      exact intsAre_more hJ _ _
    case fin =>
      intro ys hys
      unfold LCg.FinE
      intro D8 h8 tk8 F8 N8 o8
      rw [hcs, List.take_length, ← hbt] at hys
      dsimp only
      k_steps
      rotate_right 1
      refine ⟨?_⟩
      k_dflt (refine' CS.use (taken_spec w cA bA oA cvs ovs c order ck bk ok _ ?hc ?hb ?ho hIc hlc hOI hn h5 ha) ?k1 ?k2 ?k3 ?k4 ?k5 ?kK ?kd ?ku ?_; ((case k1 | k2 | k3 | k4 | k5 => k_asm); (case kK => first | exact rfl | assumption); (case kd => ktr_room); (case ku => ktr_units)); (case hc => k_mem); (case hb => k_mem); (case ho => k_mem))
      intro r7 h7 tk7 F7 N7 o7
      rw [hisD] at o7
      obtain ⟨t7, rfl⟩ := o7
      dsimp only
      k_steps
      all_goals try first | exact Str.ofString "" | exact (0 : Nat) | exact Value.none
      · exfalso
        simp_all
        done
      · with_reducible rename News _ _ _ _ => N9
        with_reducible rename Fr _ _ _ _ => F9
        refine LEnd.on F9 N9 (fun p hp => by simp only [List.mem_cons, List.mem_append, hp, true_or, or_true]) fun nw' hs => ⟨fun p hp => hs p (by simp only [List.mem_cons, hsub p hp, or_true]) fun q => hoff p (k1 p hp) (List.mem_singleton.mp q), k2, k3, k4, k5⟩
    all_goals first | exact Str.ofString "" | exact (0 : Nat) | exact Value.none)
end
end Mine
set_option maxRecDepth 100000 in
set_option maxHeartbeats 8000000 in
theorem PySem.Challenge.cw_rl0026_01_holds : PySem.Challenge.rw_rl0026_01.Holds := by
  exact Mine.law_holds
