import PyProof.Rows.All
import Wide.All
import OpenK.AllK
import Wide.FinOn
import PySem.Challenge.RW_eu0024_01
open PySem PySem.W PyProof.Rows PySem.Calls
set_option Elab.async false

-- the head
namespace Mine
set_option maxRecDepth 100000 in
set_option maxHeartbeats 8000000 in
open_top hd for PySem.Challenge.rw_eu0024_01
end Mine

-- a draw
namespace Mine
theorem room_deeper {A : Around} {env : Env} {n : Nat} (h : A.depth + (n + 1) < recursionLimit) : (A.deeper env).depth + n < recursionLimit := by
  show A.depth + 1 + n < _; omega

set_option maxRecDepth 100000 in
set_option maxHeartbeats 4000000 in
theorem next_call {w : World} {A A₀ : Around} {base : Heap} {outer : List Env} {env : Env} {L : Addr} {h₀ : Heap} {m mg mb : Str → Option Value} {s : Shared}
    {E : Value → Shared → Prop} {Q : Value → Shared → Prop} {p : Program} {loose : List Str} {mean : ExcName → Option Value} {news own : List (Addr × Obj)}
    {st l0 : Addr} {vs : List Value} {ns : List Int} {n0 n : Nat} {i r : Int} {ti tr : Tok} {k : Int} {u : Tok}
    (X₀ : (hd.heap_39 w.params).In h₀) (T : Top p loose mean mg mb h₀) (B : Below A₀ base outer h₀) (F : Fr h₀ L s.heap m)
    (N : News h₀ L s.heap news) (hsub : ∀ q ∈ (st, listOf #[.ref l0, .int i ti, .int r tr] n) :: (l0, listOf vs.toArray n0) :: own, q ∈ news)
    (hoff : OwnOff own [st, l0]) (hne : @Ne Nat st l0) (hI : IntsAre vs ns) (hlen : ns.length ≤ 63)
    (hi0 : 0 ≤ i) (hr0 : 0 ≤ r) (hr1 : r < 2147483647) (hk0 : 0 < k) (hk1 : k < 1000)
    (hA : A.frames = some (env :: outer)) (hf : env.frame = some L) (hke : env.scope.kind = .function) (hroom : A.depth < recursionLimit) (hhd : A.handled = none)
    (h : ∀ h' tk (j : Int) (u' : Tok) (i' r' : Int) (ti' tr' : Tok) (n' : Nat), 0 ≤ j → j < k → 0 ≤ i' → 0 ≤ r' → r' < 2147483647 → Fr h₀ L h' m →
      News h₀ L h' ((st, listOf #[.ref l0, .int i' ti', .int r' tr'] n') :: (l0, listOf vs.toArray n0) :: own) → Q (.int j u') { s with heap := h', toks := tk }) :
    wpAny (model Challenge.rw_eu0024_01.row.prog w) A (call (.ref 26) [.ref st, .int k u]) Q E s := by
  have fill9 : (fun (_ : OpenLaw) (_ : Params → Frag) => True) Challenge.rw_eu0024_01 hd.heap_39 := by k_fill; trivial
  have N' : News h₀ L s.heap ((st, listOf #[.ref l0, .int i ti, .int r tr] n) :: (l0, listOf vs.toArray n0) :: own) := fun q hq => N q (hsub q hq)
  clear N hsub
  refine wpAny_call ?_
  refine' code_def ?k1 ?k2 ?k3 ?k4 ?k5 ?kA ?kF ?kK ?k6 ?k7 ?k8 ?k9 ?kB ?_ ?c2 ?c3 ?c4 ?c5; (case kA => exact hA); (case kF => exact hf); (case kK => exact hke); (case k1 => k_asm); (case k2 => k_asm); (case k3 => k_asm); (case k4 => k_asm); (case k5 => k_asm); (case k6 => k_is); (case k7 => k_is); (case k8 => exact hroom); (case k9 => first | exact BindsTo.of_eq rfl | exact binds_K (by k_in) rfl (by k_is) rfl rfl rfl | fail "k_enter: no rule for these arguments"); (case c5 => decide); (case kB => exact locs rfl); (case c2 => exact rfl); (case c3 => exact rfl); (case c4 => exact rfl)
  intro g' L' h' FG' F' N' B' X' T'; (try dsimp only); (try k_lift B'); (try k_fold)
  k_steps
  all_goals (refine h _ _ _ _ _ _ _ _ _ ?_ ?_ ?_ ?_ ?_ (by assumption) (by assumption))
  all_goals first
    | omega
    | exact Int.fmod_nonneg_of_pos _ (by omega)
    | exact Int.fmod_lt_of_pos _ (by omega)
    | skip
end Mine

-- the scan, and the parser's state
namespace Mine
noncomputable def scan : List Nat → Bool → List Nat → List (List Nat) → List (List Nat)
  | [], _, cur, acc => acc ++ [cur]
  | c :: [], q, cur, acc => if c = 34 then acc ++ [cur] else if c = 46 ∧ q = false then acc ++ [cur] ++ [[]] else acc ++ [cur ++ [c]]
  | c :: d :: r, q, cur, acc =>
    if c = 34 then (if q = true ∧ d = 34 then scan r q (cur ++ [34]) acc else scan (d :: r) (!q) cur acc)
    else if c = 46 ∧ q = false then scan (d :: r) q [] (acc ++ [cur])
    else scan (d :: r) q (cur ++ [c]) acc

/-- one step of the scan where no doubled quote stands -/
theorem scan_other {c : Nat} {r : List Nat} {q : Bool} {cur : List Nat} {acc : List (List Nat)} (h : c ≠ 34) (h' : ¬ (c = 46 ∧ q = false)) :
    scan (c :: r) q cur acc = scan r q (cur ++ [c]) acc := by
  cases r with
  | nil => simp [scan, h, h']
  | cons d r => rw [scan]; simp [h, h']
theorem scan_dot {c : Nat} {r : List Nat} {q : Bool} {cur : List Nat} {acc : List (List Nat)} (h : c = 46) (h' : q = false) :
    scan (c :: r) q cur acc = scan r q [] (acc ++ [cur]) := by
  subst h; subst h'
  cases r with
  | nil => simp [scan]
  | cons d r => rw [scan]; simp
theorem scan_two {r : List Nat} {cur : List Nat} {acc : List (List Nat)} :
    scan (34 :: 34 :: r) true cur acc = scan r true (cur ++ [34]) acc := by
  rw [scan]; simp
theorem scan_quote {r : List Nat} {q : Bool} {cur : List Nat} {acc : List (List Nat)} (h : ¬ (q = true ∧ r.head? = some 34)) :
    scan (34 :: r) q cur acc = scan r (!q) cur acc := by
  cases r with
  | nil => simp [scan]
  | cons d r =>
    rw [scan]
    have : ¬ (q = true ∧ d = 34) := by simpa using h
    simp [this]

noncomputable def singles (cs : List Nat) : List Str := cs.map fun c => (⟨#[c]⟩ : Str)
structure Tk where
  a : Addr
  vs : List Value
  n : Nat
noncomputable def Tk.ent (t : Tk) : Addr × Obj := (t.a, listOf t.vs.toArray t.n)
inductive TksAre : List Tk → List (List Nat) → Prop
  | nil : TksAre [] []
  | cons {t ts c cs} : StrsAre t.vs (singles c) → TksAre ts cs → TksAre (t :: ts) (c :: cs)
theorem TksAre.snoc {t c} (h : StrsAre t.vs (singles c)) : ∀ {ts cs}, TksAre ts cs → TksAre (ts ++ [t]) (cs ++ [c])
  | _, _, .nil => .cons h .nil
  | _, _, .cons h' r => .cons h' (r.snoc h)
theorem TksAre.length : ∀ {ts cs}, TksAre ts cs → ts.length = cs.length
  | _, _, .nil => rfl
  | _, _, .cons _ r => by rw [List.length_cons, List.length_cons, r.length]

structure PS where
  q : Bool
  cur : List Nat
  acc : List (List Nat)
  tks : List Tk
  ta : Addr
  tvs : List Value
  tn : Nat
  rn : Nat
  idx : Nat
  t1 : Tok
  t3 : Tok
noncomputable def PS.refs (c : PS) : List Value := c.tks.map (fun t => Value.ref t.a)
noncomputable def PS.led (rs nm : Addr) (on : Obj) (c : PS) : List (Addr × Obj) :=
  (rs, listOf (c.refs ++ [Value.ref c.ta]).toArray c.rn) :: (c.ta, listOf c.tvs.toArray c.tn) :: (nm, on) :: c.tks.map Tk.ent
noncomputable def PS.ps (c : PS) : List (Str × Value) := [(Str.ofString "state", .int (bif c.q then 1 else 0) c.t1), (Str.ofString "idx", .int c.idx c.t3)]
def PS.facts (x : Str) (rs nm : Addr) (c : PS) : Prop :=
  c.idx ≤ x.length ∧ c.cur.length ≤ c.idx ∧ c.acc.length ≤ c.idx ∧ StrsAre c.tvs (singles c.cur) ∧ TksAre c.tks c.acc ∧
  OwnOff (c.tks.map Tk.ent) [rs, c.ta, nm] ∧ @Ne Nat rs c.ta ∧ @Ne Nat rs nm ∧ @Ne Nat c.ta nm ∧ ∀ t ∈ c.acc, t.length ≤ x.length
def PS.word (x : Str) (R : List (List Nat)) (c : PS) : Prop := scan (x.cps.toList.drop c.idx) c.q c.cur c.acc = R
def PTurn (g' : Heap) (L' : Addr) (s : Shared) (x : Str) (rs nm : Addr) (on : Obj) (R : List (List Nat)) (m₀ : Str → Option Value) (c : PS) (f : Flow) (s₂ : Shared) : Prop :=
  f = .next ∧ KswEnd g' L' s (PS.led rs nm on) PS.ps (PS.facts x rs nm) [Str.ofString "char"] m₀ (PS.word x R) (fun c => x.length - c.idx) c s₂
theorem PTurn.post {g' : Heap} {L' : Addr} {s : Shared} {x : Str} {rs nm : Addr} {on : Obj} {R : List (List Nat)} {m₀ : Str → Option Value} {c : PS} {Q : Flow → Shared → Prop} {f : Flow} {s₂ : Shared}
    (h : PTurn g' L' s x rs nm on R m₀ c f s₂) : KswPost g' L' s (PS.led rs nm on) PS.ps (PS.facts x rs nm) [Str.ofString "char"] m₀ (PS.word x R) (fun c => x.length - c.idx) Q c f s₂ := by
  obtain ⟨rfl, h⟩ := h; exact h
theorem parse_while {prog : Program} {w : World} {A : Around} {Q : Flow → Shared → Prop} {s : Shared} {env : Env} {g' : Heap} {L' : Addr} {test : Expr} {body : List Stmt} {pos : Pos} {m₀ : Str → Option Value}
    {x : Str} {rs nm : Addr} {on : Obj} {R : List (List Nat)} (c₀ : PS)
    (F : Fr g' L' s.heap m₀) (N : News g' L' s.heap (PS.led rs nm on c₀)) (hf : PS.facts x rs nm c₀) (hk : ∀ p ∈ c₀.ps, m₀ p.1 = some p.2) (hp : PS.word x R c₀)
    (turn : ∀ (c : PS) (u : Str → Option Value) h tk, PS.facts x rs nm c → PS.word x R c → Fr g' L' h (kstB (fun z => if [Str.ofString "char"].contains z then u z else m₀ z) c.ps) → News g' L' h (PS.led rs nm on c) →
      wpAny (model prog w) A (isTrue test env (eval test env)) (fun b s₂ =>
        if b = true then wpAny (model prog w) A (execs body env) (PTurn g' L' s x rs nm on R m₀ c) (fun _ _ => False) s₂ else Q .next s₂) (fun _ _ => False) { s with heap := h, toks := tk }) :
    wpAny (model prog w) A (exec (.While test body [] pos) env) Q (fun _ _ => False) s := by
  refine ksw_while (PS.led rs nm on) PS.ps (PS.facts x rs nm) [Str.ofString "char"] (PS.word x R) (fun c => x.length - c.idx) c₀ F N hf hk hp ?_ PassesOwn.never
  intro c u h tk hfa hwo F1 N1
  refine wpAny_mono (turn c u h tk hfa hwo F1 N1) (fun b s₂ hb => ?_) (fun _ _ h => h)
  cases b with
  | false => simpa using hb
  | true =>
    simp only [if_true] at hb ⊢
    exact wpAny_mono hb (fun _ _ h => h.post) (fun _ _ h => h)
theorem PTurn.intro {g' : Heap} {L' : Addr} {s : Shared} {x : Str} {rs nm : Addr} {on : Obj} {R : List (List Nat)} {m₀ m' : Str → Option Value} {c : PS} {h' : Heap} {tk : Nat} {news' : List (Addr × Obj)} (c' : PS)
    (F : Fr g' L' h' m') (N : News g' L' h' news') (hn : ∀ p ∈ PS.led rs nm on c', p ∈ news') (hf : PS.facts x rs nm c') (hw : PS.word x R c') (hm : x.length - c'.idx < x.length - c.idx)
    (k1 : m' (Str.ofString "state") = some (.int (bif c'.q then 1 else 0) c'.t1)) (k2 : m' (Str.ofString "idx") = some (.int c'.idx c'.t3))
    (hr : ∀ z, z ≠ Str.ofString "state" → z ≠ Str.ofString "idx" → z ≠ Str.ofString "char" → m' z = m₀ z) :
    PTurn g' L' s x rs nm on R m₀ c .next { s with heap := h', toks := tk } := by
  refine ⟨rfl, ksw_end c' F N hn hf ?_ ?_ hw hm⟩
  · intro p hp
    simp only [PS.ps, List.mem_cons, List.not_mem_nil, or_false] at hp
    rcases hp with rfl | rfl
    · exact k1
    · exact k2
  · intro z h2 h3
    refine hr z (h2 _ (.head _)) (h2 _ (.tail _ (.head _))) ?_
    simpa using h3
theorem sub_last {prog : Program} {w : World} {A : Around} {E : Value → Shared → Prop} {s : Shared} {h₀ : Heap} {L l : Addr} {news : List (Addr × Obj)} {value slice : PySem.Expr} {xs : List Value} {n : Nat} {u : Tok} {v : Value} {Q : Value → Shared → Prop}
    (N : News h₀ L s.heap news) (hm : (l, listOf (xs ++ [v]).toArray n) ∈ news) (h : Q v s)
    (hs : subscripted slice false (.ref l) (.int (-1) u) = operate [.ref l, .int (-1) u] (getItem (.ref l) (.int (-1) u)) := by with_unfolding_all rfl) :
    wpAny (model prog w) A (subscriptTail value slice (.ref l) (.int (-1) u)) Q E s :=
  kde_neg (j := xs.length) ⟨_, (N _ hm).1, rfl, n, rfl⟩ (by decide) (by decide)
    (by rw [seqIndex_neg (by decide) (by rw [List.length_append, List.length_singleton]; omega), List.length_append, List.length_singleton]; congr 1; omega) (by simp) h hs
theorem app_at {prog : Program} {w : World} {A : Around} {E : Value → Shared → Prop} {s : Shared} {h₀ : Heap} {L D : Addr} {m : Str → Option Value} {news rest : List (Addr × Obj)} {vs : List Value} {n : Nat} {v : Value} {Q : Value → Shared → Prop}
    (F : Fr h₀ L s.heap m) (N : News h₀ L s.heap news) (hsub : ∀ p ∈ (D, listOf vs.toArray n) :: rest, p ∈ news) (hoff : ∀ p ∈ rest, p.1 ≠ D) (hsz : vs.length ≤ 16777216)
    (h : ∀ h', Fr h₀ L h' m → News h₀ L h' ((D, listOf (vs ++ [v]).toArray (n + 1)) :: rest) → Q .none { s with heap := h' }) : wpAny (model prog w) A (call (.builtin "list.append") [.ref D, v]) Q E s := by
  refine append_K F (fun p hp => N p (hsub p hp)) (.head hoff) (fun h' F' N' => h h' F' ?_) (by rw [List.size_toArray, sizeLine_eq]; exact hsz)
  rw [List.push_toArray] at N'
  exact N'
theorem app_at2 {prog : Program} {w : World} {A : Around} {E : Value → Shared → Prop} {s : Shared} {h₀ : Heap} {L D : Addr} {m : Str → Option Value} {news rest : List (Addr × Obj)} {vs : List Value} {n : Nat} {v : Value} {Q : Value → Shared → Prop}
    (F : Fr h₀ L s.heap m) (N : News h₀ L s.heap news) (hsub : ∀ p ∈ (D, listOf vs.toArray n) :: rest, p ∈ news) (hoff : ∀ p ∈ rest, p.1 ≠ D) (hsz : vs.length ≤ 16777216)
    (h : ∀ h' v', v' = v → Fr h₀ L h' m → News h₀ L h' ((D, listOf (vs ++ [v']).toArray (n + 1)) :: rest) → Q .none { s with heap := h' }) : wpAny (model prog w) A (call (.builtin "list.append") [.ref D, v]) Q E s :=
  app_at F N hsub hoff hsz fun h' => h h' v rfl
theorem item_code {x : Str} {idx : Nat} (h : idx < x.length) : ∃ c r, x.cps.toList.drop idx = c :: r ∧ Txt.item x (idx : Int) = ⟨#[c]⟩ := by
  have hs : idx < x.cps.toList.length := by simpa [Str.length] using h
  refine ⟨x.cps.toList[idx], x.cps.toList.drop (idx + 1), List.drop_eq_getElem_cons hs, ?_⟩
  rw [item_meets ⟨by omega, by omega⟩]
  simp only [Int.toNat_natCast]
  have hs' : idx < x.cps.size := by simpa using hs
  simp [hs']
theorem one_eq (c d : Nat) : ((⟨#[c]⟩ : Str) == ⟨#[d]⟩) = decide (c = d) := by
  rw [Bool.eq_iff_iff]; simp
theorem str_quote : (Str.ofString "\"") = ⟨#[34]⟩ := by decide +kernel
theorem str_dot : (Str.ofString ".") = ⟨#[46]⟩ := by decide +kernel
theorem singles_snoc (cur : List Nat) (c : Nat) : singles (cur ++ [c]) = singles cur ++ [⟨#[c]⟩] := by simp [singles]
theorem allLt_ne {d : Addr} {l : List (Addr × Obj)} (h : AllLt d l) : ∀ p ∈ l, p.1 ≠ d := by
  induction l with
  | nil => intro p hp; cases hp
  | cons a r ih =>
    have h' : @LT.lt Nat _ a.1 d ∧ AllLt d r := h
    obtain ⟨h1, h2⟩ := h'
    intro p hp
    rcases List.mem_cons.mp hp with e | hp
    · rw [e]; exact Nat.ne_of_lt h1
    · exact ih h2 p hp
theorem ite_two {c : Prop} [Decidable c] {a b : Prop} (h1 : c → a) (h2 : ¬ c → b) : if c then a else b := by
  by_cases h : c
  · rw [if_pos h]; exact h1 h
  · rw [if_neg h]; exact h2 h
theorem ite_l {c : Prop} [Decidable c] {a b : Prop} (h : c) (x : a) : if c then a else b := by rw [if_pos h]; exact x
theorem ite_r {c : Prop} [Decidable c] {a b : Prop} (h : ¬ c) (x : b) : if c then a else b := by rw [if_neg h]; exact x
end Mine

-- comprehensions of texts
namespace Mine
theorem strs_snoc {y : PySem.Str} {t : Tok} {vs : List Value} {ys : List PySem.Str} (h : StrsAre vs ys) : StrsAre (vs ++ [.str y t]) (ys ++ [y]) := h.append' (.cons _ _ .nil)

/-- a comprehension over n items whose elements are texts; the ledger may turn under `I` -/
theorem comp_rest {prog : Program} {w : World} {A : Around} {h₀ : Heap} {L : Addr} {m : Str → Option Value} {env : Env} {elt : Expr} {x : Str} {scope : Scope} {cl : List (Str × Addr)} {s : Shared} {S : List (Addr × Obj) → Prop} {P : Nat → Value → Prop} {Fin : List Value → List (Addr × Obj) → Prop} {news : List (Addr × Obj)}
    {n : Nat} (J : Nat → List Str → List (Addr × Obj) → Prop) (h0 : J 0 [] news)
    (turn : ∀ i outs nw v I oI C oC D m₂ ys h tk (E' : Value → Shared → Prop), i < n → J i outs nw → StrsAre ys outs → P i v → LCg.NsObj oC m₂ → m₂ x = some v → Fr h₀ L h m → News h₀ L h ((I, oI) :: (C, oC) :: (D, LCg.lst ys) :: nw) → LCg.Off3 I C D nw → ((@Ne Nat I C) ∧ (@Ne Nat I D) ∧ (@Ne Nat C D)) →
      wpAny (model prog w) A (eval elt (compEnvC scope cl C env)) (LCg.CompEnd h₀ L m { s with heap := h, toks := tk } I oI C oC D (LCg.lst ys) S (fun y nw' => ∃ z t, y = .str z t ∧ J (i + 1) (outs ++ [z]) nw')) E' { s with heap := h, toks := tk })
    (fin : ∀ ys outs nw, StrsAre ys outs → J n outs nw → Fin ys nw) : LCg.CompRest prog w A h₀ L m env elt x scope cl s S P Fin n 0 [] news := by
  have key : ∀ (j i : Nat) (ys : List Value) (outs : List Str) (nw : List (Addr × Obj)), i + j = n → StrsAre ys outs → J i outs nw → LCg.CompRest prog w A h₀ L m env elt x scope cl s S P Fin j i ys nw := by
    intro j
    induction j with
    | zero =>
      intro i ys outs nw hi hy hj
      have e : i = n := by omega
      subst e
      exact LCg.CompRest.zero (fin ys outs nw hy hj)
    | succ j ih =>
      intro i ys outs nw hi hy hj
      refine LCg.CompRest.succ ?_
      intro v I oI C oC D m₂ h tk E' hv hC hx F N off ne
      refine wpAny_mono (turn i outs nw v I oI C oC D m₂ ys h tk E' (by omega) hj hy hv hC hx F N off ne) (fun y s₂ hq => ?_) fun _ _ e => e
      obtain ⟨h', tk', nw', e, F', N', off', hS, z, t, rfl, hJ⟩ := hq
      exact ⟨h', tk', nw', e, F', N', off', hS, ih (i + 1) _ _ _ (by omega) (strs_snoc hy) hJ⟩
  exact key n 0 [] [] news (by omega) .nil h0

theorem tks_at : ∀ {tks : List Tk} {cs : List (List Nat)}, TksAre tks cs → ∀ {i : Nat} {v : Value}, (tks.map fun t => Value.ref t.a)[i]? = some v →
    ∃ (t : Tk) (c : List Nat), t ∈ tks ∧ cs[i]? = some c ∧ v = Value.ref t.a ∧ StrsAre t.vs (singles c)
  | _, _, .nil, i, v, h => by simp at h
  | _, _, .cons (t := t) (c := c) hs _, 0, v, h => by
    simp at h; exact ⟨t, c, .head _, rfl, h.symm, hs⟩
  | _, _, .cons _ r, i + 1, v, h => by
    obtain ⟨t, c, a, b, d, e⟩ := tks_at r (i := i) (v := v) (by simpa using h)
    exact ⟨t, c, .tail _ a, by simpa using b, d, e⟩
theorem str_nil : Str.ofString "" = (⟨#[]⟩ : Str) := by decide +kernel
theorem join_flat : ∀ l : List Str, (Str.join ⟨#[]⟩ l).cps.toList = (l.map (·.cps.toList)).flatten
  | [] => rfl
  | [x] => by simp [Str.join]
  | x :: y :: r => by
    rw [join_cons_cons, PySem.Str.cps_append, PySem.Str.cps_append, Array.toList_append, Array.toList_append, join_flat (y :: r)]
    simp
theorem singles_flat (c : List Nat) : ((singles c).map (·.cps.toList)).flatten = c := by
  induction c with
  | nil => rfl
  | cons a r ih => simp only [singles, List.map_cons, List.flatten_cons] at ih ⊢; rw [ih]; rfl
theorem join_singles (c : List Nat) : Txt.join (Str.ofString "") (singles c) = ⟨c.toArray⟩ := by
  unfold Txt.join
  rw [StrLaws.glued_eq_join, str_nil]
  have h := join_flat (singles c)
  rw [singles_flat] at h
  apply PySem.Str.ext'
  apply Array.ext'
  rw [h]
theorem singles_len (c : List Nat) : ((singles c).map (·.length)).sum + (singles c).length = 2 * c.length := by
  induction c with
  | nil => rfl
  | cons a r ih => simp only [singles, List.map_cons, List.sum_cons, List.length_cons, List.length_map] at ih ⊢; have : (⟨#[a]⟩ : Str).length = 1 := rfl; omega
end Mine

-- the parser
namespace Mine

local macro_rules | `(tactic| walk_at "ite") => `(tactic| first | refine ite_l (by assumption) ?_ | refine ite_r (by assumption) ?_)
set_option maxRecDepth 100000 in
set_option maxHeartbeats 4000000 in
theorem parse_call {w : World} {A A₀ : Around} {base : Heap} {outer : List Env} {env : Env} {L : Addr} {h₀ : Heap} {m mg mb : Str → Option Value} {s : Shared}
    {E : Value → Shared → Prop} {Q : Value → Shared → Prop} {p : Program} {loose : List Str} {mean : ExcName → Option Value} {nm : Addr} {on : Obj}
    {x : Str} {u : Tok} {ws : List Str}
    (X₀ : (hd.heap_39 w.params).In h₀) (T : Top p loose mean mg mb h₀) (B : Below A₀ base outer h₀) (F : Fr h₀ L s.heap m)
    (N : News h₀ L s.heap [(nm, on)]) (hx : x.length ≤ 1000)
    (hA : A.frames = some (env :: outer)) (hf : env.frame = some L) (hke : env.scope.kind = .function) (hroom : A.depth < recursionLimit) (hhd : A.handled = none)
    (hq : 34 ∈ x.cps.toList → ws = (scan x.cps.toList false [] []).map fun t => (⟨t.toArray⟩ : Str)) (hs : 34 ∉ x.cps.toList → ws = Txt.split x (Str.ofString "."))
    (hQ : ∀ h' tk D vs n, StrsAre vs ws → Fr h₀ L h' m → News h₀ L h' ((D, listOf vs.toArray n) :: [(nm, on)]) → Q (.ref D) { s with heap := h', toks := tk }) :
    wpAny (model Challenge.rw_eu0024_01.row.prog w) A (call (.ref 19) [.str x u]) Q E s := by
  have fill9 : (fun (_ : OpenLaw) (_ : Params → Frag) => True) Challenge.rw_eu0024_01 hd.heap_39 := by k_fill; trivial
  refine wpAny_noRaise ?_
  refine wpAny_call ?_
  refine' code_def ?k1 ?k2 ?k3 ?k4 ?k5 ?kA ?kF ?kK ?k6 ?k7 ?k8 ?k9 ?kB ?_ ?c2 ?c3 ?c4 ?c5; (case kA => exact hA); (case kF => exact hf); (case kK => exact hke); (case k1 => k_asm); (case k2 => k_asm); (case k3 => k_asm); (case k4 => k_asm); (case k5 => k_asm); (case k6 => k_is); (case k7 => k_is); (case k8 => exact hroom); (case k9 => first | exact BindsTo.of_eq rfl | exact binds_K (by k_in) rfl (by k_is) rfl rfl rfl | fail "k_enter: no rule for these arguments"); (case c5 => decide); (case kB => exact locs rfl); (case c2 => exact rfl); (case c3 => exact rfl); (case c4 => exact rfl)
  intro g' L' h' FG' F' N' B' X' T'; (try dsimp only); (try k_lift B'); refine wpAny_noRaise ?_; (try k_fold)
  iterate 9 (first | (k_unfold; (try dsimp only)) | (walk1 <;> (try dsimp only)) | (dsimp only; walk1))
  refine ite_two (fun hin => ?_) (fun hin => ?_)
  · iterate 35 (first | (k_unfold; (try dsimp only)) | (walk1 <;> (try dsimp only)) | (dsimp only; walk1))

    rename_i _ _ _ ta _ lt1 rs _ lt2 _ _ _ _ _ F1 N1
    have hmem : 34 ∈ x.cps.toList := by
      have e : (Str.ofString "\"") = ⟨#[34]⟩ := by decide +kernel
      rw [e, StrLaws.found_one] at hin
      simpa using hin
    have hws := hq hmem
    with_unfolding_all refine' parse_while (x := x) (rs := rs) (nm := nm) (on := on) (R := scan x.cps.toList false [] []) ⟨false, [], [], [], ta, [], 0, 0, 0, _, _⟩ F1 ?kn ?kf ?kk ?kp ?_
    case kn => exact N1
    case kf => refine ⟨Nat.zero_le _, Nat.le_refl _, Nat.le_refl _, .nil, .nil, (fun _ hp => nomatch hp), ?_, ?_, ?_, (fun _ hp => nomatch hp)⟩ <;> (try dsimp only) <;> omega
    case kk => intro p hp; simp only [PS.ps, List.mem_cons, List.not_mem_nil, or_false] at hp; rcases hp with rfl | rfl <;> rfl
    case kp => rfl
    clear F1 N1
    intro c u h tk hfa hwo F1 N1
    obtain ⟨q, cur, acc, tks, ta, tvs, tn, rn, idx, t1, t3⟩ := c
    obtain ⟨f1, f2, f3, f4, f5, f6, f7, f8, f9, f10⟩ := hfa
    dsimp only [PS.word, PS.led, PS.ps, PS.refs] at *
    generalize hown : tks.map Tk.ent = own at *
    (try k_fold)
    iterate 5 (first | (k_unfold; (try dsimp only)) | (walk1 <;> (try dsimp only)) | (dsimp only; walk1))
    refine split_dec ?_ ?_ <;> intro hlt
    · have hlt' : idx < x.length := by omega
      obtain ⟨c, r, hd, hit⟩ := item_code hlt'
      have hdl : x.cps.toList.drop (idx + 1) = r := by rw [← List.drop_drop, hd]; rfl
      rw [hd] at hwo
      have hb1' : (Txt.item x ↑idx == Str.ofString "\"") = decide (c = 34) := by rw [hit, str_quote, one_eq]
      have hb3' : (Txt.item x ↑idx == Str.ofString ".") = decide (c = 46) := by rw [hit, str_dot, one_eq]
      (try k_fold)
      cases q
      · dsimp only [cond, kstB] at F1
        by_cases hc : c = 34
        · have hb1 : (Txt.item x ↑idx == Str.ofString "\"") = true := by rw [hb1', decide_eq_true hc]
          iterate 45 (first | (k_unfold; (try dsimp only)) | (walk1 <;> (try dsimp only)) | (dsimp only; walk1))
          rename Fr _ _ _ _ => FF
          rename News _ _ _ _ => NN
          refine PTurn.intro ⟨true, cur, acc, tks, ta, tvs, tn, rn, idx + 1, _, _⟩ FF NN ?_ ?_ ?_ ?_ rfl rfl ?_
          · intro p hp; rw [← hown]; exact hp
          · refine ⟨hlt', by dsimp only; omega, by dsimp only; omega, f4, f5, by rw [hown]; exact f6, f7, f8, f9, f10⟩
          · show scan (x.cps.toList.drop (idx + 1)) true cur acc = _
            rw [hdl, ← hwo, hc, scan_quote (by simp)]; rfl
          · show x.length - (idx + 1) < x.length - idx; omega
          · intro z h1 h2 h3
            simp [h1, h2, h3]
        · have hb1 : ¬ ((Txt.item x ↑idx == Str.ofString "\"") = true) := by rw [hb1']; simpa using hc
          by_cases hc' : c = 46
          · have hb3 : ((Txt.item x ↑idx == Str.ofString ".") = true) := by rw [hb3', decide_eq_true hc']
            iterate 47 (first | (k_unfold; (try dsimp only)) | (walk1 <;> (try dsimp only)) | (dsimp only; walk1))
            rename Fr _ _ _ _ => F2
            rename News _ _ _ _ => N2
            rename _ ∧ _ ∧ _ ∧ AllLt _ _ => lt9
            rename_i tn9 _
            obtain ⟨g1, g2, g3, g4⟩ := lt9
            refine app_at (vs := tks.map (fun t => Value.ref t.a) ++ [Value.ref ta]) (n := rn) (rest := (tn9, listOf #[] 0) :: (ta, listOf tvs.toArray tn) :: (nm, on) :: own) F2 N2 ?_ ?_ ?_ ?_
            · intro p hp
              simp only [List.mem_cons] at hp ⊢
              rcases hp with h | h | h | h | h <;> simp [h]
            · refine List.forall_mem_cons.mpr ⟨Nat.ne_of_gt g1, List.forall_mem_cons.mpr ⟨f7.symm, List.forall_mem_cons.mpr ⟨f8.symm, fun p hp => f6 p hp rs (by simp)⟩⟩⟩
            · have := f5.length; simp; omega
            intro hq F3 N3
            clear F2 N2
            iterate 11 (first | (k_unfold; (try dsimp only)) | (walk1 <;> (try dsimp only)) | (dsimp only; walk1))
            rename Fr _ _ _ _ => FF
            rename News _ _ _ _ => NN
            refine PTurn.intro ⟨false, [], acc ++ [cur], tks ++ [⟨ta, tvs, tn⟩], tn9, [], 0, rn + 1, idx + 1, _, _⟩ FF NN ?_ ?_ ?_ ?_ rfl rfl ?_
            · intro p hp
              simp only [PS.led, PS.refs, List.mem_cons, List.map_append, List.map_cons, List.map_nil, List.mem_append, List.not_mem_nil, or_false, hown] at hp ⊢
              rcases hp with h | h | h | h | h
              · simp [h]
              · simp [h]
              · simp [h]
              · simp [h]
              · rw [h]; simp [Tk.ent]
            · refine ⟨hlt', by dsimp only; simp, ?_, .nil, f5.snoc f4, ?_, Nat.ne_of_lt g1, f8, Nat.ne_of_gt g3, ?_⟩
              · dsimp only; rw [List.length_append, List.length_singleton]; omega
              · dsimp only
                rw [List.map_append, hown]
                intro p hp b hb
                simp only [List.mem_append, List.map_cons, List.map_nil, List.mem_cons, List.not_mem_nil, or_false] at hp hb
                rcases hp with hp | rfl
                · rcases hb with rfl | rfl | rfl
                  · exact f6 p hp _ (by simp)
                  · exact allLt_ne g4 p hp
                  · exact f6 p hp _ (by simp)
                · rcases hb with rfl | rfl | rfl
                  · exact f7.symm
                  · exact Nat.ne_of_lt g2
                  · exact f9
              · intro t ht
                rcases List.mem_append.mp ht with ht | ht
                · exact f10 t ht
                · rw [List.mem_singleton.mp ht]; omega
            · show scan (x.cps.toList.drop (idx + 1)) false [] (acc ++ [cur]) = _
              rw [hdl, ← hwo, scan_dot hc' rfl]
            · show x.length - (idx + 1) < x.length - idx; omega
            · intro z h1 h2 h3
              simp [h1, h2, h3]
          · have hb3 : ¬ ((Txt.item x ↑idx == Str.ofString ".") = true) := by rw [hb3']; simpa using hc'
            iterate 36 (first | (k_unfold; (try dsimp only)) | (walk1 <;> (try dsimp only)) | (dsimp only; walk1))
            refine sub_last (by assumption) (.head _) ?_
            iterate 5 (first | (k_unfold; (try dsimp only)) | (walk1 <;> (try dsimp only)) | (dsimp only; walk1))
            rename Fr _ _ _ _ => F2
            rename News _ _ _ _ => N2
            refine app_at2 (vs := tvs) (n := tn) (rest := (rs, listOf (tks.map (fun t => Value.ref t.a) ++ [Value.ref ta]).toArray rn) :: (nm, on) :: own) F2 N2 ?_ ?_ ?_ ?_
            · intro p hp
              simp only [List.mem_cons] at hp ⊢
              rcases hp with h | h | h | h
              · exact .inr (.inl h)
              · exact .inl h
              · exact .inr (.inr (.inl h))
              · exact .inr (.inr (.inr h))
            · refine List.forall_mem_cons.mpr ⟨f7, List.forall_mem_cons.mpr ⟨f9.symm, fun p hp => f6 p hp ta (by simp)⟩⟩
            · have := f4.length; simp [singles] at this; omega
            intro hq v9 e9 F3 N3
            clear F2 N2
            iterate 11 (first | (k_unfold; (try dsimp only)) | (walk1 <;> (try dsimp only)) | (dsimp only; walk1))
            rename Fr _ _ _ _ => FF
            rename News _ _ _ _ => NN
            refine PTurn.intro ⟨false, cur ++ [c], acc, tks, ta, tvs ++ [v9], tn + 1, rn, idx + 1, _, _⟩ FF NN ?_ ?_ ?_ ?_ rfl rfl ?_
            rotate_left
            · refine ⟨hlt', ?_, by dsimp only; omega, ?_, f5, by rw [hown]; exact f6, f7, f8, f9, f10⟩
              · dsimp only; rw [List.length_append, List.length_singleton]; omega
              · dsimp only
                rw [singles_snoc, ← hit, e9]
                exact f4.append' (.cons _ _ .nil)
            · show scan (x.cps.toList.drop (idx + 1)) false (cur ++ [c]) acc = _
              rw [hdl, ← hwo, scan_other hc (by simp [hc'])]
            · show x.length - (idx + 1) < x.length - idx; omega
            · intro z h1 h2 h3
              simp [h1, h2, h3]
            · intro p hp
              simp only [PS.led, PS.refs, List.mem_cons, hown] at hp ⊢
              rcases hp with h | h | h | h <;> simp [h]
      · dsimp only [cond, kstB] at F1
        by_cases hc : c = 34
        · have hb1 : (Txt.item x ↑idx == Str.ofString "\"") = true := by rw [hb1', decide_eq_true hc]
          by_cases hr9 : r.head? = some 34
          · obtain ⟨r', hr'⟩ : ∃ r', r = 34 :: r' := by
              cases r with
              | nil => simp at hr9
              | cons d r' => simp at hr9; exact ⟨r', by rw [hr9]⟩
            have hlt2 : idx + 1 < x.length := by
              rw [hr'] at hdl
              have := congrArg List.length hdl
              simp [Str.length] at this ⊢
              omega
            have hdl2 : x.cps.toList.drop (idx + 2) = r' := by rw [← List.drop_drop, hd, hr']; rfl
            have hb4 : (Txt.item x (↑idx + 1) == Str.ofString "\"") = true := by
              obtain ⟨d, r2, hd2, hit2⟩ := item_code hlt2
              rw [hdl, hr'] at hd2
              have e : ((idx : Int) + 1) = ((idx + 1 : Nat) : Int) := by omega
              rw [e, hit2, str_quote, one_eq]
              simp at hd2
              simp [hd2.1]
            have hb5 : (idx : Int) < (x.length : Int) - 1 := by omega
            iterate 60 (first | (k_unfold; (try dsimp only)) | (walk1 <;> (try dsimp only)) | (dsimp only; walk1))
            refine sub_last (by assumption) (.head _) ?_
            iterate 5 (first | (k_unfold; (try dsimp only)) | (walk1 <;> (try dsimp only)) | (dsimp only; walk1))
            rename Fr _ _ _ _ => F2
            rename News _ _ _ _ => N2
            refine app_at2 (vs := tvs) (n := tn) (rest := (rs, listOf (tks.map (fun t => Value.ref t.a) ++ [Value.ref ta]).toArray rn) :: (nm, on) :: own) F2 N2 ?_ ?_ ?_ ?_
            · intro p hp
              simp only [List.mem_cons] at hp ⊢
              rcases hp with h | h | h | h
              · exact .inr (.inl h)
              · exact .inl h
              · exact .inr (.inr (.inl h))
              · exact .inr (.inr (.inr h))
            · refine List.forall_mem_cons.mpr ⟨f7, List.forall_mem_cons.mpr ⟨f9.symm, fun p hp => f6 p hp ta (by simp)⟩⟩
            · have := f4.length; simp [singles] at this; omega
            intro hq v9 e9 F3 N3
            clear F2 N2
            iterate 18 (first | (k_unfold; (try dsimp only)) | (walk1 <;> (try dsimp only)) | (dsimp only; walk1))
            rename Fr _ _ _ _ => FF
            rename News _ _ _ _ => NN
            refine PTurn.intro ⟨true, cur ++ [34], acc, tks, ta, tvs ++ [v9], tn + 1, rn, idx + 2, _, _⟩ FF NN ?_ ?_ ?_ ?_ rfl rfl ?_
            rotate_left
            · refine ⟨hlt2, ?_, by dsimp only; omega, ?_, f5, by rw [hown]; exact f6, f7, f8, f9, f10⟩
              · dsimp only; rw [List.length_append, List.length_singleton]; omega
              · dsimp only
                rw [singles_snoc, ← str_quote, e9]
                exact f4.append' (.cons _ _ .nil)
            · show scan (x.cps.toList.drop (idx + 2)) true (cur ++ [34]) acc = _
              rw [hdl2, ← hwo, hc, hr', scan_two]
            · show x.length - (idx + 2) < x.length - idx; omega
            · intro z h1 h2 h3
              simp [h1, h2, h3]
            · intro p hp
              simp only [PS.led, PS.refs, List.mem_cons, hown] at hp ⊢
              rcases hp with h | h | h | h <;> simp [h]
          · have hb6 : ¬ ((idx : Int) < (x.length : Int) - 1 ∧ (Txt.item x (↑idx + 1) == Str.ofString "\"") = true) := by
              rintro ⟨a1, a2⟩
              have hlt2 : idx + 1 < x.length := by omega
              obtain ⟨d, r2, hd2, hit2⟩ := item_code hlt2
              have e : ((idx : Int) + 1) = ((idx + 1 : Nat) : Int) := by omega
              rw [e, hit2, str_quote, one_eq] at a2
              rw [hdl] at hd2
              rw [hd2] at hr9
              simp at hr9 a2
              exact hr9 a2
            by_cases hb5 : (idx : Int) < (x.length : Int) - 1
            · have hb4 : ¬ ((Txt.item x (↑idx + 1) == Str.ofString "\"") = true) := fun a => hb6 ⟨hb5, a⟩
              iterate 68 (first | (k_unfold; (try dsimp only)) | (walk1 <;> (try dsimp only)) | (dsimp only; walk1))
              rename Fr _ _ _ _ => FF
              rename News _ _ _ _ => NN
              refine PTurn.intro ⟨false, cur, acc, tks, ta, tvs, tn, rn, idx + 1, _, _⟩ FF NN ?_ ?_ ?_ ?_ rfl rfl ?_
              · intro p hp; rw [← hown]; exact hp
              · refine ⟨hlt', by dsimp only; omega, by dsimp only; omega, f4, f5, by rw [hown]; exact f6, f7, f8, f9, f10⟩
              · show scan (x.cps.toList.drop (idx + 1)) false cur acc = _
                rw [hdl, ← hwo, hc, scan_quote (by simp [hr9])]; rfl
              · show x.length - (idx + 1) < x.length - idx; omega
              · intro z h1 h2 h3
                simp [h1, h2, h3]
            · iterate 55 (first | (k_unfold; (try dsimp only)) | (walk1 <;> (try dsimp only)) | (dsimp only; walk1))
              rename Fr _ _ _ _ => FF
              rename News _ _ _ _ => NN
              refine PTurn.intro ⟨false, cur, acc, tks, ta, tvs, tn, rn, idx + 1, _, _⟩ FF NN ?_ ?_ ?_ ?_ rfl rfl ?_
              · intro p hp; rw [← hown]; exact hp
              · refine ⟨hlt', by dsimp only; omega, by dsimp only; omega, f4, f5, by rw [hown]; exact f6, f7, f8, f9, f10⟩
              · show scan (x.cps.toList.drop (idx + 1)) false cur acc = _
                rw [hdl, ← hwo, hc, scan_quote (by simp [hr9])]; rfl
              · show x.length - (idx + 1) < x.length - idx; omega
              · intro z h1 h2 h3
                simp [h1, h2, h3]
        · have hb1 : ¬ ((Txt.item x ↑idx == Str.ofString "\"") = true) := by rw [hb1']; simpa using hc
          by_cases hc' : c = 46
          · have hb3 : ((Txt.item x ↑idx == Str.ofString ".") = true) := by rw [hb3', decide_eq_true hc']
            iterate 43 (first | (k_unfold; (try dsimp only)) | (walk1 <;> (try dsimp only)) | (dsimp only; walk1))
            refine sub_last (by assumption) (.head _) ?_
            iterate 5 (first | (k_unfold; (try dsimp only)) | (walk1 <;> (try dsimp only)) | (dsimp only; walk1))
            rename Fr _ _ _ _ => F2
            rename News _ _ _ _ => N2
            refine app_at2 (vs := tvs) (n := tn) (rest := (rs, listOf (tks.map (fun t => Value.ref t.a) ++ [Value.ref ta]).toArray rn) :: (nm, on) :: own) F2 N2 ?_ ?_ ?_ ?_
            · intro p hp
              simp only [List.mem_cons] at hp ⊢
              rcases hp with h | h | h | h
              · exact .inr (.inl h)
              · exact .inl h
              · exact .inr (.inr (.inl h))
              · exact .inr (.inr (.inr h))
            · refine List.forall_mem_cons.mpr ⟨f7, List.forall_mem_cons.mpr ⟨f9.symm, fun p hp => f6 p hp ta (by simp)⟩⟩
            · have := f4.length; simp [singles] at this; omega
            intro hq v9 e9 F3 N3
            clear F2 N2
            iterate 11 (first | (k_unfold; (try dsimp only)) | (walk1 <;> (try dsimp only)) | (dsimp only; walk1))
            rename Fr _ _ _ _ => FF
            rename News _ _ _ _ => NN
            refine PTurn.intro ⟨true, cur ++ [c], acc, tks, ta, tvs ++ [v9], tn + 1, rn, idx + 1, _, _⟩ FF NN ?_ ?_ ?_ ?_ rfl rfl ?_
            rotate_left
            · refine ⟨hlt', ?_, by dsimp only; omega, ?_, f5, by rw [hown]; exact f6, f7, f8, f9, f10⟩
              · dsimp only; rw [List.length_append, List.length_singleton]; omega
              · dsimp only
                rw [singles_snoc, ← hit, e9]
                exact f4.append' (.cons _ _ .nil)
            · show scan (x.cps.toList.drop (idx + 1)) true (cur ++ [c]) acc = _
              rw [hdl, ← hwo, scan_other hc (by simp)]
            · show x.length - (idx + 1) < x.length - idx; omega
            · intro z h1 h2 h3
              simp [h1, h2, h3]
            · intro p hp
              simp only [PS.led, PS.refs, List.mem_cons, hown] at hp ⊢
              rcases hp with h | h | h | h <;> simp [h]
          · have hb3 : ¬ ((Txt.item x ↑idx == Str.ofString ".") = true) := by rw [hb3']; simpa using hc'
            iterate 36 (first | (k_unfold; (try dsimp only)) | (walk1 <;> (try dsimp only)) | (dsimp only; walk1))
            refine sub_last (by assumption) (.head _) ?_
            iterate 5 (first | (k_unfold; (try dsimp only)) | (walk1 <;> (try dsimp only)) | (dsimp only; walk1))
            rename Fr _ _ _ _ => F2
            rename News _ _ _ _ => N2
            refine app_at2 (vs := tvs) (n := tn) (rest := (rs, listOf (tks.map (fun t => Value.ref t.a) ++ [Value.ref ta]).toArray rn) :: (nm, on) :: own) F2 N2 ?_ ?_ ?_ ?_
            · intro p hp
              simp only [List.mem_cons] at hp ⊢
              rcases hp with h | h | h | h
              · exact .inr (.inl h)
              · exact .inl h
              · exact .inr (.inr (.inl h))
              · exact .inr (.inr (.inr h))
            · refine List.forall_mem_cons.mpr ⟨f7, List.forall_mem_cons.mpr ⟨f9.symm, fun p hp => f6 p hp ta (by simp)⟩⟩
            · have := f4.length; simp [singles] at this; omega
            intro hq v9 e9 F3 N3
            clear F2 N2
            iterate 11 (first | (k_unfold; (try dsimp only)) | (walk1 <;> (try dsimp only)) | (dsimp only; walk1))
            rename Fr _ _ _ _ => FF
            rename News _ _ _ _ => NN
            refine PTurn.intro ⟨true, cur ++ [c], acc, tks, ta, tvs ++ [v9], tn + 1, rn, idx + 1, _, _⟩ FF NN ?_ ?_ ?_ ?_ rfl rfl ?_
            rotate_left
            · refine ⟨hlt', ?_, by dsimp only; omega, ?_, f5, by rw [hown]; exact f6, f7, f8, f9, f10⟩
              · dsimp only; rw [List.length_append, List.length_singleton]; omega
              · dsimp only
                rw [singles_snoc, ← hit, e9]
                exact f4.append' (.cons _ _ .nil)
            · show scan (x.cps.toList.drop (idx + 1)) true (cur ++ [c]) acc = _
              rw [hdl, ← hwo, scan_other hc (by simp)]
            · show x.length - (idx + 1) < x.length - idx; omega
            · intro z h1 h2 h3
              simp [h1, h2, h3]
            · intro p hp
              simp only [PS.led, PS.refs, List.mem_cons, hown] at hp ⊢
              rcases hp with h | h | h | h <;> simp [h]
    · have hidx : idx = x.length := by omega
      subst hidx
      have hR : acc ++ [cur] = scan x.cps.toList false [] [] := by
        rw [← hwo, List.drop_eq_nil_of_le (by simp [Str.length])]; rfl
      rw [← hR] at hws
      iterate 2 (first | (k_unfold; (try dsimp only)) | (walk1 <;> (try dsimp only)) | (dsimp only; walk1))
      k_dflt (refine LCg.ListComp_U (F₀ := by k_asm) (by with_unfolding_all rfl) (by decide) (by rfl) (by decide) (by rfl) ?_)
      iterate 1 (first | (k_unfold; (try dsimp only)) | (walk1 <;> (try dsimp only)) | (dsimp only; walk1))
      have hsz9 : tks.length ≤ 1000 := by have := f5.length; omega
      refine LCg.CompSrc.ledger (by exact hhd) F1 N1 (.head _) (by simp [sizeLine_eq]; omega) ?_
      intro g9
      have hz : (tks.map (fun t => Value.ref t.a) ++ [Value.ref ta]).toArray.size = (acc ++ [cur]).length := by simp [f5.length]
      rw [hz]
      have hall : TksAre (tks ++ [⟨ta, tvs, tn⟩]) (acc ++ [cur]) := f5.snoc f4
      refine comp_rest (fun i outs nw => outs = ((acc ++ [cur]).map fun t => (⟨t.toArray⟩ : Str)).take i ∧ nw = (rs, listOf (tks.map (fun t => Value.ref t.a) ++ [Value.ref ta]).toArray rn) :: (ta, listOf tvs.toArray tn) :: (nm, on) :: own) ⟨rfl, rfl⟩ ?_ ?_
      · rintro i outs nw v I oI C oC D m₂ ys hq tkq E' hi ⟨rfl, rfl⟩ hys hv hNs hxm F2 N2 off2 ne2
        obtain ⟨⟨ta9, tvs9, tn9⟩, c, hin, hc, rfl, hst⟩ := tks_at hall (i := i) (v := v) (by simpa using hv)
        dsimp only at hst hxm
        have hin2 : (ta9, listOf tvs9.toArray tn9) ∈ (rs, listOf (tks.map (fun t => Value.ref t.a) ++ [Value.ref ta]).toArray rn) :: (ta, listOf tvs.toArray tn) :: (nm, on) :: own := by
          rcases List.mem_append.mp hin with h | h
          · exact .tail _ (.tail _ (.tail _ (hown ▸ List.mem_map.mpr ⟨_, h, rfl⟩)))
          · rw [List.mem_singleton] at h; cases h; exact .tail _ (.head _)
        have hcl : c.length ≤ 1000 := by
          rcases List.mem_append.mp (List.mem_of_getElem? hc) with h | h
          · have := f10 c h; omega
          · rw [List.mem_singleton.mp h]; omega
        have N3 : News g' L' hq ((I, oI) :: (C, oC) :: (D, LCg.lst ys) :: (ta9, listOf tvs9.toArray tn9) :: []) := by
          intro p hp
          rcases List.mem_cons.mp hp with rfl | hp
          · exact N2 _ (.head _)
          rcases List.mem_cons.mp hp with rfl | hp
          · exact N2 _ (.tail _ (.head _))
          rcases List.mem_cons.mp hp with rfl | hp
          · exact N2 _ (.tail _ (.tail _ (.head _)))
          · rw [List.mem_singleton.mp hp]; exact N2 _ (.tail _ (.tail _ (.tail _ hin2)))
        iterate 8 (first | (k_unfold; (try dsimp only)) | (walk1 <;> (try dsimp only)) | (dsimp only; walk1))
        refine join_listW ⟨_, (N3 _ (.tail _ (.tail _ (.tail _ (.head _))))).1, rfl, tn9, rfl⟩ (by simpa using hst) (by decide +kernel) (by rw [singles_len]; omega) ?_
        intro t9 k9
        refine LCg.CompEnd.intro F2 N2 _ (fun p hp => hp) off2 (.inr ⟨_, .head _, rfl, _, rfl⟩) ⟨_, t9, rfl, ?_, rfl⟩
        rw [join_singles, List.take_add_one, List.getElem?_map, hc]
        rfl
      · rintro ys outs nw hys ⟨rfl, rfl⟩
        intro D h9 tk9 F9 N9 o9
        rw [List.take_of_length_le (by simp), ← hws] at hys
        iterate 2 (first | (k_unfold; (try dsimp only)) | (walk1 <;> (try dsimp only)) | (dsimp only; walk1))
        rename Fr _ _ _ _ => FF
        rename News _ _ _ _ => NN
        refine hQ _ _ D ys ys.length hys FF ?_
        intro p hp
        refine NN p ?_
        rcases List.mem_cons.mp hp with rfl | hp
        · exact .head _
        · rw [List.mem_singleton.mp hp]; exact .tail _ (.tail _ (.tail _ (.head _)))
  · have hmem : 34 ∉ x.cps.toList := by
      rw [str_quote, StrLaws.found_one] at hin
      simpa using hin
    have hws := hs hmem
    iterate 9 (first | (k_unfold; (try dsimp only)) | (walk1 <;> (try dsimp only)) | (dsimp only; walk1))
    refine KSpl.split1 (by assumption) (by assumption) (by decide +kernel) ?_ (by rw [sizeLine_eq]; omega)
    intro D l h9 k9 hl hst F9 N9 _
    rw [hl, ← hws] at hst
    iterate 2 (first | (k_unfold; (try dsimp only)) | (walk1 <;> (try dsimp only)) | (dsimp only; walk1))
    rename Fr _ _ _ _ => FF
    rename News _ _ _ _ => NN
    exact hQ _ _ _ _ _ hst FF NN
end Mine

-- the names' loop
namespace Mine
/-- neither a dot nor a quote -/
def Free (l : List Nat) : Prop := 46 ∉ l ∧ 34 ∉ l
/-- quotes doubled -/
noncomputable def dbl : List Nat → List Nat
  | [] => []
  | c :: r => if c = 34 then 34 :: 34 :: dbl r else c :: dbl r
theorem dbl_len : ∀ b : List Nat, (dbl b).length ≤ 2 * b.length
  | [] => Nat.le_refl _
  | c :: r => by
    have := dbl_len r
    unfold dbl
    split <;> simp only [List.length_cons] <;> omega
def Writes (n w : Str) : Prop :=
  n.length ≤ 5 ∧ ((Free n.cps.toList ∧ w = n) ∨
    ∃ a b c : List Nat, Free a ∧ Free c ∧ n.cps.toList = a ++ b ++ c ∧ w.cps.toList = a ++ (34 :: dbl b ++ [34]) ++ c)
inductive AllW : List Str → List Str → Prop
  | nil : AllW [] []
  | cons {n w ns ws} : Writes n w → AllW ns ws → AllW (n :: ns) (w :: ws)
theorem AllW.snoc {n w} (h : Writes n w) : ∀ {ns ws}, AllW ns ws → AllW (ns ++ [n]) (ws ++ [w])
  | _, _, .nil => .cons h .nil
  | _, _, .cons h' r => .cons h' (r.snoc h)
theorem AllW.length : ∀ {ns ws}, AllW ns ws → ns.length = ws.length
  | _, _, .nil => rfl
  | _, _, .cons _ r => by rw [List.length_cons, List.length_cons, r.length]

structure LS where
  i : Int
  r : Int
  ti : Tok
  tr : Tok
  n : Nat
  nvs : List Value
  names : List Str
  nn : Nat
  wvs : List Value
  written : List Str
  wn : Nat
noncomputable def LS.led (st l0 nm wr cell : Addr) (wsv : List Value) (oc : Obj) (c : LS) : List (Addr × Obj) :=
  (st, listOf #[.ref l0, .int c.i c.ti, .int c.r c.tr] c.n) :: (l0, listOf wsv.toArray 0) :: (nm, listOf c.nvs.toArray c.nn) :: (wr, listOf c.wvs.toArray c.wn) :: (cell, oc) :: []
def LS.facts (c : LS) : Prop := StrsAre c.nvs c.names ∧ StrsAre c.wvs c.written ∧ 0 ≤ c.i ∧ 0 ≤ c.r ∧ c.r < 2147483647
def LS.word (pre : List Int) (c : LS) : Prop := c.names.length = pre.length ∧ AllW c.names c.written ∧ ∀ n ∈ c.names, PyData.strOk n = true
noncomputable def lStored : List Str := [Str.ofString "name", Str.ofString "way", Str.ofString "cut", Str.ofString "ahead", Str.ofString "behind"]
def LTurn (h₀ : Heap) (L st l0 nm wr cell : Addr) (wsv : List Value) (oc : Obj) (m₀ : Str → Option Value) (pre : List Int) (own : List (Addr × Obj)) (adr : List Addr) (s₁ : Shared) (f : Flow) (s₂ : Shared) : Prop :=
  f = .next ∧ InvEndN h₀ L (KstS (LS.led st l0 nm wr cell wsv oc) (fun _ => []) LS.facts (Str.ofString "_") lStored m₀ LS.word pre) own adr s₁ s₂
theorem LTurn.intro {h₀ : Heap} {L st l0 nm wr cell : Addr} {wsv : List Value} {oc : Obj} {m₀ m' : Str → Option Value} {pre : List Int} {own news' : List (Addr × Obj)} {adr : List Addr} {s₁ : Shared} {h' : Heap} {tk : Nat} (c' : LS)
    (F : Fr h₀ L h' m') (N : News h₀ L h' news') (hn : ∀ p ∈ LS.led st l0 nm wr cell wsv oc c', p ∈ news') (ho : ∀ p ∈ own, p ∈ news') (ha : adr = [st, l0, nm, wr, cell]) (hf : c'.facts) (hw : c'.word pre)
    (hr : ∀ z, z ≠ Str.ofString "_" → z ∉ lStored → m' z = m₀ z) : LTurn h₀ L st l0 nm wr cell wsv oc m₀ pre own adr s₁ .next { s₁ with heap := h', toks := tk } :=
  ⟨rfl, kst_end c' F N hn ho ha.symm hf (fun _ hp => nomatch hp) (fun z h1 _ h3 => hr z h1 (by intro h; rw [List.contains_iff_mem.mpr h] at h3; cases h3)) hw⟩
theorem names_loop {prog : Program} {w : World} {A : Around} {s : Shared} {env : Env} {h₀ : Heap} {body : List Stmt} {Q : Flow → Shared → Prop} {r : Addr} {b₀ : Int} {t₀ u₀ v₀ : Tok} {n : Nat} {m₀ : Str → Option Value}
    {st l0 nm wr cell : Addr} {wsv : List Value} {oc : Obj} (c₀ : LS)
    (hh : A.handled = none) (hr : IsRange s.heap r 0 b₀ 1 t₀ u₀ v₀) (hb : b₀ = (n : Int)) (hb' : n ≤ 6) (F : Fr h₀ env.locals s.heap m₀) (N : News h₀ env.locals s.heap (LS.led st l0 nm wr cell wsv oc c₀)) (hf : c₀.facts) (hp : c₀.word [])
    (turn : ∀ (c : LS) (pre : List Int) (k : Int) t (u : Str → Option Value) h tk own, pre.length < n → OwnOff own [st, l0, nm, wr, cell] → c.facts → c.word pre →
      Fr h₀ env.locals h (fun y => if y = Str.ofString "_" then some (.int k t) else if lStored.contains y then u y else m₀ y) → News h₀ env.locals h (LS.led st l0 nm wr cell wsv oc c ++ own) →
      wpAny (model prog w) A (execs body env) (LTurn h₀ env.locals st l0 nm wr cell wsv oc m₀ (pre ++ [k]) own [st, l0, nm, wr, cell] { s with heap := h, toks := tk }) (fun _ _ => False) { s with heap := h, toks := tk })
    (done : ∀ (c : LS) (u : Str → Option Value) h tk, c.facts → c.names.length = n → AllW c.names c.written → (∀ n ∈ c.names, PyData.strOk n = true) → Fr h₀ env.locals h (fun y => if y = Str.ofString "_" then u y else if lStored.contains y then u y else m₀ y) → News h₀ env.locals h (LS.led st l0 nm wr cell wsv oc c) → Q .next { s with heap := h, toks := tk }) :
    wpAny (model prog w) A (pyIter (.ref r)) (fun it s₂ => LoopAtV prog w A h₀ env (Str.ofString "_") body Q (fun _ _ => False) it s₂) (fun _ _ => False) s := by
  subst hb
  refine kst_range (n := n) (LS.led st l0 nm wr cell wsv oc) (fun _ => []) LS.facts lStored LS.word c₀ hh hr (small_one (by decide) (by decide) (by omega) (by omega)) (by rw [rangeSize_nat]; simp) F N hf (fun _ hp => nomatch hp) hp ?_ ?_
  · intro c pre k t u h tk own _ hpre hoff hfa hwo F1 N1
    refine wpAny_mono (turn c pre k t u h tk own hpre hoff hfa hwo F1 N1) (fun f s₂ ht => ?_) fun _ _ e => e
    obtain ⟨rfl, ht⟩ := ht
    exact ht
  · intro c u h tk hfa hwo F1 N1
    refine done c u h tk hfa ?_ hwo.2.1 hwo.2.2 F1 N1
    rw [hwo.1, rangeKs_length]
theorem off_cons {p : Addr × Obj} {l : List (Addr × Obj)} {adr : List Addr} (h : ∀ b ∈ adr, p.1 ≠ b) (r : OwnOff l adr) : OwnOff (p :: l) adr := by
  intro q hq
  rcases List.mem_cons.mp hq with rfl | hq
  · exact h
  · exact r q hq
theorem off_two {a b c : Addr} (h1 : @Ne Nat c a) (h2 : @Ne Nat c b) : ∀ x ∈ [a, b], c ≠ x := by
  intro x hx
  simp only [List.mem_cons, List.not_mem_nil, or_false] at hx
  rcases hx with rfl | rfl
  · exact h1
  · exact h2
end Mine

-- the plain law
namespace Mine
noncomputable def jn (sep : List Nat) : List (List Nat) → List Nat
  | [] => []
  | [p] => p
  | p :: q :: r => p ++ sep ++ jn sep (q :: r)
theorem jn_cons (sep p : List Nat) {r : List (List Nat)} (h : r ≠ []) : jn sep (p :: r) = p ++ sep ++ jn sep r := by
  cases r with
  | nil => exact absurd rfl h
  | cons q r => rfl
theorem join_codes (sep : Str) : ∀ l : List Str, (Str.join sep l).cps.toList = jn sep.cps.toList (l.map (·.cps.toList))
  | [] => rfl
  | [x] => rfl
  | x :: y :: r => by
    rw [join_cons_cons, PySem.Str.cps_append, PySem.Str.cps_append, Array.toList_append, Array.toList_append, join_codes sep (y :: r)]
    rfl
theorem scan_free {r : List Nat} : ∀ {a cur : List Nat} {acc : List (List Nat)}, Free a → scan (a ++ r) false cur acc = scan r false (cur ++ a) acc
  | [], cur, acc, _ => by simp
  | c :: a, cur, acc, h => by
    have h1 : c ≠ 34 := fun e => h.2 (by simp [e])
    have h2 : c ≠ 46 := fun e => h.1 (by simp [e])
    rw [List.cons_append, scan_other h1 (by simp [h2]), scan_free (a := a) ⟨fun m => h.1 (.tail _ m), fun m => h.2 (.tail _ m)⟩]
    simp
theorem scan_in {r : List Nat} (hr : r.head? ≠ some 34) : ∀ {b cur : List Nat} {acc : List (List Nat)}, scan (dbl b ++ 34 :: r) true cur acc = scan r false (cur ++ b) acc
  | [], cur, acc => by
    show scan (34 :: r) true cur acc = _
    rw [scan_quote (by simp [hr])]
    simp
  | c :: b, cur, acc => by
    unfold dbl
    by_cases h : c = 34
    · subst h
      rw [if_pos rfl, List.cons_append, List.cons_append, scan_two, scan_in hr]
      simp
    · rw [if_neg h, List.cons_append, scan_other h (by simp), scan_in hr]
      simp
theorem head_free {c r : List Nat} (hc : 34 ∉ c) (hr : r.head? ≠ some 34) : (c ++ r).head? ≠ some 34 := by
  cases c with
  | nil => exact hr
  | cons d c => simp at hc ⊢; exact fun e => hc.1 e.symm
theorem scan_writes {n w : Str} {r : List Nat} (h : Writes n w) (hr : r.head? ≠ some 34) (acc : List (List Nat)) :
    scan (w.cps.toList ++ r) false [] acc = scan r false n.cps.toList acc := by
  rcases h.2 with ⟨hf, rfl⟩ | ⟨a, b, c, ha, hc, hn, hw⟩
  · rw [scan_free hf]; rfl
  · rw [hw, hn]
    have e : a ++ (34 :: dbl b ++ [34]) ++ c ++ r = a ++ (34 :: (dbl b ++ 34 :: (c ++ r))) := by simp
    rw [e, scan_free ha, scan_quote (by simp)]
    show scan (dbl b ++ 34 :: (c ++ r)) true _ acc = _
    rw [scan_in (head_free hc.2 hr), scan_free hc]
    simp
theorem scan_all : ∀ {names written : List Str}, AllW names written → names ≠ [] → ∀ acc, scan (jn [46] (written.map (·.cps.toList))) false [] acc = acc ++ names.map (·.cps.toList)
  | _, _, .cons (n := n) (w := w) (ns := ns) (ws := ws) h r, _, acc => by
    cases r with
    | nil =>
      show scan w.cps.toList false [] acc = _
      have := scan_writes h (r := []) (by simp) acc
      rw [List.append_nil] at this
      rw [this]; rfl
    | cons h' r' =>
      rw [List.map_cons, jn_cons _ _ (by simp), List.append_assoc, scan_writes h (by simp), List.cons_append, scan_dot rfl rfl, List.nil_append, scan_all (.cons h' r') (by simp)]
      simp
theorem mem_jn_of {sep : List Nat} {c : Nat} : ∀ {l : List (List Nat)} {p : List Nat}, p ∈ l → c ∈ p → c ∈ jn sep l
  | [q], p, hp, hc => by rw [List.mem_singleton] at hp; subst hp; exact hc
  | q :: q' :: r, p, hp, hc => by
    rw [jn_cons _ _ (by simp)]
    rcases List.mem_cons.mp hp with rfl | hp
    · simp [hc]
    · simp [mem_jn_of (sep := sep) hp hc]
theorem jn_inj {c : Nat} : ∀ {ps qs : List (List Nat)}, ps ≠ [] → qs ≠ [] → (∀ p ∈ ps, c ∉ p) → (∀ p ∈ qs, c ∉ p) → jn [c] ps = jn [c] qs → ps = qs := by
  have cut : ∀ {a b x y : List Nat}, c ∉ a → c ∉ b → a ++ c :: x = b ++ c :: y → a = b ∧ x = y := by
    intro a
    induction a with
    | nil =>
      intro b x y _ hb e
      cases b with
      | nil => simpa using e
      | cons d b => simp at e hb; exact absurd e.1 hb.1
    | cons d a ih =>
      intro b x y ha hb e
      cases b with
      | nil => simp at e ha; exact absurd e.1.symm ha.1
      | cons d' b =>
        simp only [List.cons_append, List.cons.injEq] at e
        obtain ⟨e1, e2⟩ := ih (fun m => ha (.tail _ m)) (fun m => hb (.tail _ m)) e.2
        exact ⟨by rw [e.1, e1], e2⟩
  intro ps
  induction ps with
  | nil => intro qs h; exact absurd rfl h
  | cons p r ih =>
    intro qs _ hq hps hqs e
    cases qs with
    | nil => exact absurd rfl hq
    | cons q r' =>
      have hp0 := hps p (.head _)
      have hq0 := hqs q (.head _)
      by_cases h1 : r = []
      · by_cases h2 : r' = []
        · subst h1; subst h2
          simpa [jn] using e
        · exfalso
          subst h1
          rw [jn_cons _ _ h2] at e
          apply hp0
          show c ∈ p
          have e' : p = q ++ [c] ++ jn [c] r' := e
          rw [e']; simp
      · by_cases h2 : r' = []
        · exfalso
          subst h2
          rw [jn_cons _ _ h1] at e
          have e' : p ++ [c] ++ jn [c] r = q := e
          apply hq0
          rw [← e']; simp
        · rw [jn_cons _ _ h1, jn_cons _ _ h2] at e
          have e' : p ++ c :: jn [c] r = q ++ c :: jn [c] r' := by simpa using e
          obtain ⟨e1, e2⟩ := cut hp0 hq0 e'
          rw [e1, ih h1 h2 (fun p hp => hps p (.tail _ hp)) (fun p hp => hqs p (.tail _ hp)) e2]
theorem codes_inj : ∀ {xs ys : List Str}, xs.map (·.cps.toList) = ys.map (·.cps.toList) → xs = ys
  | [], [], _ => rfl
  | [], _ :: _, h => by cases h
  | _ :: _, [], h => by cases h
  | x :: xs, y :: ys, h => by
    simp only [List.map_cons, List.cons.injEq] at h
    rw [codes_inj h.2, PySem.Str.ext' (Array.ext' h.1)]
theorem split_join {ws : List Str} {c : Nat} (h0 : ws ≠ []) (hf : ∀ w ∈ ws, c ∉ w.cps.toList) : Txt.split (Str.join ⟨#[c]⟩ ws) ⟨#[c]⟩ = ws := by
  have h1 := StrLaws.join_split (Str.join ⟨#[c]⟩ ws) ⟨#[c]⟩
  have h2 := StrLaws.split_free (Str.join ⟨#[c]⟩ ws) c
  have h3 := split_pos (Str.join ⟨#[c]⟩ ws) ⟨#[c]⟩
  have e := congrArg (·.cps.toList) h1
  simp only [join_codes] at e
  apply codes_inj
  refine jn_inj (c := c) (by intro h; simp at h; rw [h] at h3; simp at h3) (by simpa using h0) ?_ ?_ e
  · intro p hp
    obtain ⟨a, ha, rfl⟩ := List.mem_map.mp hp
    exact h2 a ha
  · intro p hp
    obtain ⟨a, ha, rfl⟩ := List.mem_map.mp hp
    exact hf a ha
theorem dbl_free : ∀ {p : List Nat} {r : List Nat}, 34 ∉ p → dbl (p ++ r) = p ++ dbl r
  | [], _, _ => rfl
  | c :: p, r, h => by
    simp only [List.mem_cons, not_or] at h
    rw [List.cons_append, dbl, if_neg (Ne.symm h.1), dbl_free h.2]; rfl
theorem dbl_jn : ∀ {ps : List (List Nat)}, (∀ p ∈ ps, 34 ∉ p) → dbl (jn [34] ps) = jn [34, 34] ps
  | [], _ => rfl
  | [p], h => by
    show dbl p = p
    have := dbl_free (p := p) (r := []) (h p (.head _))
    simpa [dbl] using this
  | p :: q :: r, h => by
    have e1 : jn [34] (p :: q :: r) = p ++ (34 :: jn [34] (q :: r)) := by rw [jn_cons _ _ (by simp)]; simp
    have e2 : jn [34, 34] (p :: q :: r) = p ++ (34 :: 34 :: jn [34, 34] (q :: r)) := by rw [jn_cons _ _ (by simp)]; simp
    rw [e1, e2, dbl_free (h p (.head _)), dbl, if_pos rfl, dbl_jn fun p hp => h p (.tail _ hp)]
theorem str_quote2 : (Str.ofString "\"\"") = ⟨#[34, 34]⟩ := by decide +kernel
theorem replace_dbl (x : Str) : (Txt.replace x (Str.ofString "\"") (Str.ofString "\"\"")).cps.toList = dbl x.cps.toList := by
  rw [str_quote, str_quote2, StrLaws.replace_one, join_codes]
  have h1 := StrLaws.join_split x ⟨#[34]⟩
  have h2 := StrLaws.split_free x 34
  have e := congrArg (·.cps.toList) h1
  simp only [join_codes] at e
  rw [← e, dbl_jn]
  intro p hp
  obtain ⟨a, ha, rfl⟩ := List.mem_map.mp hp
  exact h2 a ha
/-- the plain law, with a quote -/
theorem law_scan {names written : List Str} (h : AllW names written) (h0 : names ≠ []) :
    names = (scan (Str.join (Str.ofString ".") written).cps.toList false [] []).map fun t => (⟨t.toArray⟩ : Str) := by
  rw [join_codes, str_dot]
  rw [scan_all h h0, List.nil_append, List.map_map]
  exact (List.map_id _).symm
theorem allW_free : ∀ {names written : List Str}, AllW names written → (∀ w ∈ written, 34 ∉ w.cps.toList) → written = names ∧ ∀ n ∈ names, 46 ∉ n.cps.toList
  | _, _, .nil, _ => ⟨rfl, fun _ hn => nomatch hn⟩
  | _, _, .cons (n := n) (w := w) hw r, h => by
    obtain ⟨e, hd⟩ := allW_free r fun w hw => h w (.tail _ hw)
    rcases hw.2 with ⟨hf, rfl⟩ | ⟨a, b, c, ha, hc, hn, hw'⟩
    · refine ⟨by rw [e], fun n hn => ?_⟩
      rcases List.mem_cons.mp hn with rfl | hn
      · exact hf.1
      · exact hd n hn
    · exfalso
      apply h w (.head _)
      rw [hw']; simp
/-- the plain law, without one -/
theorem law_split {names written : List Str} (h : AllW names written) (h0 : names ≠ []) (hq : 34 ∉ (Str.join (Str.ofString ".") written).cps.toList) :
    names = Txt.split (Str.join (Str.ofString ".") written) (Str.ofString ".") := by
  rw [join_codes] at hq
  obtain ⟨rfl, hd⟩ := allW_free h fun w hw h34 => hq (mem_jn_of (List.mem_map.mpr ⟨w, hw, rfl⟩) h34)
  rw [str_dot, split_join h0 hd]
theorem jn_len {sep : List Nat} {k : Nat} : ∀ {l : List (List Nat)}, (∀ p ∈ l, p.length ≤ k) → (jn sep l).length ≤ l.length * (k + sep.length)
  | [], _ => Nat.zero_le _
  | [p], h => by have := h p (.head _); simp [jn]; omega
  | p :: q :: r, h => by
    have h1 := h p (.head _)
    have h2 := jn_len (sep := sep) (l := q :: r) fun p hp => h p (.tail _ hp)
    rw [jn_cons _ _ (by simp), List.length_append, List.length_append, List.length_cons (a := p), Nat.succ_mul]
    omega
theorem writes_len {n w : Str} (h : Writes n w) : w.length ≤ 12 := by
  have h5 := h.1
  rcases h.2 with ⟨_, rfl⟩ | ⟨a, b, c, _, _, hn, hw⟩
  · omega
  · have e1 := congrArg List.length hn
    have e2 := congrArg List.length hw
    have := dbl_len b
    simp only [Array.length_toList, List.length_append, List.length_cons, List.length_nil] at e1 e2
    show w.cps.size ≤ 12
    have h5' : n.cps.size ≤ 5 := h5
    omega
theorem allW_len : ∀ {names written : List Str}, AllW names written → ∀ w ∈ written, w.length ≤ 12
  | _, _, .cons h r, w, hw => by
    rcases List.mem_cons.mp hw with rfl | hw
    · exact writes_len h
    · exact allW_len r w hw
theorem law_len {names written : List Str} (h : AllW names written) (h6 : written.length ≤ 6) : (Str.join (Str.ofString ".") written).length ≤ 1000 := by
  show (Str.join (Str.ofString ".") written).cps.size ≤ 1000
  rw [← Array.length_toList, join_codes, str_dot]
  have := jn_len (sep := [46]) (k := 12) (l := written.map (·.cps.toList)) (by
    intro p hp
    obtain ⟨a, ha, rfl⟩ := List.mem_map.mp hp
    have := allW_len h a ha
    simpa [Str.length] using this)
  simp only [List.length_map, List.length_cons, List.length_nil] at this
  show (jn [46] _).length ≤ 1000
  omega
end Mine

-- a quoted text
namespace Mine

set_option maxRecDepth 100000 in
set_option maxHeartbeats 4000000 in
theorem quoted_call {w : World} {A A₀ : Around} {base : Heap} {outer : List Env} {env : Env} {L : Addr} {h₀ : Heap} {m mg mb : Str → Option Value} {s : Shared}
    {E : Value → Shared → Prop} {Q : Value → Shared → Prop} {p : Program} {loose : List Str} {mean : ExcName → Option Value} {news : List (Addr × Obj)}
    {x : Str} {u : Tok}
    (X₀ : (hd.heap_39 w.params).In h₀) (T : Top p loose mean mg mb h₀) (B : Below A₀ base outer h₀) (F : Fr h₀ L s.heap m)
    (N : News h₀ L s.heap news) (hx : x.length ≤ 5)
    (hA : A.frames = some (env :: outer)) (hf : env.frame = some L) (hke : env.scope.kind = .function) (hroom : A.depth < recursionLimit) (hhd : A.handled = none)
    (hQ : ∀ h' tk (y : Str) u', y.cps.toList = 34 :: dbl x.cps.toList ++ [34] → Fr h₀ L h' m → News h₀ L h' news → Q (.str y u') { s with heap := h', toks := tk }) :
    wpAny (model Challenge.rw_eu0024_01.row.prog w) A (call (.ref 33) [.str x u]) Q E s := by
  have fill9 : (fun (_ : OpenLaw) (_ : Params → Frag) => True) Challenge.rw_eu0024_01 hd.heap_39 := by k_fill; trivial
  refine wpAny_noRaise ?_
  refine wpAny_call ?_
  refine' code_def ?k1 ?k2 ?k3 ?k4 ?k5 ?kA ?kF ?kK ?k6 ?k7 ?k8 ?k9 ?kB ?_ ?c2 ?c3 ?c4 ?c5; (case kA => exact hA); (case kF => exact hf); (case kK => exact hke); (case k1 => k_asm); (case k2 => k_asm); (case k3 => k_asm); (case k4 => k_asm); (case k5 => k_asm); (case k6 => k_is); (case k7 => k_is); (case k8 => exact hroom); (case k9 => first | exact BindsTo.of_eq rfl | exact binds_K (by k_in) rfl (by k_is) rfl rfl rfl | fail "k_enter: no rule for these arguments"); (case c5 => decide); (case kB => exact locs rfl); (case c2 => exact rfl); (case c3 => exact rfl); (case c4 => exact rfl)
  intro g' L' h' FG' F' N' B' X' T'; (try dsimp only); (try k_lift B'); refine wpAny_noRaise ?_; (try k_fold)
  iterate 16 (first | (k_unfold; (try dsimp only)) | (walk1 <;> (try dsimp only)) | (dsimp only; walk1))
  have hlr : (Txt.replace x (Str.ofString "\"") (Str.ofString "\"\"")).length ≤ 10 := by
    show (Txt.replace x (Str.ofString "\"") (Str.ofString "\"\"")).cps.size ≤ 10
    rw [← Array.length_toList, replace_dbl]
    have := dbl_len x.cps.toList
    simp only [Array.length_toList] at this
    have : x.cps.size ≤ 5 := hx
    omega
  have hl1 : (Str.ofString "\"").length = 1 := by decide +kernel
  refine KOpn.add (by omega) ?_
  intro t9 k9 _
  iterate 1 (first | (k_unfold; (try dsimp only)) | (walk1 <;> (try dsimp only)) | (dsimp only; walk1))
  refine KOpn.add (by rw [Str.length_append]; omega) ?_
  intro t8 k8 _
  iterate 2 (first | (k_unfold; (try dsimp only)) | (walk1 <;> (try dsimp only)) | (dsimp only; walk1))
  rename Fr _ _ _ _ => FF
  rename News _ _ _ _ => NN
  refine hQ _ _ _ _ ?_ FF NN
  rw [PySem.Str.cps_append, PySem.Str.cps_append, Array.toList_append, Array.toList_append, replace_dbl, str_quote]
  rfl
end Mine

-- slices, the ways of writing
namespace Mine
theorem slice_of {x : Str} {l u : Option Int} {a b : Nat} (e : Builtin.Str.strSliceIndices l u 1 x.length = Builtin.Str.strSliceIndices (some (a : Int)) (some (b : Int)) 1 x.length) (hab : a ≤ b) (hb : b ≤ x.length) :
    (Txt.slice x l u).cps.toList = (x.cps.toList.drop a).take (b - a) := by
  unfold Txt.slice
  rw [e]
  split
  · rename_i h
    rw [StrLaws.strSliceIndices_plain hab hb] at h
    simp at h
    have hl : x.cps.toList.length = x.length := by simp [Str.length]
    have ha : a = 0 := by omega
    subst ha
    rw [List.drop_zero, List.take_of_length_le (by omega)]
  · rw [StrLaws.sliced_plain x hab hb]
theorem slice_ahead {x : Str} {j : Int} (h0 : 0 ≤ j) (h1 : j ≤ x.length) : (Txt.slice x none (some j)).cps.toList = x.cps.toList.take j.toNat := by
  have := slice_of (x := x) (l := none) (u := some j) (a := 0) (b := j.toNat) (by rw [Int.toNat_of_nonneg h0]; unfold Builtin.Str.strSliceIndices; simp; congr 1) (Nat.zero_le _) (by omega)
  simpa using this
theorem slice_behind {x : Str} {j : Int} (h0 : 0 ≤ j) (h1 : j ≤ x.length) : (Txt.slice x (some j) none).cps.toList = x.cps.toList.drop j.toNat := by
  have := slice_of (x := x) (l := some j) (u := none) (a := j.toNat) (b := x.length) (by rw [Int.toNat_of_nonneg h0]; unfold Builtin.Str.strSliceIndices; simp; congr 1; omega) (by omega) (Nat.le_refl _)
  rw [this, List.take_of_length_le (by simp [Str.length])]
theorem occ_dot (x : Str) : (!(Builtin.Str.occurrences x (Str.ofString ".") 0 x.length 1).isEmpty) = decide (46 ∈ x.cps.toList) := by rw [str_dot, StrLaws.found_one]
theorem occ_quote (x : Str) : (!(Builtin.Str.occurrences x (Str.ofString "\"") 0 x.length 1).isEmpty) = decide (34 ∈ x.cps.toList) := by rw [str_quote, StrLaws.found_one]

theorem writes_plain {n : Str} (h5 : n.length ≤ 5) (h1 : ¬ (!(Builtin.Str.occurrences n (Str.ofString ".") 0 n.length 1).isEmpty) = true) (h2 : ¬ (!(Builtin.Str.occurrences n (Str.ofString "\"") 0 n.length 1).isEmpty) = true) : Writes n n := by
  rw [occ_dot] at h1; rw [occ_quote] at h2
  exact ⟨h5, .inl ⟨⟨by simpa using h1, by simpa using h2⟩, rfl⟩⟩
theorem writes_quoted {n y : Str} (h5 : n.length ≤ 5) (hy : y.cps.toList = 34 :: dbl n.cps.toList ++ [34]) : Writes n y :=
  ⟨h5, .inr ⟨[], n.cps.toList, [], ⟨by simp, by simp⟩, ⟨by simp, by simp⟩, by simp, by rw [hy]; simp⟩⟩
theorem writes_behind {n a b y : Str} (h5 : n.length ≤ 5) (hn : n.cps.toList = a.cps.toList ++ b.cps.toList) (h1 : ¬ (!(Builtin.Str.occurrences a (Str.ofString ".") 0 a.length 1).isEmpty) = true) (h2 : ¬ (!(Builtin.Str.occurrences a (Str.ofString "\"") 0 a.length 1).isEmpty) = true)
    (hy : y.cps.toList = 34 :: dbl b.cps.toList ++ [34]) : Writes n (a ++ y) := by
  rw [occ_dot] at h1; rw [occ_quote] at h2
  refine ⟨h5, .inr ⟨a.cps.toList, b.cps.toList, [], ⟨by simpa using h1, by simpa using h2⟩, ⟨by simp, by simp⟩, by rw [hn]; simp, ?_⟩⟩
  rw [PySem.Str.cps_append, Array.toList_append, hy]; simp
theorem writes_ahead {n a b y : Str} (h5 : n.length ≤ 5) (hn : n.cps.toList = a.cps.toList ++ b.cps.toList) (h1 : ¬ (!(Builtin.Str.occurrences b (Str.ofString ".") 0 b.length 1).isEmpty) = true) (h2 : ¬ (!(Builtin.Str.occurrences b (Str.ofString "\"") 0 b.length 1).isEmpty) = true)
    (hy : y.cps.toList = 34 :: dbl a.cps.toList ++ [34]) : Writes n (y ++ b) := by
  rw [occ_dot] at h1; rw [occ_quote] at h2
  refine ⟨h5, .inr ⟨[], a.cps.toList, b.cps.toList, ⟨by simp, by simp⟩, ⟨by simpa using h1, by simpa using h2⟩, by rw [hn]; simp, ?_⟩⟩
  rw [PySem.Str.cps_append, Array.toList_append, hy]; simp

theorem quoted_len {x y : Str} (h : y.cps.toList = 34 :: dbl x.cps.toList ++ [34]) (hx : x.length ≤ 5) : y.length ≤ 12 := by
  have e := congrArg List.length h
  have := dbl_len x.cps.toList
  have hx' : x.cps.size ≤ 5 := hx
  simp only [Array.length_toList, List.length_append, List.length_cons, List.length_nil] at e this
  show y.cps.size ≤ 12
  omega
theorem nn_f {b : Bool} (h : (!b) = true) : ¬ (!!b) = true := by simpa using h
theorem nn_t {b : Bool} (h : ¬ (!b) = true) : (!!b) = true := by simpa using h
def IfEnd (h₀ : Heap) (L : Addr) (m : Str → Option Value) (n : Str) (wr : Addr) (wvs : List Value) (wn : Nat) (rest : List (Addr × Obj)) (s₁ : Shared) (f : Flow) (s₂ : Shared) : Prop :=
  f = .next ∧ ∃ wS tq hq tkq, s₂ = { s₁ with heap := hq, toks := tkq } ∧ Writes n wS ∧ Fr h₀ L hq m ∧ News h₀ L hq ((wr, listOf (wvs ++ [Value.str wS tq]).toArray (wn + 1)) :: rest)
theorem if_join {M : Model} {A : Around} {t : Sem Flow} {Q : Flow → Shared → Prop} {s : Shared} {h₀ : Heap} {L : Addr} {m : Str → Option Value} (n : Str) (wr : Addr) (wvs : List Value) (wn : Nat) (rest : List (Addr × Obj))
    (F9 : Fr h₀ L s.heap m) (h : wpAny M A t (IfEnd h₀ L m n wr wvs wn rest s) (fun _ _ => False) s)
    (k : ∀ wS tq hq tkq, Writes n wS → Fr h₀ L hq m → News h₀ L hq ((wr, listOf (wvs ++ [Value.str wS tq]).toArray (wn + 1)) :: rest) → Q .next { s with heap := hq, toks := tkq }) :
    wpAny M A t Q (fun _ _ => False) s := by
  refine wpAny_mono h (fun f s₂ hf => ?_) fun _ _ e => e
  obtain ⟨rfl, wS, tq, hq, tkq, rfl, hw, F, N⟩ := hf
  exact k wS tq hq tkq hw F N
end Mine

-- lists of texts
namespace Mine
open PyProof.V PySem.Spec
theorem cl_strs : ∀ {ns : List Str}, (∀ n ∈ ns, PyData.strOk n = true) → PyData.canLayAll0 (ns.map PyData.str) = true
  | [], _ => rfl
  | n :: r, h => by simp [PyData.canLayAll0, PyData.canLay0, cl_strs (ns := r) fun n hn => h n (.tail _ hn), h n (.head _)]
theorem depth_strs : ∀ ns : List Str, PyData.depthAll (ns.map PyData.str) = 0
  | [] => rfl
  | _ :: r => by simp [PyData.depthAll, PyData.depth, depth_strs r]
theorem shaped_strs {ns : List Str} (h : ∀ n ∈ ns, PyData.strOk n = true) : SeqAt.shaped (.list (ns.map PyData.str)) = true := by
  simp [SeqAt.shaped, PyData.canLay0, PyData.depth, cl_strs h, depth_strs]
theorem same_strs : ∀ ns : List Str, PySem.Spec.sameAll (ns.map PyData.str) (ns.map PyData.str) = true
  | [] => by simp [PySem.Spec.sameAll]
  | a :: r => by simp [List.map_cons, PySem.Spec.sameAll, PySem.Spec.same, same_strs r]
theorem eq_strs {prog : Program} {w : World} {A : Around} {E : Value → Shared → Prop} {s : Shared} {a b : Addr} {xs ys : List Value} {ns : List Str} {Q : Value → Shared → Prop}
    (ha : s.heap.IsList a xs.toArray) (hb : s.heap.IsList b ys.toArray) (hi : StrsAre xs ns) (hj : StrsAre ys ns) (hok : ∀ n ∈ ns, PyData.strOk n = true) (hu : A.units + 64 < cLine) (h : Q (.bool true) s) :
    wpAny (model prog w) A (compareOp .Eq (.ref a) (.ref b)) Q E s :=
  eq_dataH_same (reads_newData ha hi.carried) (reads_newData hb hj.carried) (shaped_strs hok) (shaped_strs hok) hu (SeqAt.noMix_of_shape (.list .str) rfl _ _ (list_map_has fun _ => rfl) (list_map_has fun _ => rfl)) (by simp only [PySem.Spec.same]; rw [same_strs]; exact h)
theorem allW_weight {names written : List Str} (h : AllW names written) : (written.map (·.length)).sum + written.length ≤ 13 * written.length := by
  induction h with
  | nil => simp
  | cons hw _ ih =>
    have := writes_len hw
    simp only [List.map_cons, List.sum_cons, List.length_cons]
    omega
end Mine

-- the law
namespace Mine
local macro_rules | `(tactic| walk_at "ite") => `(tactic| first | refine ite_l (by assumption) ?_ | refine ite_r (by assumption) ?_ | refine ite_l (nn_t (by assumption)) ?_ | refine ite_r (nn_f (by assumption)) ?_)
set_option maxRecDepth 100000 in
set_option maxHeartbeats 8000000 in
theorem law_holds : PySem.Challenge.rw_eu0024_01.Holds := hd (by
  w_strict (
    k_go0
    refine wpAny_noRaise ?_
    (try k_fold)
    iterate 59 (first | (k_unfold; (try dsimp only)) | walk1 | (dsimp only; walk1))
    rename_i w9 s0 s1 mg mb G Y fa o9 pm doc ho hg KX X9 V GL T9 B9 TE TW _ _ M9 _ cdv hcd9 ns hs9 _ hlay _ _ _ _ scr vs0 _ hL0 ra9 w19 r09 hI0 _ hc63 _ K0 hD9 h1 tk1 _ _ X09 l0 wsv _ hIs _ hLs q1 st _ q2 _ oc dc _ nm _ q3 wr _ q4 tup _ q5 _ _ _ F0 N0
    have hlen : (List.take 50 ns).length ≤ 63 := by simp; omega
    refine next_call (st := st) (l0 := l0) (vs := wsv) (n0 := 0) (own := [(nm, listOf #[] 0), (wr, listOf #[] 0), (s1.heap.objs.size + 1, oc)]) KX T9 K0 F0 N0 (by lcg_sub) ?_ ?_ hIs hlen (by decide) (by decide) (by decide) (by decide) (by decide) rfl rfl rfl (by k_room) rfl ?_
    · intro p hp b hb
      simp only [List.mem_cons, List.not_mem_nil, or_false] at hp hb
      rcases hp with rfl | rfl | rfl <;> rcases hb with rfl | rfl <;> (refine neN ?_; (try dsimp only); omega)
    · refine neN ?_; omega
    intro h2 tk2 j u2 i2 r2 ti2 tr2 n2 hj0 hj1 hi2 hr2 hr2' F2 N2
    clear F0 N0
    iterate 2 (first | (k_unfold; (try dsimp only)) | (walk1 <;> (try dsimp only)) | (dsimp only; walk1))
    refine range1_rows F2 N2 ?_
    intro h3 tk3 t3 u3 v3 R3 F3 N3 _
    clear F2 N2
    refine names_loop (st := st) (l0 := l0) (nm := nm) (wr := wr) (cell := s1.heap.objs.size + 1) (wsv := wsv) (oc := oc) (n := (1 + j).toNat) ⟨i2, r2, ti2, tr2, n2, [], [], 0, [], [], 0⟩ rfl R3 (by omega) (by omega) F3 N3 ⟨.nil, .nil, hi2, hr2, hr2'⟩ ⟨rfl, .nil, fun _ h => nomatch h⟩ ?_ ?_
    · intro c pre k t u h4 tk4 own hpre hoff hfa hwo F4 N4
      obtain ⟨i, r, ti, tr, n, nvs, names, nn, wvs, written, wn⟩ := c
      obtain ⟨f1, f2, f3, f4, f5⟩ := hfa
      obtain ⟨p1, p2, p3⟩ := hwo
      dsimp only [LS.led, List.cons_append, List.nil_append] at N4
      clear F3 N3 R3
      (try k_fold)
      dsimp only at f1 f2 f3 f4 f5 p1 p2 p3
      have hoffN : ∀ (X Y : Obj), OwnOff ((nm, X) :: (wr, Y) :: (s1.heap.objs.size + 1, oc) :: own) [st, l0] := by
        intro X Y
        refine off_cons (off_two (by omega) (by omega)) (off_cons (off_two (by omega) (by omega)) (off_cons (off_two (by omega) (by omega)) ?_))
        exact fun p hp b hb => hoff p hp b (by simp only [List.mem_cons, List.not_mem_nil, or_false] at hb ⊢; rcases hb with rfl | rfl <;> simp)
      iterate 21 (first | (k_unfold; (try dsimp only)) | (walk1 <;> (try dsimp only)) | (dsimp only; walk1))
      refine next_call (st := st) (l0 := l0) (vs := wsv) (n0 := 0) (own := (nm, listOf nvs.toArray nn) :: (wr, listOf wvs.toArray wn) :: (s1.heap.objs.size + 1, oc) :: own) KX T9 K0 F4 N4 (fun p hp => hp) (hoffN _ _) (by omega) hIs hlen f3 f4 f5 (by decide) (by decide) rfl rfl rfl (by k_room) rfl ?_
      intro h5 tk5 j5 u5 i5 r5 ti5 tr5 n5 hj50 hj51 hi5 hr5 hr5' F5 N5
      clear F4 N4
      iterate 1 (first | (k_unfold; (try dsimp only)) | (walk1 <;> (try dsimp only)) | (dsimp only; walk1))
      refine range1_rows F5 N5 ?_
      intro h6 tk6 t6 u6 v6 R6 F6 N6 _
      clear F5 N5
      refine LCg.CompSrc.range (n := j5.toNat) (by rfl) F6 N6 R6 (small_one (by decide) (by decide) (by omega) (by omega)) (by rw [rangeSize_nat]; simp) (by rw [sizeLine_eq]; omega) ?_
      intro g7
      refine comp_rest (fun i outs nw => ∃ (i3 r3 : Int) (ti3 tr3 : Tok) (n3 : Nat) (cs : List Nat), 0 ≤ i3 ∧ 0 ≤ r3 ∧ r3 < 2147483647 ∧ outs = singles cs ∧ cs.length = i ∧ (∀ c ∈ cs, c < 1114112) ∧
        nw = (st, listOf #[.ref l0, .int i3 ti3, .int r3 tr3] n3) :: (l0, listOf wsv.toArray 0) :: (nm, listOf nvs.toArray nn) :: (wr, listOf wvs.toArray wn) :: (s1.heap.objs.size + 1, oc) :: own) ⟨i5, r5, ti5, tr5, n5, [], hi5, hr5, hr5', rfl, rfl, (fun _ h => nomatch h), rfl⟩ ?_ ?_
      · rintro i8 outs nw v I oI C oC D m₂ ys h8 tk8 E' hi8 ⟨i3, r3, ti3, tr3, n3, cs, hi3, hr3, hr3', rfl, hcs, hcb, rfl⟩ hys hv hNs hxm F8 N8 off2 ne2
        have off3 := off2.mem
        have oS := off3 _ (.head _)
        have oL := off3 _ (.tail _ (.head _))
        iterate 12 (first | (k_unfold; (try dsimp only)) | (walk1 <;> (try dsimp only)) | (dsimp only; walk1))
        refine next_call (st := st) (l0 := l0) (vs := wsv) (n0 := 0) (n := n3) (i := i3) (r := r3) (ti := ti3) (tr := tr3) (own := (I, oI) :: (C, oC) :: (D, LCg.lst ys) :: (nm, listOf nvs.toArray nn) :: (wr, listOf wvs.toArray wn) :: (s1.heap.objs.size + 1, oc) :: own) KX T9 K0 F8 N8 ?_ ?_ (by omega) hIs hlen hi3 hr3 hr3' (by decide) (by decide) rfl rfl rfl (by k_room) rfl ?_
        · intro p hp
          simp only [List.mem_cons] at hp ⊢
          rcases hp with h | h | h | h | h | h | h | h | h <;> simp [h]
        · exact off_cons (off_two oS.1.symm oL.1.symm) (off_cons (off_two oS.2.1.symm oL.2.1.symm) (off_cons (off_two oS.2.2.symm oL.2.2.symm) (hoffN _ _)))
        intro h9 tk9 j9 u9 i9 r9' ti9 tr9 n9 hj90 hj91 hi9 hr9 hr9' F9 N9
        clear F8
        refine KXi.item (n := 6) (by decide +kernel) (by omega) (by omega) (by decide) (fun _ => ?_)
        obtain ⟨c9, hc9, hb9⟩ : ∃ c, Txt.item (Str.ofString "a.\" bB") j9 = ⟨#[c]⟩ ∧ c < 1114112 := by
          have e : (Str.ofString "a.\" bB").length = 6 := by decide +kernel
          have hall9 : ∀ c ∈ (Str.ofString "a.\" bB").cps.toList, c < 1114112 := by decide +kernel
          obtain ⟨c, r, hdr, h⟩ := item_code (x := Str.ofString "a.\" bB") (idx := j9.toNat) (by omega)
          rw [Int.toNat_of_nonneg hj90] at h
          have hm : c ∈ (Str.ofString "a.\" bB").cps.toList.drop j9.toNat := by rw [hdr]; exact List.mem_cons_self
          exact ⟨c, h, hall9 c (List.mem_of_mem_drop hm)⟩
        refine LCg.CompEnd.intro F9 N9 ((st, listOf #[.ref l0, .int i9 ti9, .int r9' tr9] n9) :: (l0, listOf wsv.toArray 0) :: (nm, listOf nvs.toArray nn) :: (wr, listOf wvs.toArray wn) :: (s1.heap.objs.size + 1, oc) :: own) ?_ ?_ trivial ⟨_, _, rfl, i9, r9', ti9, tr9, n9, cs ++ [c9], hi9, hr9, hr9', ?_, ?_, ?_, rfl⟩
        · intro p hp
          simp only [List.mem_cons] at hp ⊢
          rcases hp with h | h | h | h | h | h | h | h | h <;> simp [h]
        · exact ⟨oS, off2.2⟩
        · rw [singles_snoc, hc9]
        · rw [List.length_append, hcs]; rfl
        · intro c hc
          rcases List.mem_append.mp hc with hc | hc
          · exact hcb c hc
          · rw [List.mem_singleton.mp hc]; exact hb9
      · rintro ys outs nw hys ⟨i3, r3, ti3, tr3, n3, cs, hi3, hr3, hr3', rfl, hcs, hcb, rfl⟩
        intro D h9 tk9 F9 N9 o9
        iterate 1 (first | (k_unfold; (try dsimp only)) | (walk1 <;> (try dsimp only)) | (dsimp only; walk1))
        refine join_listW ⟨_, (N9 _ (.head _)).1, rfl, _, rfl⟩ (by simpa using hys) (by decide +kernel) (by rw [singles_len]; omega) ?_
        intro t10 k10
        obtain ⟨nmS, hnm⟩ : ∃ z : Str, z = ⟨cs.toArray⟩ := ⟨_, rfl⟩
        have hnl : nmS.length ≤ 5 := by rw [hnm]; show cs.toArray.size ≤ 5; rw [List.size_toArray]; omega
        have hnok : PyData.strOk nmS = true := by rw [hnm]; simpa [PyData.strOk] using hcb
        rw [join_singles, ← hnm]
        have N10 : News s1.heap s1.heap.objs.size h9 ((st, listOf #[.ref l0, .int i3 ti3, .int r3 tr3] n3) :: (l0, listOf wsv.toArray 0) :: (nm, listOf nvs.toArray nn) :: (wr, listOf wvs.toArray wn) :: (s1.heap.objs.size + 1, oc) :: own) := fun p hp => N9 p (.tail _ hp)
        clear N9 o9 hys
        iterate 15 (first | (k_unfold; (try dsimp only)) | (walk1 <;> (try dsimp only)) | (dsimp only; walk1))
        rename Fr _ _ _ _ => FA
        rename News _ _ _ _ => NA
        refine next_call (st := st) (l0 := l0) (vs := wsv) (n0 := 0) (own := (nm, listOf nvs.toArray nn) :: (wr, listOf wvs.toArray wn) :: (s1.heap.objs.size + 1, oc) :: own) KX T9 K0 FA NA (fun p hp => hp) (hoffN _ _) (by omega) hIs hlen hi3 hr3 hr3' (by decide) (by decide) rfl rfl rfl (by k_room) rfl ?_
        intro h11 tk11 way u11 i11 r11 ti11 tr11 n11 hw0 hw1 hi11 hr11 hr11' F11 N11
        clear FA NA
        iterate 19 (first | (k_unfold; (try dsimp only)) | (walk1 <;> (try dsimp only)) | (dsimp only; walk1))
        refine next_call (st := st) (l0 := l0) (vs := wsv) (n0 := 0) (own := (nm, listOf nvs.toArray nn) :: (wr, listOf wvs.toArray wn) :: (s1.heap.objs.size + 1, oc) :: own) KX T9 K0 F11 N11 (fun p hp => hp) (hoffN _ _) (by omega) hIs hlen hi11 hr11 hr11' (by omega) (by omega) rfl rfl rfl (by k_room) rfl ?_
        intro h12 tk12 cut u12 i12 r12 ti12 tr12 n12 hc0 hc1 hi12 hr12 hr12' F12 N12
        clear F11 N11
        iterate 44 (first | (k_unfold; (try dsimp only)) | (walk1 <;> (try dsimp only)) | (dsimp only; walk1))
        rename Fr _ _ _ _ => FI
        rename News _ _ _ _ => NI
        have hcut : nmS.cps.toList = (Txt.slice nmS none (some cut)).cps.toList ++ (Txt.slice nmS (some cut) none).cps.toList := by
          rw [slice_ahead hc0 (by omega), slice_behind hc0 (by omega), List.take_append_drop]
        have hal : (Txt.slice nmS none (some cut)).length ≤ nmS.length := Txt.slice_le _ _ _
        have hbl : (Txt.slice nmS (some cut) none).length ≤ nmS.length := Txt.slice_le _ _ _
        have hwl : wvs.length ≤ 16777216 := by
          have e1 := f2.length
          have e2 := p2.length
          omega
        have hnvl : nvs.length ≤ 16777216 := by
          have e1 := f1.length
          omega
        have NB := kst_newsOf (l' := (wr, listOf wvs.toArray wn) :: ((st, listOf #[.ref l0, .int i12 ti12, .int r12 tr12] n12) :: (l0, listOf wsv.toArray 0) :: (nm, listOf nvs.toArray nn) :: (s1.heap.objs.size + 1, oc) :: own)) NI (by
          intro p hp
          simp only [List.mem_cons] at hp ⊢
          rcases hp with h | h | h | h | h | h <;> simp [h])
        clear NI
        have hoffW : ∀ p ∈ ((st, listOf #[.ref l0, .int i12 ti12, .int r12 tr12] n12) :: (l0, listOf wsv.toArray 0) :: (nm, listOf nvs.toArray nn) :: (s1.heap.objs.size + 1, oc) :: own), p.1 ≠ wr := by
          refine List.forall_mem_cons.mpr ⟨neN (by omega), List.forall_mem_cons.mpr ⟨neN (by omega), List.forall_mem_cons.mpr ⟨neN (by omega), List.forall_mem_cons.mpr ⟨neN (by omega), fun p hp => hoff p hp wr (by simp)⟩⟩⟩⟩
        refine if_join nmS wr wvs wn ((st, listOf #[.ref l0, .int i12 ti12, .int r12 tr12] n12) :: (l0, listOf wsv.toArray 0) :: (nm, listOf nvs.toArray nn) :: (s1.heap.objs.size + 1, oc) :: own) FI ?_ ?_
        · (try k_fold)
          by_cases w1 : way = 1
          · skip
            have b1 : (way == 1) = true := by simp [w1]
            have b2 : ¬ (way == 2) = true := by simp [w1]
            have b3 : ¬ (way == 3) = true := by simp [w1]
            by_cases d1 : (!(Builtin.Str.occurrences (nmS) (Str.ofString ".") 0 (nmS).length 1).isEmpty) = true
            · skip
              iterate 53 (first | (k_unfold; (try dsimp only)) | (walk1 <;> (try dsimp only)) | (dsimp only; walk1))
              rename Fr _ _ _ _ => FF
              rename News _ _ _ _ => NN
              refine quoted_call KX T9 K0 FF NN hnl rfl rfl rfl (by k_room) rfl ?_
              intro hy tky y uy hyc FY NY
              clear FF NN
              iterate 1 (first | (k_unfold; (try dsimp only)) | (walk1 <;> (try dsimp only)) | (dsimp only; walk1))
              rename Fr _ _ _ _ => FF
              rename News _ _ _ _ => NN
              refine app_at (vs := wvs) (n := wn) (rest := ((st, listOf #[.ref l0, .int i12 ti12, .int r12 tr12] n12) :: (l0, listOf wsv.toArray 0) :: (nm, listOf nvs.toArray nn) :: (s1.heap.objs.size + 1, oc) :: own)) FF NN (fun p hp => hp) hoffW (by omega) ?_
              intro hq FQ NQ
              clear FF NN
              iterate 4 (first | (k_unfold; (try dsimp only)) | (walk1 <;> (try dsimp only)) | (dsimp only; walk1))
              exact ⟨rfl, _, _, _, _, rfl, writes_quoted hnl hyc, FQ, NQ⟩
            · skip
              by_cases d2 : (!(Builtin.Str.occurrences (nmS) (Str.ofString "\"") 0 (nmS).length 1).isEmpty) = true
              · skip
                iterate 60 (first | (k_unfold; (try dsimp only)) | (walk1 <;> (try dsimp only)) | (dsimp only; walk1))
                rename Fr _ _ _ _ => FF
                rename News _ _ _ _ => NN
                refine quoted_call KX T9 K0 FF NN hnl rfl rfl rfl (by k_room) rfl ?_
                intro hy tky y uy hyc FY NY
                clear FF NN
                iterate 1 (first | (k_unfold; (try dsimp only)) | (walk1 <;> (try dsimp only)) | (dsimp only; walk1))
                rename Fr _ _ _ _ => FF
                rename News _ _ _ _ => NN
                refine app_at (vs := wvs) (n := wn) (rest := ((st, listOf #[.ref l0, .int i12 ti12, .int r12 tr12] n12) :: (l0, listOf wsv.toArray 0) :: (nm, listOf nvs.toArray nn) :: (s1.heap.objs.size + 1, oc) :: own)) FF NN (fun p hp => hp) hoffW (by omega) ?_
                intro hq FQ NQ
                clear FF NN
                iterate 4 (first | (k_unfold; (try dsimp only)) | (walk1 <;> (try dsimp only)) | (dsimp only; walk1))
                exact ⟨rfl, _, _, _, _, rfl, writes_quoted hnl hyc, FQ, NQ⟩
              · skip
                iterate 34 (first | (k_unfold; (try dsimp only)) | (walk1 <;> (try dsimp only)) | (dsimp only; walk1))
                rename Fr _ _ _ _ => FF
                rename News _ _ _ _ => NN
                refine app_at (vs := wvs) (n := wn) (rest := ((st, listOf #[.ref l0, .int i12 ti12, .int r12 tr12] n12) :: (l0, listOf wsv.toArray 0) :: (nm, listOf nvs.toArray nn) :: (s1.heap.objs.size + 1, oc) :: own)) FF NN (fun p hp => hp) hoffW (by omega) ?_
                intro hq FQ NQ
                clear FF NN
                iterate 2 (first | (k_unfold; (try dsimp only)) | (walk1 <;> (try dsimp only)) | (dsimp only; walk1))
                exact ⟨rfl, _, _, _, _, rfl, writes_plain hnl d1 d2, FQ, NQ⟩
          · skip
            have b1 : ¬ (way == 1) = true := by simp [w1]
            by_cases w2 : way = 2
            · skip
              have b2 : (way == 2) = true := by simp [w2]
              have b3 : ¬ (way == 3) = true := by simp [w2]
              by_cases d1 : (!(Builtin.Str.occurrences (Txt.slice nmS none (some cut)) (Str.ofString ".") 0 (Txt.slice nmS none (some cut)).length 1).isEmpty) = true
              · skip
                iterate 53 (first | (k_unfold; (try dsimp only)) | (walk1 <;> (try dsimp only)) | (dsimp only; walk1))
                rename Fr _ _ _ _ => FF
                rename News _ _ _ _ => NN
                refine quoted_call KX T9 K0 FF NN hnl rfl rfl rfl (by k_room) rfl ?_
                intro hy tky y uy hyc FY NY
                clear FF NN
                iterate 1 (first | (k_unfold; (try dsimp only)) | (walk1 <;> (try dsimp only)) | (dsimp only; walk1))
                rename Fr _ _ _ _ => FF
                rename News _ _ _ _ => NN
                refine app_at (vs := wvs) (n := wn) (rest := ((st, listOf #[.ref l0, .int i12 ti12, .int r12 tr12] n12) :: (l0, listOf wsv.toArray 0) :: (nm, listOf nvs.toArray nn) :: (s1.heap.objs.size + 1, oc) :: own)) FF NN (fun p hp => hp) hoffW (by omega) ?_
                intro hq FQ NQ
                clear FF NN
                iterate 4 (first | (k_unfold; (try dsimp only)) | (walk1 <;> (try dsimp only)) | (dsimp only; walk1))
                exact ⟨rfl, _, _, _, _, rfl, writes_quoted hnl hyc, FQ, NQ⟩
              · skip
                by_cases d2 : (!(Builtin.Str.occurrences (Txt.slice nmS none (some cut)) (Str.ofString "\"") 0 (Txt.slice nmS none (some cut)).length 1).isEmpty) = true
                · skip
                  iterate 60 (first | (k_unfold; (try dsimp only)) | (walk1 <;> (try dsimp only)) | (dsimp only; walk1))
                  rename Fr _ _ _ _ => FF
                  rename News _ _ _ _ => NN
                  refine quoted_call KX T9 K0 FF NN hnl rfl rfl rfl (by k_room) rfl ?_
                  intro hy tky y uy hyc FY NY
                  clear FF NN
                  iterate 1 (first | (k_unfold; (try dsimp only)) | (walk1 <;> (try dsimp only)) | (dsimp only; walk1))
                  rename Fr _ _ _ _ => FF
                  rename News _ _ _ _ => NN
                  refine app_at (vs := wvs) (n := wn) (rest := ((st, listOf #[.ref l0, .int i12 ti12, .int r12 tr12] n12) :: (l0, listOf wsv.toArray 0) :: (nm, listOf nvs.toArray nn) :: (s1.heap.objs.size + 1, oc) :: own)) FF NN (fun p hp => hp) hoffW (by omega) ?_
                  intro hq FQ NQ
                  clear FF NN
                  iterate 4 (first | (k_unfold; (try dsimp only)) | (walk1 <;> (try dsimp only)) | (dsimp only; walk1))
                  exact ⟨rfl, _, _, _, _, rfl, writes_quoted hnl hyc, FQ, NQ⟩
                · skip
                  by_cases d3 : ((Txt.slice nmS (some cut) none) != Str.ofString "") = true
                  · skip
                    iterate 59 (first | (k_unfold; (try dsimp only)) | (walk1 <;> (try dsimp only)) | (dsimp only; walk1))
                    rename Fr _ _ _ _ => FF
                    rename News _ _ _ _ => NN
                    refine quoted_call KX T9 K0 FF NN (by omega) rfl rfl rfl (by k_room) rfl ?_
                    intro hy tky y uy hyc FY NY
                    clear FF NN
                    have hyl := quoted_len hyc (by omega)
                    refine KOpn.add (by omega) ?_
                    intro ta9 ka9 _
                    iterate 1 (first | (k_unfold; (try dsimp only)) | (walk1 <;> (try dsimp only)) | (dsimp only; walk1))
                    rename Fr _ _ _ _ => FF
                    rename News _ _ _ _ => NN
                    refine app_at (vs := wvs) (n := wn) (rest := ((st, listOf #[.ref l0, .int i12 ti12, .int r12 tr12] n12) :: (l0, listOf wsv.toArray 0) :: (nm, listOf nvs.toArray nn) :: (s1.heap.objs.size + 1, oc) :: own)) FF NN (fun p hp => hp) hoffW (by omega) ?_
                    intro hq FQ NQ
                    clear FF NN
                    iterate 3 (first | (k_unfold; (try dsimp only)) | (walk1 <;> (try dsimp only)) | (dsimp only; walk1))
                    exact ⟨rfl, _, _, _, _, rfl, writes_behind hnl hcut d1 d2 hyc, FQ, NQ⟩
                  · skip
                    iterate 67 (first | (k_unfold; (try dsimp only)) | (walk1 <;> (try dsimp only)) | (dsimp only; walk1))
                    rename Fr _ _ _ _ => FF
                    rename News _ _ _ _ => NN
                    refine quoted_call KX T9 K0 FF NN hnl rfl rfl rfl (by k_room) rfl ?_
                    intro hy tky y uy hyc FY NY
                    clear FF NN
                    iterate 1 (first | (k_unfold; (try dsimp only)) | (walk1 <;> (try dsimp only)) | (dsimp only; walk1))
                    rename Fr _ _ _ _ => FF
                    rename News _ _ _ _ => NN
                    refine app_at (vs := wvs) (n := wn) (rest := ((st, listOf #[.ref l0, .int i12 ti12, .int r12 tr12] n12) :: (l0, listOf wsv.toArray 0) :: (nm, listOf nvs.toArray nn) :: (s1.heap.objs.size + 1, oc) :: own)) FF NN (fun p hp => hp) hoffW (by omega) ?_
                    intro hq FQ NQ
                    clear FF NN
                    iterate 4 (first | (k_unfold; (try dsimp only)) | (walk1 <;> (try dsimp only)) | (dsimp only; walk1))
                    exact ⟨rfl, _, _, _, _, rfl, writes_quoted hnl hyc, FQ, NQ⟩
            · skip
              have b2 : ¬ (way == 2) = true := by simp [w2]
              by_cases w3 : way = 3
              · skip
                have b3 : (way == 3) = true := by simp [w3]
                by_cases d1 : (!(Builtin.Str.occurrences (Txt.slice nmS (some cut) none) (Str.ofString ".") 0 (Txt.slice nmS (some cut) none).length 1).isEmpty) = true
                · skip
                  iterate 53 (first | (k_unfold; (try dsimp only)) | (walk1 <;> (try dsimp only)) | (dsimp only; walk1))
                  rename Fr _ _ _ _ => FF
                  rename News _ _ _ _ => NN
                  refine quoted_call KX T9 K0 FF NN hnl rfl rfl rfl (by k_room) rfl ?_
                  intro hy tky y uy hyc FY NY
                  clear FF NN
                  iterate 1 (first | (k_unfold; (try dsimp only)) | (walk1 <;> (try dsimp only)) | (dsimp only; walk1))
                  rename Fr _ _ _ _ => FF
                  rename News _ _ _ _ => NN
                  refine app_at (vs := wvs) (n := wn) (rest := ((st, listOf #[.ref l0, .int i12 ti12, .int r12 tr12] n12) :: (l0, listOf wsv.toArray 0) :: (nm, listOf nvs.toArray nn) :: (s1.heap.objs.size + 1, oc) :: own)) FF NN (fun p hp => hp) hoffW (by omega) ?_
                  intro hq FQ NQ
                  clear FF NN
                  iterate 4 (first | (k_unfold; (try dsimp only)) | (walk1 <;> (try dsimp only)) | (dsimp only; walk1))
                  exact ⟨rfl, _, _, _, _, rfl, writes_quoted hnl hyc, FQ, NQ⟩
                · skip
                  by_cases d2 : (!(Builtin.Str.occurrences (Txt.slice nmS (some cut) none) (Str.ofString "\"") 0 (Txt.slice nmS (some cut) none).length 1).isEmpty) = true
                  · skip
                    iterate 60 (first | (k_unfold; (try dsimp only)) | (walk1 <;> (try dsimp only)) | (dsimp only; walk1))
                    rename Fr _ _ _ _ => FF
                    rename News _ _ _ _ => NN
                    refine quoted_call KX T9 K0 FF NN hnl rfl rfl rfl (by k_room) rfl ?_
                    intro hy tky y uy hyc FY NY
                    clear FF NN
                    iterate 1 (first | (k_unfold; (try dsimp only)) | (walk1 <;> (try dsimp only)) | (dsimp only; walk1))
                    rename Fr _ _ _ _ => FF
                    rename News _ _ _ _ => NN
                    refine app_at (vs := wvs) (n := wn) (rest := ((st, listOf #[.ref l0, .int i12 ti12, .int r12 tr12] n12) :: (l0, listOf wsv.toArray 0) :: (nm, listOf nvs.toArray nn) :: (s1.heap.objs.size + 1, oc) :: own)) FF NN (fun p hp => hp) hoffW (by omega) ?_
                    intro hq FQ NQ
                    clear FF NN
                    iterate 4 (first | (k_unfold; (try dsimp only)) | (walk1 <;> (try dsimp only)) | (dsimp only; walk1))
                    exact ⟨rfl, _, _, _, _, rfl, writes_quoted hnl hyc, FQ, NQ⟩
                  · skip
                    iterate 62 (first | (k_unfold; (try dsimp only)) | (walk1 <;> (try dsimp only)) | (dsimp only; walk1))
                    rename Fr _ _ _ _ => FF
                    rename News _ _ _ _ => NN
                    refine quoted_call KX T9 K0 FF NN (by omega) rfl rfl rfl (by k_room) rfl ?_
                    intro hy tky y uy hyc FY NY
                    clear FF NN
                    iterate 1 (first | (k_unfold; (try dsimp only)) | (walk1 <;> (try dsimp only)) | (dsimp only; walk1))
                    have hyl := quoted_len hyc (by omega)
                    refine KOpn.add (by omega) ?_
                    intro ta9 ka9 _
                    iterate 1 (first | (k_unfold; (try dsimp only)) | (walk1 <;> (try dsimp only)) | (dsimp only; walk1))
                    rename Fr _ _ _ _ => FF
                    rename News _ _ _ _ => NN
                    refine app_at (vs := wvs) (n := wn) (rest := ((st, listOf #[.ref l0, .int i12 ti12, .int r12 tr12] n12) :: (l0, listOf wsv.toArray 0) :: (nm, listOf nvs.toArray nn) :: (s1.heap.objs.size + 1, oc) :: own)) FF NN (fun p hp => hp) hoffW (by omega) ?_
                    intro hq FQ NQ
                    clear FF NN
                    iterate 4 (first | (k_unfold; (try dsimp only)) | (walk1 <;> (try dsimp only)) | (dsimp only; walk1))
                    exact ⟨rfl, _, _, _, _, rfl, writes_ahead hnl hcut d1 d2 hyc, FQ, NQ⟩
              · skip
                have b3 : ¬ (way == 3) = true := by simp [w3]
                iterate 46 (first | (k_unfold; (try dsimp only)) | (walk1 <;> (try dsimp only)) | (dsimp only; walk1))
                rename Fr _ _ _ _ => FF
                rename News _ _ _ _ => NN
                refine quoted_call KX T9 K0 FF NN hnl rfl rfl rfl (by k_room) rfl ?_
                intro hy tky y uy hyc FY NY
                clear FF NN
                iterate 1 (first | (k_unfold; (try dsimp only)) | (walk1 <;> (try dsimp only)) | (dsimp only; walk1))
                rename Fr _ _ _ _ => FF
                rename News _ _ _ _ => NN
                refine app_at (vs := wvs) (n := wn) (rest := ((st, listOf #[.ref l0, .int i12 ti12, .int r12 tr12] n12) :: (l0, listOf wsv.toArray 0) :: (nm, listOf nvs.toArray nn) :: (s1.heap.objs.size + 1, oc) :: own)) FF NN (fun p hp => hp) hoffW (by omega) ?_
                intro hq FQ NQ
                clear FF NN
                iterate 4 (first | (k_unfold; (try dsimp only)) | (walk1 <;> (try dsimp only)) | (dsimp only; walk1))
                exact ⟨rfl, _, _, _, _, rfl, writes_quoted hnl hyc, FQ, NQ⟩
        · intro wS tq hq tkq hWr FQ NQ
          clear FI NB
          dsimp only
          iterate 9 (first | (k_unfold; (try dsimp only)) | (walk1 <;> (try dsimp only)) | (dsimp only; walk1))
          rename Fr _ _ _ _ => FF
          rename News _ _ _ _ => NN
          refine app_at (vs := nvs) (n := nn) (rest := ((wr, listOf (wvs ++ [Value.str wS tq]).toArray (wn + 1)) :: (st, listOf #[.ref l0, .int i12 ti12, .int r12 tr12] n12) :: (l0, listOf wsv.toArray 0) :: (s1.heap.objs.size + 1, oc) :: own)) FF NN ?_ ?_ hnvl ?_
          · intro p hp
            simp only [List.mem_cons] at hp ⊢
            rcases hp with h | h | h | h | h | h <;> simp [h]
          · refine List.forall_mem_cons.mpr ⟨neN (by omega), List.forall_mem_cons.mpr ⟨neN (by omega), List.forall_mem_cons.mpr ⟨neN (by omega), List.forall_mem_cons.mpr ⟨neN (by omega), fun p hp => hoff p hp nm (by simp)⟩⟩⟩⟩
          intro hz FZ NZ
          clear FF NN
          iterate 2 (first | (k_unfold; (try dsimp only)) | (walk1 <;> (try dsimp only)) | (dsimp only; walk1))
          refine LTurn.intro ⟨i12, r12, ti12, tr12, n12, nvs ++ [Value.str nmS t10], names ++ [nmS], nn + 1, wvs ++ [Value.str wS tq], written ++ [wS], wn + 1⟩ FZ NZ ?_ ?_ rfl ⟨strs_snoc f1, strs_snoc f2, hi12, hr12, hr12'⟩ ⟨?_, p2.snoc hWr, ?_⟩ ?_
          · intro p hp
            simp only [LS.led, List.mem_cons, List.not_mem_nil, or_false] at hp ⊢
            rcases hp with h | h | h | h | h <;> simp [h]
          · intro p hp
            simp only [List.mem_cons]
            simp [hp]
          · dsimp only; rw [List.length_append, List.length_append, p1]; rfl
          · intro z hz
            rcases List.mem_append.mp hz with hz | hz
            · exact p3 z hz
            · rw [List.mem_singleton.mp hz]; exact hnok
          · intro z h1 h2
            have h3 : lStored.contains z = false := by simpa using h2
            simp only [lStored, List.mem_cons, List.not_mem_nil, or_false, not_or] at h2
            obtain ⟨g1, g2, g3, g4, g5⟩ := h2
            simp only [h1, g1, g2, g3, g4, g5, h3, if_false, Bool.false_eq_true]
    · intro c u h4 tk4 hfa hnl hall hok F4 N4
      obtain ⟨i, r, ti, tr, n, nvs, names, nn, wvs, written, wn⟩ := c
      obtain ⟨f1, f2, -, -, -⟩ := hfa
      dsimp only [LS.led] at N4 f1 f2 hnl hall hok
      clear F3 N3 R3
      dsimp only
      have hwl := hall.length
      (try k_fold)
      iterate 14 (first | (k_unfold; (try dsimp only)) | (walk1 <;> (try dsimp only)) | (dsimp only; walk1))
      have hw6 : written.length ≤ 6 := by omega
      have hne : names ≠ [] := by intro h; rw [h] at hnl; simp at hnl; omega
      refine join_listW ⟨_, (N4 _ (.tail _ (.tail _ (.tail _ (.head _))))).1, rfl, wn, rfl⟩ (by simpa using f2) (by decide +kernel) (by have := allW_weight hall; omega) ?_
      intro t5 k5
      have ej : Txt.join (Str.ofString ".") written = Str.join (Str.ofString ".") written := by unfold Txt.join; rw [StrLaws.glued_eq_join]
      rw [ej]
      iterate 2 (first | (k_unfold; (try dsimp only)) | (walk1 <;> (try dsimp only)) | (dsimp only; walk1))
      rename Fr _ _ _ _ => FF
      refine parse_call (nm := nm) (on := listOf nvs.toArray nn) (ws := names) KX T9 K0 FF (kst_newsOf N4 (by intro p hp; rw [List.mem_singleton.mp hp]; exact .tail _ (.tail _ (.head _)))) (law_len hall hw6) rfl rfl rfl (by k_room) rfl (fun _ => law_scan hall hne) (fun hq => law_split hall hne hq) ?_
      intro h6 tk6 D vs6 n6 hst6 F6 N6
      clear FF N4
      iterate 1 (first | (k_unfold; (try dsimp only)) | (walk1 <;> (try dsimp only)) | (dsimp only; walk1))
      refine eq_strs ⟨_, (N6 _ (.head _)).1, rfl, n6, rfl⟩ ⟨_, (N6 _ (.tail _ (.head _))).1, rfl, nn, rfl⟩ hst6 f1 hok (by first | units_room | exact Nat.le_of_ble_eq_true rfl) ?_
      k_unfold
      dsimp only
      wrow_close))
end Mine

set_option maxRecDepth 100000 in
set_option maxHeartbeats 8000000 in
theorem PySem.Challenge.cw_eu0024_01_holds : PySem.Challenge.rw_eu0024_01.Holds := by
  exact Mine.law_holds
