import PyProof.Rows.All
import Wide.All
import OpenK.AllK
import Wide.FinOn
import PySem.Challenge.RW_dp0004_01
open PySem PySem.W PyProof.Rows
set_option Elab.async false
/-
THE LAW of leapdays. First the plain law, with no program in sight: the round of 97 leap years, the year of a number, and that a year
built of a number and a step back is counted and told as the law says. Then two rules for the walk: divmod with its pair named, and a
loop that only looks at the places. Then the walk: open_k with these words.
-/
namespace Mine
/-- the years of one century that the round takes, the first k fours of it -/
def innerK (c : Int) (k : Nat) : List Int :=
  ((List.range k).filter (fun f : Nat => decide (0 < f) || decide (c = 0))).map fun f : Nat => 100 * c + 4 * (f : Int)

/-- what the round has built when century c has come to its k-th four -/
def roundTo (c : Int) (k : Nat) : List Int :=
  if c = 0 then innerK 0 k
  else if c = 1 then innerK 0 25 ++ innerK 1 k
  else if c = 2 then innerK 0 25 ++ (innerK 1 25 ++ innerK 2 k)
  else innerK 0 25 ++ (innerK 1 25 ++ (innerK 2 25 ++ innerK 3 k))

theorem innerK_take (c : Int) (k : Nat) (h : 0 < k ∨ c = 0) : innerK c (k + 1) = innerK c k ++ [100 * c + 4 * (k : Int)] := by
  unfold innerK
  rw [List.range_succ, List.filter_append, List.map_append]
  have : (decide (0 < k) || decide (c = 0)) = true := by simpa using h
  simp [List.filter, this]

theorem innerK_skip (c : Int) (k : Nat) (h : ¬ (0 < k ∨ c = 0)) : innerK c (k + 1) = innerK c k := by
  unfold innerK
  rw [List.range_succ, List.filter_append, List.map_append]
  have : (decide (0 < k) || decide (c = 0)) = false := by
    simp only [Bool.or_eq_false_iff, decide_eq_false_iff_not]
    exact ⟨fun q => h (.inl q), fun q => h (.inr q)⟩
  simp [List.filter, this]

theorem roundTo_take (c : Int) (k : Nat) (h0 : 0 ≤ c) (h3 : c ≤ 3) (h : 0 < k ∨ c = 0) : roundTo c (k + 1) = roundTo c k ++ [100 * c + 4 * (k : Int)] := by
  have hc : c = 0 ∨ c = 1 ∨ c = 2 ∨ c = 3 := by omega
  rcases hc with rfl | rfl | rfl | rfl <;> simp [roundTo, innerK_take _ k h, List.append_assoc]

theorem roundTo_skip (c : Int) (k : Nat) (h0 : 0 ≤ c) (h3 : c ≤ 3) (h : ¬ (0 < k ∨ c = 0)) : roundTo c (k + 1) = roundTo c k := by
  have hc : c = 0 ∨ c = 1 ∨ c = 2 ∨ c = 3 := by omega
  rcases hc with rfl | rfl | rfl | rfl <;> simp [roundTo, innerK_skip _ k h]

theorem roundTo_next1 : roundTo 0 25 = roundTo 1 0 := by decide +kernel
theorem roundTo_next2 : roundTo 1 25 = roundTo 2 0 := by decide +kernel
theorem roundTo_next3 : roundTo 2 25 = roundTo 3 0 := by decide +kernel
/-- the 97 leap years of one round of 400 years -/
def yearsL : List Int := roundTo 3 25
theorem yearsL_length : yearsL.length = 97 := by decide +kernel
def leapY (n : Int) : Int := 400 * n.fdiv 97 + yearsL.getD (n.fmod 97).toNat 0

/-- what the walk must know of a place: its number, its leap year, its year -/
def isLeapP (y : Int) : Prop := y.fmod 4 = 0 ∧ (y.fmod 100 ≠ 0 ∨ y.fmod 400 = 0)
def LeapPlace (n l y : Int) : Prop :=
  (y - 1).fdiv 4 - (y - 1).fdiv 100 + (y - 1).fdiv 400 = n - 1 ∧ (y = l ↔ isLeapP y)


theorem leapY_at (q r : Int) (h0 : 0 ≤ r) (h1 : r < 97) : leapY (97 * q + r) = 400 * q + yearsL.getD r.toNat 0 := by
  have e1 : (97 * q + r).fdiv 97 = q := by rw [Int.fdiv_eq_ediv_of_nonneg _ (by decide)]; omega
  have e2 : (97 * q + r).fmod 97 = r := by rw [Int.fmod_eq_emod_of_nonneg _ (by decide)]; omega
  rw [leapY, e1, e2]

/-- one round, looked at place by place -/
def prevY (r : Nat) : Int := if r = 0 then -4 else yearsL.getD (r - 1) 0
def okAt (r b : Nat) : Bool :=
  let Y := yearsL.getD r 0
  let g := Y - prevY r
  let t := Y - (b : Int) % g
  decide (4 ≤ g) && decide (g ≤ 8) && decide ((t - 1) / 4 - (t - 1) / 100 + (t - 1) / 400 = (r : Int) - 1) && (decide (t = Y) == (decide (t % 4 = 0) && (!decide (t % 100 = 0) || decide (t % 400 = 0))))
theorem okAll : ((List.range 97).all fun r => (List.range 8).all fun b => okAt r b) = true := by decide +kernel
theorem ok_at {r b : Nat} (hr : r < 97) (hb : b < 8) : okAt r b = true := by
  have h := okAll
  rw [List.all_eq_true] at h
  have h2 := h r (List.mem_range.mpr hr)
  rw [List.all_eq_true] at h2
  exact h2 b (List.mem_range.mpr hb)

theorem round_of (n : Int) : ∃ (q : Int) (r : Nat), r < 97 ∧ n = 97 * q + (r : Int) ∧ leapY n = 400 * q + yearsL.getD r 0 ∧ leapY (n - 1) = 400 * q + prevY r := by
  refine ⟨n / 97, (n % 97).toNat, by omega, by omega, ?_, ?_⟩
  · have e : n = 97 * (n / 97) + (n % 97) := by omega
    have h := leapY_at (n / 97) (n % 97) (by omega) (by omega)
    rw [← e] at h
    exact h
  · by_cases hz : n % 97 = 0
    · have e : n - 1 = 97 * (n / 97 - 1) + 96 := by omega
      rw [e, leapY_at _ 96 (by decide) (by decide)]
      have hY : yearsL.getD (96 : Int).toNat 0 = 396 := by decide +kernel
      rw [hY, hz]
      show 400 * (n / 97 - 1) + 396 = 400 * (n / 97) + (-4)
      omega
    · have e : n - 1 = 97 * (n / 97) + (n % 97 - 1) := by omega
      rw [e, leapY_at _ _ (by omega) (by omega)]
      have e2 : (n % 97 - 1).toNat = (n % 97).toNat - 1 := by omega
      have e3 : (n % 97).toNat ≠ 0 := by omega
      rw [e2, prevY, if_neg e3]

/-- the gap between two leap years that follow each other is 4 to 8 -/
theorem gap_of (n : Int) : 4 ≤ leapY n - leapY (n - 1) ∧ leapY n - leapY (n - 1) ≤ 8 := by
  obtain ⟨q, r, hr, _, e1, e2⟩ := round_of n
  have h := ok_at hr (show 0 < 8 by decide)
  simp only [okAt, Bool.and_eq_true, decide_eq_true_eq] at h
  rw [e1, e2]
  omega

theorem good_of (n b : Int) (h0 : 0 ≤ b) (h8 : b < 8) : LeapPlace n (leapY n) (leapY n - b.fmod (leapY n - leapY (n - 1))) := by
  have hg := gap_of n
  obtain ⟨q, r, hr, en, e1, e2⟩ := round_of n
  have h := ok_at hr (show b.toNat < 8 by omega)
  have hb : ((b.toNat : Nat) : Int) = b := by omega
  have hgap : leapY n - leapY (n - 1) = yearsL.getD r 0 - prevY r := by rw [e1, e2]; omega
  rw [Int.fmod_eq_emod_of_nonneg _ (by omega), hgap, e1]
  simp only [okAt, Bool.and_eq_true, decide_eq_true_eq, hb] at h
  obtain ⟨⟨⟨_, _⟩, hc⟩, hl⟩ := h
  generalize yearsL.getD r 0 = Y at *
  generalize b % (Y - prevY r) = m at *
  refine ⟨?_, ?_⟩
  · rw [Int.fdiv_eq_ediv_of_nonneg _ (by decide), Int.fdiv_eq_ediv_of_nonneg _ (by decide), Int.fdiv_eq_ediv_of_nonneg _ (by decide)]
    omega
  · unfold isLeapP
    rw [Int.fmod_eq_emod_of_nonneg _ (by decide), Int.fmod_eq_emod_of_nonneg _ (by decide), Int.fmod_eq_emod_of_nonneg _ (by decide)]
    have hl' : (Y - m = Y) ↔ ((Y - m) % 4 = 0 ∧ (¬ (Y - m) % 100 = 0 ∨ (Y - m) % 400 = 0)) := by
      have := hl
      rw [beq_iff_eq, Bool.eq_iff_iff] at this
      simpa using this
    omega

theorem good_leap {n l y : Int} (h : LeapPlace n l y) : y = l ↔ (y.fmod 4 = 0 ∧ (¬ y.fmod 100 = 0 ∨ y.fmod 400 = 0)) := h.2
theorem good_cnt {n l y : Int} (h : LeapPlace n l y) : (y - 1).fdiv 4 - (y - 1).fdiv 100 + (y - 1).fdiv 400 = n - 1 := h.1
/- the words at the round's inner loop: a turn that takes its four, one that does not, the next century, the end -/
theorem st_take {ys pre : List Int} {k c : Int} (e : ys = roundTo c pre.length) (hl : (ys.length : Int) ≤ 25 * c + (pre.length : Int)) (hk : k = 0 + (pre.length : Int)) (h0 : 0 ≤ c) (h3 : c ≤ 3) (h : 0 < k ∨ c = 0) :
    ys ++ [100 * c + 4 * k] = roundTo c (pre ++ [k]).length ∧ ((ys ++ [100 * c + 4 * k]).length : Int) ≤ 25 * c + ((pre ++ [k]).length : Int) := by
  rw [List.length_append, List.length_append, List.length_singleton, List.length_singleton]
  refine ⟨?_, by omega⟩
  rw [roundTo_take c pre.length h0 h3 (by omega), e, hk, Int.zero_add]
theorem st_skip {ys pre : List Int} {k c : Int} (e : ys = roundTo c pre.length) (hl : (ys.length : Int) ≤ 25 * c + (pre.length : Int)) (hk : k = 0 + (pre.length : Int)) (h0 : 0 ≤ c) (h3 : c ≤ 3) (h : ¬ 0 < k) (hc : ¬ c = 0) :
    ys = roundTo c (pre ++ [k]).length ∧ (ys.length : Int) ≤ 25 * c + ((pre ++ [k]).length : Int) := by
  rw [List.length_append, List.length_singleton]
  refine ⟨?_, by omega⟩
  rw [roundTo_skip c pre.length h0 h3 (by omega), e]
theorem st_next {ys : List Int} {c c' : Int} (e : ys = roundTo c (rangeKs 0 (25 - 0 : Int).toNat).length) (hl : (ys.length : Int) ≤ 25 * c + ((rangeKs 0 (25 - 0 : Int).toNat).length : Int)) (h0 : 0 ≤ c) (h2 : c ≤ 2) (hc : c' = c + 1) :
    ys = roundTo c' ([] : List Int).length ∧ (ys.length : Int) ≤ 25 * c' + (([] : List Int).length : Int) := by
  rw [rangeKs_length] at e hl
  have hc : c = 0 ∨ c = 1 ∨ c = 2 := by omega
  refine ⟨?_, by simp only [List.length_nil]; omega⟩
  rcases hc with rfl | rfl | rfl <;> subst c' <;> rw [e]
  · exact roundTo_next1
  · exact roundTo_next2
  · exact roundTo_next3
theorem st_done {ys : List Int} (e : ys = roundTo (0 + ((0 + 1 + 1 + 1 : Nat) : Int)) (rangeKs 0 (25 - 0 : Int).toNat).length) : ys = yearsL ∧ ys.length = 97 := by
  rw [rangeKs_length] at e
  have : ys = yearsL := e
  exact ⟨this, by rw [this]; exact yearsL_length⟩

/- the words at the loop that builds the places -/
theorem gap_ne {ys : List Int} {n : Int} (h : ys = yearsL) : 400 * n.fdiv 97 + ys.getD (n.fmod 97).toNat 0 - (400 * (n - 1).fdiv 97 + ys.getD ((n - 1).fmod 97).toNat 0) ≠ 0 := by
  subst h
  have hg := gap_of n
  unfold leapY at hg
  omega
theorem st_place {ds : List Dat} {pre ys : List Int} {x : Int} (hy : ys = yearsL) (hl : ds.length = pre.length)
    (h : ∀ d ∈ ds, ∃ n l y, d = Dat.tuple [Dat.int n, Dat.int l, Dat.int y] ∧ LeapPlace n l y) :
    (ds ++ [Dat.tuple [Dat.int (x.fdiv 8), Dat.int (400 * (x.fdiv 8).fdiv 97 + ys.getD ((x.fdiv 8).fmod 97).toNat 0), Dat.int (400 * (x.fdiv 8).fdiv 97 + ys.getD ((x.fdiv 8).fmod 97).toNat 0 - (x.fmod 8).fmod (400 * (x.fdiv 8).fdiv 97 + ys.getD ((x.fdiv 8).fmod 97).toNat 0 - (400 * (x.fdiv 8 - 1).fdiv 97 + ys.getD ((x.fdiv 8 - 1).fmod 97).toNat 0)))]]).length = (pre ++ [x]).length ∧
    ∀ d ∈ ds ++ [Dat.tuple [Dat.int (x.fdiv 8), Dat.int (400 * (x.fdiv 8).fdiv 97 + ys.getD ((x.fdiv 8).fmod 97).toNat 0), Dat.int (400 * (x.fdiv 8).fdiv 97 + ys.getD ((x.fdiv 8).fmod 97).toNat 0 - (x.fmod 8).fmod (400 * (x.fdiv 8).fdiv 97 + ys.getD ((x.fdiv 8).fmod 97).toNat 0 - (400 * (x.fdiv 8 - 1).fdiv 97 + ys.getD ((x.fdiv 8 - 1).fmod 97).toNat 0)))]],
      ∃ n l y, d = Dat.tuple [Dat.int n, Dat.int l, Dat.int y] ∧ LeapPlace n l y := by
  subst hy
  refine ⟨by rw [List.length_append, List.length_append, hl]; rfl, fun d hd => ?_⟩
  rcases List.mem_append.mp hd with hd | hd
  · exact h d hd
  · have hb0 : 0 ≤ x.fmod 8 := Int.fmod_nonneg_of_pos _ (by decide)
    have hb8 : x.fmod 8 < 8 := Int.fmod_lt_of_pos _ (by decide)
    exact ⟨_, _, _, List.mem_singleton.mp hd, good_of (x.fdiv 8) (x.fmod 8) hb0 hb8⟩

/-- divmod, its pair named: it lies above all that the call has made -/
theorem divmod_K {prog : Program} {w : World} {A : Around} {E : Value → Shared → Prop} {s : Shared} {a b : Int} {t u : Tok} {Q : Value → Shared → Prop} {h₀ : Heap} {L : Addr} {m : Str → Option Value} {news : List (Addr × Obj)}
    (F : Fr h₀ L s.heap m) (N : News h₀ L s.heap news) (hb : b ≠ 0) (hs : b.natAbs < 1073741824)
    (h : ∀ (D : Addr) h', Fr h₀ L h' m → News h₀ L h' ((D, ({ cls := .type "tuple", data := .seq #[.int (a.fdiv b) s.toks, .int (a.fmod b) (s.toks + 1)] } : Obj)) :: news) → (∀ p ∈ news, p.1 < D) →
      Q (.ref D) { s with toks := s.toks + 1 + 1, heap := h' }) :
    wpAny (model prog w) A (call (.builtin "divmod") [.int a t, .int b u]) Q E s :=
  divmod_N F N hb (fun h' F' N' => h _ h' F' N' fun p hp => Heap.lt_size (N p hp).1) (Or.inl (PyProof.noPylong_small hs))

set_option maxRecDepth 100000
/-- a loop that only looks: the ledger stays, and so does every name that it does not store -/
def OnlyLooked (stored : List Str) (m₀ : Str → Option Value) (news : List (Addr × Obj)) (m : Str → Option Value) (nx : List (Addr × Obj)) : Prop :=
  nx = news ∧ ∀ z, stored.contains z = false → m z = m₀ z

section
variable {prog : Program} {w : World} {A : Around} {E : Value → Shared → Prop} {s : Shared} {env : Env} {h₀ : Heap} {target : PySem.Expr} {body : List Stmt} {Q : Flow → Shared → Prop}

theorem places_in {news0 : List (Addr × Obj)} {vs : List Value} {ds : List Dat} (hd : DatAll news0 vs ds)
    (hq : ∀ d ∈ ds, ∃ n l y, d = Dat.tuple [Dat.int n, Dat.int l, Dat.int y] ∧ LeapPlace n l y) (v : Value) (hv : v ∈ vs) :
    ∃ (a : Addr) (n l y : Int) (t1 t2 t3 : Tok) (k : Nat), v = .ref a ∧ (a, ({ cls := .type "tuple", data := .seq #[.int n t1, .int l t2, .int y t3] k } : Obj)) ∈ news0 ∧ LeapPlace n l y := by
  obtain ⟨i, hi, rfl⟩ := List.mem_iff_getElem.mp hv
  have hi' : i < ds.length := by rw [← hd.length]; exact hi
  obtain ⟨v', hv', hD⟩ := hd.get hi'
  have e : v' = vs[i] := by
    rw [List.getElem?_eq_getElem hi] at hv'
    exact (Option.some.inj hv').symm
  subst e
  obtain ⟨n, l, y, ed, hg⟩ := hq _ (List.getElem_mem hi')
  rw [ed] at hD
  generalize vs[i] = v at hD
  cases hD with
  | tuple hm hr =>
    cases hr with
    | cons h1 hr =>
      cases h1
      cases hr with
      | cons h2 hr =>
        cases h2
        cases hr with
        | cons h3 hr =>
          cases h3
          cases hr
          exact ⟨_, n, l, y, _, _, _, _, rfl, hm, hg⟩

theorem seen_iter (stored : List Str) {l : Addr} {vs : List Value} {ds : List Dat} {nn : Nat} {m₀ : Str → Option Value} {news news0 : List (Addr × Obj)}
    (hh : A.handled = none) (hl : (l, listOf vs.toArray nn) ∈ news) (hd : DatAll news0 vs ds)
    (hq : ∀ d ∈ ds, ∃ n l y, d = Dat.tuple [Dat.int n, Dat.int l, Dat.int y] ∧ LeapPlace n l y) (hs : ∀ p ∈ news0, p ∈ news)
    (F : Fr h₀ env.locals s.heap m₀) (N : News h₀ env.locals s.heap news)
    (turn : ∀ (I a : Addr) (o : Obj) (k : Nat) (n l y : Int) (t1 t2 t3 : Tok) (u : Str → Option Value) h tk, LeapPlace n l y → OwnOff [(I, o)] (news.map (·.1)) →
      Fr h₀ env.locals h (fun z => if stored.contains z then u z else m₀ z) → News h₀ env.locals h ((a, ({ cls := .type "tuple", data := .seq #[.int n t1, .int l t2, .int y t3] k } : Obj)) :: (I, o) :: news) →
      wpAny (model prog w) A (assign target env (.ref a)) (fun _ s₃ => wpAny (model prog w) A (execs body env) (InvPostG h₀ env.locals (OnlyLooked stored m₀ news) [(I, o)] { s with heap := h, toks := tk } Q) E s₃) E { s with heap := h, toks := tk })
    (done : ∀ (u : Str → Option Value) h tk, Fr h₀ env.locals h (fun z => if stored.contains z then u z else m₀ z) → News h₀ env.locals h news → Q .next { s with heap := h, toks := tk }) :
    wpAny (model prog w) A (pyIter (.ref l)) (fun it s₂ => TurnsAt prog w A h₀ env target body Q E it s₂) E s := by
  refine iter_listTurns hh F N hl rfl rfl fun I hI => ?_
  have frame : ∀ (m : Str → Option Value), (∀ z, stored.contains z = false → m z = m₀ z) → m = (fun z => if stored.contains z then m z else m₀ z) := by
    intro m hm
    funext z
    cases hc : stored.contains z with
    | true => simp
    | false => simpa using hm z hc
  have key : ∀ (ws : List Value) (m : Str → Option Value), (∀ v ∈ ws, v ∈ vs) → (∀ z, stored.contains z = false → m z = m₀ z) →
      ItemsRest prog w A E h₀ env target body Q s [(I, "list_iterator")] [(l, listOf vs.toArray nn)] (ws.map .val) m news := by
    intro ws
    induction ws with
    | nil =>
      intro m _ hm
      refine ItemsRest.zero fun h tk F' N' => done m h tk ?_ N'
      rw [← frame m hm]
      exact F'
    | cons v ws ih =>
      intro m hv hm
      refine ItemsRest.val fun h tk F' => AllObj.cons fun o _ => AllObj.nil fun N' => ?_
      obtain ⟨a, n, lp, y, t1, t2, t3, k, rfl, hmem, hg⟩ := places_in hd hq v (hv _ (.head _))
      have hoff : OwnOff [(I, o)] (news.map (·.1)) := by
        intro p hp b hb e
        obtain ⟨q, hq', rfl⟩ := List.mem_map.mp hb
        rw [List.mem_singleton.mp hp] at e
        exact absurd (hI q hq') (by rw [← e]; exact Nat.lt_irrefl _)
      have N2 : News h₀ env.locals h ((a, ({ cls := .type "tuple", data := .seq #[.int n t1, .int lp t2, .int y t3] k } : Obj)) :: (I, o) :: news) := by
        intro p hp
        rcases List.mem_cons.mp hp with rfl | hp
        · exact N' _ (List.mem_append_right _ (hs _ hmem))
        · exact N' p hp
      have F2 : Fr h₀ env.locals h (fun z => if stored.contains z then m z else m₀ z) := by rw [← frame m hm]; exact F'
      have fin : ∀ s₃, InvEndG h₀ env.locals (OnlyLooked stored m₀ news) [(I, o)] { s with heap := h, toks := tk } s₃ →
          UnrEndW h₀ env.locals { s with heap := h, toks := tk } [(I, o)] (fun m' n' => SubL [(l, listOf vs.toArray nn)] n' ∧ ItemsRest prog w A E h₀ env target body Q s [(I, "list_iterator")] [(l, listOf vs.toArray nn)] (ws.map .val) m' n') s₃ := by
        rintro s₃ ⟨h', tk', m', news', nx, e, F3, N3, hn, ho, ha, rfl, hm'⟩
        refine ⟨h', tk', m', nx, e, F3, ?_, ?_, And.intro hl trivial, ih m' (fun v hv' => hv v (.tail _ hv')) hm'⟩
        · intro p hp
          rcases List.mem_append.mp hp with hp | hp
          · exact N3 p (ho p hp)
          · exact N3 p (hn p hp)
        · intro p hp q hq' e'
          exact ha q hq' p.1 (List.mem_map.mpr ⟨p, hp, rfl⟩) e'.symm
      refine wpAny_mono (turn I a o k n lp y t1 t2 t3 m h tk hg hoff F2 N2) (fun _ s₂ h₂ => wpAny_mono h₂ (fun f s₃ p => ?_) fun _ _ e => e) fun _ _ e => e
      cases f with
      | ret v => exact p
      | brk => exact p
      | next => exact fin _ p
      | cont => exact fin _ p
  exact key vs m₀ (fun _ h => h) (fun _ _ => rfl)

theorem seen_end {stored : List Str} {m₀ m' : Str → Option Value} {news news' own : List (Addr × Obj)} {L : Addr} {s₁ : Shared} {h' : Heap} {tk : Nat}
    (F : Fr h₀ L h' m') (N : News h₀ L h' news') (ha : OwnOff own (news.map (·.1))) (hn : ∀ p ∈ news, p ∈ news') (ho : ∀ p ∈ own, p ∈ news')
    (hm : ∀ z, stored.contains z = false → m' z = m₀ z) : InvEndG h₀ L (OnlyLooked stored m₀ news) own s₁ { s₁ with heap := h', toks := tk } :=
  InvEndG.intro F N ⟨rfl, hm⟩ ha hn ho
end

/- lines of its own for the walk -/
local macro_rules | `(tactic| walk_at "exec For Name BinOp cons nil") => `(tactic| (k_here; (rename Fr _ _ _ _ => lF'); (with_unfolding_all refine' For_invVF lF' ?k1 ?k2 ?_; (case k1 => exact rfl); (case k2 => exact rfl); k_whole)))
local macro_rules | `(tactic| walk_at "binaryOp Mod int int") => `(tactic| (k_here; (with_reducible refine mod_int' ?kbe ?_); (case kbe => exact gap_ne (by assumption))))
local macro_rules | `(tactic| walk_at "call builtin:divmod") => `(tactic| (k_here; (with_reducible show wpAny _ _ (call (Value.builtin _) [Value.int _ _, Value.int _ _]) _ _ _); k_dflt (refine' divmod_K ?F ?N ?hb ?hs ?_; (case F => k_asm); (case N => k_asm); (case hb => decide); (case hs => decide)); intro D' h' F' N' l1; (try k_lt l1); (try k_sweep)))
local macro_rules | `(tactic| walk_at "exec For Tuple Name cons nil") => `(tactic| (k_here; (rename Fr _ _ _ _ => lF'); (with_unfolding_all refine' For_turns lF' ?_; k_whole)))
local macro_rules | `(tactic| walk_at "exec For Name Name cons nil") => `(tactic| (k_here; (rename Fr _ _ _ _ => lF'); (with_unfolding_all refine' For_turns lF' ?_; k_whole)))
local macro_rules | `(tactic| walk_at "pyIter ref") => `(tactic| (k_here; (with_reducible show wpAny _ _ (pyIter (Value.ref _)) (fun it s₂ => TurnsAt _ _ _ _ _ (PySem.Expr.Tuple _ _ _) _ _ _ it s₂) _ _); k_dflt (refine' seen_iter [Str.ofString "number", Str.ofString "leap", Str.ofString "year", Str.ofString "told"] ?hhT ?hlT ?hdT ?hqT ?hsT ?FT ?NT ?turnT ?doneT; (case hhT => exact rfl); (case FT => k_asm); (case NT => k_asm); (case hlT => k_mem); (case hdT => assumption); (case hqT => assumption); (case hsT => first | exact fun _ h => h | exact fun _ h => List.Mem.tail _ h | (intro p hp; kst_mem))); (case' turnT => (intro I' a' o' k' n' l' y' t1' t2' t3' u' h' tk' hG' hOff' F' N'; (have hG1' := good_leap hG'); (have hG2' := good_cnt hG'); (clear hG'); (try k_sweep))); (case' doneT => (intro u' h' tk' F' N'; (try k_sweep))); (all_goals (try k_fold))))
local macro_rules | `(tactic| walk_at "pyIter ref") => `(tactic| (k_here; (with_reducible show wpAny _ _ (pyIter (Value.ref _)) (fun it s₂ => TurnsAt _ _ _ _ _ (PySem.Expr.Name (Str.ofString "begin") _) _ _ _ it s₂) _ _); k_dflt (refine' seen_iter [Str.ofString "begin", Str.ofString "end", Str.ofString "told"] ?hhB ?hlB ?hdB ?hqB ?hsB ?FB ?NB ?turnB ?doneB; (case hhB => exact rfl); (case FB => k_asm); (case NB => k_asm); (case hlB => k_mem); (case hdB => assumption); (case hqB => assumption); (case hsB => first | exact fun _ h => h | exact fun _ h => List.Mem.tail _ h | (intro p hp; kst_mem))); (case' turnB => (intro I' a' o' k' n' l' y' t1' t2' t3' u' h' tk' hG' hOff' F' N'; (have hG1' := good_leap hG'); (have hG2' := good_cnt hG'); (clear hG'); (try k_sweep))); (case' doneB => (intro u' h' tk' F' N'; (try k_sweep))); (all_goals (try k_fold))))
local macro_rules | `(tactic| walk_at "pyIter ref") => `(tactic| (k_here; (with_reducible show wpAny _ _ (pyIter (Value.ref _)) (fun it s₂ => TurnsAt _ _ _ _ _ (PySem.Expr.Name (Str.ofString "end") _) _ _ _ it s₂) _ _); k_dflt (refine' seen_iter [Str.ofString "end", Str.ofString "told"] ?hhE ?hlE ?hdE ?hqE ?hsE ?FE ?NE ?turnE ?doneE; (case hhE => exact rfl); (case FE => k_asm); (case NE => k_asm); (case hlE => k_mem); (case hdE => assumption); (case hqE => assumption); (case hsE => first | exact fun _ h => h | exact fun _ h => List.Mem.tail _ h | (intro p hp; kst_mem))); (case' turnE => (intro I' a' o' k' n' l' y' t1' t2' t3' u' h' tk' hG' hOff' F' N'; (have hG1' := good_leap hG'); (have hG2' := good_cnt hG'); (clear hG'); (try k_sweep))); (case' doneE => (intro u' h' tk' F' N'; (try k_sweep))); (all_goals (try k_fold))))
local macro_rules | `(tactic| walk_at "InvEndG") => `(tactic| (k_here; k_dflt (refine' seen_end ?F ?N ?ha ?hn ?ho ?hm; (case F => k_asm); (case N => k_asm); (case ha => assumption); (case hn => (intro p hp; kst_mem)); (case ho => refine List.forall_mem_cons.mpr ⟨by k_mem, List.forall_mem_nil _⟩); (case hm => (intro z h3; first | rfl | ((simp only [List.contains_cons, List.contains_nil, Bool.or_false, Bool.or_eq_false_iff, beq_eq_false_iff_ne, ne_eq] at h3); (simp [h3]; done)))))))

set_option maxHeartbeats 8000000 in
theorem holds : PySem.Challenge.rw_dp0004_01.Holds := by
  k_with "state" => first | exact st_take (by assumption) (by assumption) (by assumption) (by omega) (by omega) (by omega) | exact st_skip (by assumption) (by assumption) (by assumption) (by omega) (by omega) (by omega) (by omega) | exact st_next (by assumption) (by assumption) (by omega) (by omega) (by omega) | exact st_place (by assumption) (by assumption) (by assumption) | decide +kernel
  k_with "pyIter ref" => (k_of "four" => k_state_given ["century"] (fun c pre years => years = roundTo c pre.length ∧ (years.length : Int) ≤ 25 * c + (pre.length : Int)) "years")
  k_with "pyIter ref" => (k_of "x" => ((have hYears := st_done (by assumption)); (obtain ⟨hYears, hYlen⟩ := hYears); k_dat (fun pre places => places.length = pre.length ∧ ∀ d ∈ places, ∃ n l y, d = Dat.tuple [Dat.int n, Dat.int l, Dat.int y] ∧ LeapPlace n l y) "places*"))
  open_k
end Mine

theorem PySem.Challenge.cw_dp0004_01_holds : PySem.Challenge.rw_dp0004_01.Holds :=
  Mine.holds
