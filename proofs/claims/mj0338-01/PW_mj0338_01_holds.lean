import PyProof.Rows.All
import Wide.All
import OpenK.AllK
import Wide.FinOn
import Lean
import PySem.Challenge.RW_mj0338_01
open PySem PySem.W PyProof.Rows
set_option Elab.async false
set_option maxRecDepth 100000
set_option maxHeartbeats 8000000
set_option linter.unusedVariables false
namespace Mine
open_top hd for PySem.Challenge.rw_mj0338_01
end Mine
namespace Mine

/-- a call of f with vs, from any def's frame, does what Ret says -/
abbrev Does (lv : Nat) (w : World) (mean : ExcName → Option Value) (mg mb : Str → Option Value) (f : Addr) (news : List (Addr × Obj)) (vs : List Value)
    (Ret : Heap → Addr → (Str → Option Value) → Shared → (Value → Shared → Prop) → Prop) : Prop :=
  ∀ (dp un : Nat) (gd : Option (List Code)) (cn : Str) (cs : Scope) (a : Addr) (ccd : Value) (cl : List (Str × Addr)) (outer : List Env) (A₀ : Around) (base h₀ : Heap) (L : Addr) (m : Str → Option Value) (s : Shared) (Q E : Value → Shared → Prop),
    Below A₀ base outer h₀ → Fr h₀ L s.heap m → (hd.heap_39 w.params).In h₀ → News h₀ L s.heap news →
    Top hd.view_39 (looseW hd.view_39 [Str.ofString "Whitespace"]) mean mg mb h₀ → cs.kind = .function →
    dp + lv < recursionLimit → un + 32 * lv < cLine → Ret h₀ L m s Q →
      wpAny (model PySem.Challenge.rw_mj0338_01.row.prog w) (ktrTop dp un gd cn cs L a ccd cl outer) (call (.ref f) vs) Q E s

/-- it gives back R and leaves all as it was -/
abbrev Gives (news : List (Addr × Obj)) (R : Tok → Value) (h₀ : Heap) (L : Addr) (m : Str → Option Value) (s : Shared) (Q : Value → Shared → Prop) : Prop :=
  ∀ (t : Tok) (h' : Heap) (tk' : Nat), Fr h₀ L h' m → News h₀ L h' news → Q (R t) { s with heap := h', toks := tk' }
end Mine
namespace Mine
open PySem.Spec PyProof.V PySem.Calls

/-- what a turn leaves: the loop's own objects, and nx, whose addresses may be new -/
def TurnEnd (h₀ : Heap) (L : Addr) (J : (Str → Option Value) → List (Addr × Obj) → Prop) (own : List (Addr × Obj)) (s₁ s₂ : Shared) : Prop :=
  ∃ h' tk m' nx, s₂ = { s₁ with heap := h', toks := tk } ∧ Fr h₀ L h' m' ∧ News h₀ L h' (nx ++ own) ∧ (∀ p ∈ nx, ∀ q ∈ own, p.1 ≠ q.1) ∧ J m' nx
def TurnPost (h₀ : Heap) (L : Addr) (J : (Str → Option Value) → List (Addr × Obj) → Prop) (own : List (Addr × Obj)) (s₁ : Shared) (Q : Flow → Shared → Prop) (f : Flow) (s₂ : Shared) : Prop :=
  match f with
  | .ret v => Q (.ret v) s₂
  | .brk => Q .next s₂
  | _ => TurnEnd h₀ L J own s₁ s₂
theorem TurnEnd.intro {h₀ : Heap} {L : Addr} {J : (Str → Option Value) → List (Addr × Obj) → Prop} {m' : Str → Option Value} {own nx : List (Addr × Obj)} {s₁ : Shared} {h' : Heap} {tk : Nat} (F : Fr h₀ L h' m') (N : News h₀ L h' (nx ++ own))
    (ho : ∀ p ∈ nx, ∀ q ∈ own, p.1 ≠ q.1) (hj : J m' nx) : TurnEnd h₀ L J own s₁ { s₁ with heap := h', toks := tk } := ⟨h', tk, m', nx, rfl, F, N, ho, hj⟩
section
variable {prog : Program} {w : World} {A : Around} {E : Value → Shared → Prop} {s : Shared} {env : Env} {h₀ : Heap} {x : Str} {body : List Stmt} {Q : Flow → Shared → Prop}
theorem loop_any {I : Addr} {fp wr : List Addr} {n : Nat} {P : Nat → Value → Prop} {St : Nat → Heap → Prop} {m₀ : Str → Option Value} {news : List (Addr × Obj)} (J : Nat → (Str → Option Value) → List (Addr × Obj) → Prop)
    (W : Walks prog w A I fp wr n P St) (hLf : env.locals ∉ fp) (hwr : ∀ b ∈ wr, h₀.get? b = none) (hlive : ∀ i h, St i h → ∀ b ∈ wr, ∃ o, h.get? b = some o) (hfw : ∀ b ∈ fp, b ∉ wr → ∃ o, h₀.get? b = some o)
    (hnw : ∀ p ∈ news, p.1 ∉ wr) (hst : St 0 s.heap) (F : Fr h₀ env.locals s.heap m₀) (N : News h₀ env.locals s.heap news) (hj : J 0 m₀ news)
    (turn : ∀ i v m₁ nx h tk own, i < n → P i v → (∀ p ∈ nx, ∀ q ∈ own, p.1 ≠ q.1) → J i m₁ nx → Fr h₀ env.locals h (fun y => if y = x then some v else m₁ y) → News h₀ env.locals h (nx ++ own) →
      wpAny (model prog w) A (execs body env) (TurnPost h₀ env.locals (J (i + 1)) own { s with heap := h, toks := tk } Q) E { s with heap := h, toks := tk })
    (done : ∀ m₁ nx h tk, J n m₁ nx → Fr h₀ env.locals h m₁ → News h₀ env.locals h nx → Q .next { s with heap := h, toks := tk }) :
    LoopAtV prog w A h₀ env x body Q E (.ref I) s := by
  refine ⟨I, fp, wr, n, P, St, m₀, news, J, rfl, W, hLf, hwr, hnw, hst, F, N, hj, ?_, ?_⟩
  · rintro i v m₁ news₁ s₁ own ⟨hh', tk', rfl⟩ hin hP hJ hoff hown howns hall hst1 F₁ N₁
    have hsep : ∀ p ∈ news₁, ∀ q ∈ own, p.1 ≠ q.1 := by
      intro p hp q hq e
      by_cases hw : q.1 ∈ wr
      · exact hoff p hp (e ▸ hw)
      · obtain ⟨o, ho⟩ := hfw _ (hown q hq) hw
        have := (N₁ p (List.mem_append_right _ hp)).2.2
        rw [e, ho] at this
        cases this
    have N₂ : News h₀ env.locals hh' (news₁ ++ own) := fun p hp => N₁ p ((List.mem_append.mp hp).elim (fun h => List.mem_append.mpr (.inr h)) fun h => List.mem_append.mpr (.inl h))
    refine wpAny_mono (turn i v m₁ news₁ hh' tk' own hin hP hsep hJ F₁ N₂) (fun f s₂ p => ?_) fun _ _ e => e
    have fin : TurnEnd h₀ env.locals (J (i + 1)) own { s with heap := hh', toks := tk' } s₂ → LoopStepU h₀ env.locals wr own (J (i + 1)) { s with heap := hh', toks := tk' } .next s₂ := by
      rintro ⟨h', tk, m', nx, e, F', N', hs', hm⟩
      refine ⟨rfl, h', tk, m', nx, e, F', fun p hp => N' p ((List.mem_append.mp hp).elim (fun h => List.mem_append.mpr (.inr h)) fun h => List.mem_append.mpr (.inl h)), ?_, hm⟩
      exact off_of_apart (h₀ := h₀) (h := hh') W.sub hwr (hlive _ _ hst1) hall hs'
    cases f with
    | ret v => exact .ret p
    | brk => exact .brk p
    | next => exact .next (fin p)
    | cont => exact .cont (fin p)
  · rintro h' tk m' news' F' N' _ hJ
    exact done m' news' h' tk hJ F' N'

/-- a loop over a text's signs -/
theorem loop_text {xt : Str} {tx : Tok} {m₀ : Str → Option Value} {news : List (Addr × Obj)} (J : Nat → (Str → Option Value) → List (Addr × Obj) → Prop)
    (hh : A.handled = none) (F : Fr h₀ env.locals s.heap m₀) (N : News h₀ env.locals s.heap news) (hj : J 0 m₀ news)
    (turn : ∀ i n t m₁ nx h tk own, xt.cps[i]? = some n → (∀ p ∈ nx, ∀ q ∈ own, p.1 ≠ q.1) → J i m₁ nx → Fr h₀ env.locals h (fun y => if y = x then some (.str ⟨#[n]⟩ t) else m₁ y) → News h₀ env.locals h (nx ++ own) →
      wpAny (model prog w) A (execs body env) (TurnPost h₀ env.locals (J (i + 1)) own { s with heap := h, toks := tk } Q) E { s with heap := h, toks := tk })
    (done : ∀ m₁ nx h tk, J xt.cps.size m₁ nx → Fr h₀ env.locals h m₁ → News h₀ env.locals h nx → Q .next { s with heap := h, toks := tk }) :
    wpAny (model prog w) A (pyIter (.str xt tx)) (fun it s₂ => LoopAtV prog w A h₀ env x body Q E it s₂) E s := by
  have go : ∀ (cls : String) (o : Obj) (W : Walks prog w A s.heap.objs.size [s.heap.objs.size] [s.heap.objs.size] xt.cps.size (SignAt xt) (fun i h => h.IsStrIter s.heap.objs.size cls xt tx i)),
      (s.heap.push o).IsStrIter s.heap.objs.size cls xt tx 0 → LoopAtV prog w A h₀ env x body Q E (.ref s.heap.objs.size) { s with heap := s.heap.push o } := by
    intro cls o W hst
    refine loop_any J W ?_ ?_ ?_ ?_ ?_ hst (F.push _) (fun p hp => ⟨Heap.get?_push_of_some _ (N p hp).1, (N p hp).2⟩) hj ?_ ?_
    · intro hm
      exact absurd F.ns.lt ((List.mem_singleton.mp hm) ▸ Nat.lt_irrefl _)
    · intro b' hb
      rw [List.mem_singleton.mp hb]
      exact next_is_new F
    · rintro i h ⟨o, ho, _⟩ b hb
      rw [List.mem_singleton.mp hb]
      exact ⟨o, ho⟩
    · intro b hb hnb
      exact absurd hb hnb
    · intro p hp hI
      exact absurd (Heap.lt_size (N p hp).1) ((List.mem_singleton.mp hI) ▸ Nat.lt_irrefl _)
    · rintro i v m₁ nx h tk own hi ⟨n, u, hn, rfl⟩ hoff hJ F₁ N₁
      exact turn i n u m₁ nx h tk own hn hoff hJ F₁ N₁
    · exact done
  cases ha : xt.cps.all (· < 128)
  · exact wpAny_pyIter_wide ha (go _ _ (Walks.strWide hh _ xt tx) ⟨_, Heap.get?_push_size _ rfl, rfl, rfl⟩)
  · exact wpAny_pyIter_ascii ha (go _ _ (Walks.strAscii hh _ xt tx) ⟨_, Heap.get?_push_size _ rfl, rfl, rfl⟩)

/-- a loop over a range by ones -/
theorem loop_range {r : Addr} {a₀ b₀ : Int} {t₀ u₀ v₀ : Tok} {n : Nat} {m₀ : Str → Option Value} {news : List (Addr × Obj)} (J : Nat → (Str → Option Value) → List (Addr × Obj) → Prop)
    (hh : A.handled = none) (hr : IsRange s.heap r a₀ b₀ 1 t₀ u₀ v₀) (hsmall : Builtin.Range.small a₀ b₀ 1 = true) (hn : Builtin.Range.rangeSize a₀ b₀ 1 = (n : Int))
    (F : Fr h₀ env.locals s.heap m₀) (N : News h₀ env.locals s.heap news) (hj : J 0 m₀ news)
    (turn : ∀ i t m₁ nx h tk own, i < n → (∀ p ∈ nx, ∀ q ∈ own, p.1 ≠ q.1) → J i m₁ nx → Fr h₀ env.locals h (fun y => if y = x then some (.int (a₀ + (i : Nat)) t) else m₁ y) → News h₀ env.locals h (nx ++ own) →
      wpAny (model prog w) A (execs body env) (TurnPost h₀ env.locals (J (i + 1)) own { s with heap := h, toks := tk } Q) E { s with heap := h, toks := tk })
    (done : ∀ m₁ nx h tk, J n m₁ nx → Fr h₀ env.locals h m₁ → News h₀ env.locals h nx → Q .next { s with heap := h, toks := tk }) :
    wpAny (model prog w) A (pyIter (.ref r)) (fun it s₂ => LoopAtV prog w A h₀ env x body Q E it s₂) E s := by
  refine wpAny_pyIter_range hr hsmall ?_
  have W : Walks prog w A s.heap.objs.size [s.heap.objs.size] [s.heap.objs.size] n (fun i v => i < n ∧ ∃ t, v = .int (a₀ + i * 1) t)
      (fun i h => IsRangeIter h s.heap.objs.size (a₀ + (i : Nat) * 1) ((n : Int) - (i : Nat)) 1) := (Walks.range hh _ a₀ 1 n).bound
  refine loop_any J W ?_ ?_ ?_ ?_ ?_ (by show IsRangeIter _ _ _ _ _; rw [hn]; simpa using Heap.get?_push_size _ rfl) (F.push _) (fun p hp => ⟨Heap.get?_push_of_some _ (N p hp).1, (N p hp).2⟩) hj ?_ ?_
  · intro hm
    exact absurd F.ns.lt ((List.mem_singleton.mp hm) ▸ Nat.lt_irrefl _)
  · intro b hb
    rw [List.mem_singleton.mp hb]
    exact next_is_new F
  · intro i h st b hb
    rw [List.mem_singleton.mp hb]
    exact ⟨_, st⟩
  · intro b hb hnb
    exact absurd hb hnb
  · intro p hp hI
    exact absurd (Heap.lt_size (N p hp).1) ((List.mem_singleton.mp hI) ▸ Nat.lt_irrefl _)
  · rintro i v m₁ nx h tk own hi ⟨_, t, rfl⟩ hoff hJ F₁ N₁
    have e1 : a₀ + (i : Int) * 1 = a₀ + (i : Int) := by omega
    rw [e1] at F₁
    exact turn i t m₁ nx h tk own hi hoff hJ F₁ N₁
  · exact done
end
end Mine
namespace Mine
/-- a blank's or a tab's code -/
def isWs (c : Nat) : Bool := c == 32 || c == 9
/-- the counts with one more run of b blanks -/
def bump (c : List Int) (b : Nat) : List Int :=
  let c' := if c.length ≤ b then c ++ List.replicate (b - c.length + 1) 0 else c
  c'.set b (c'.getD b 0 + 1)
structure Sc where
  c : List Int
  b : Nat
  n : Nat
  nt : Nat
def Sc.init : Sc := ⟨[], 0, 0, 0⟩
def Sc.step (s : Sc) (ch : Nat) : Sc := if ch = 32 then ⟨s.c, s.b + 1, s.n + 1, s.nt⟩ else ⟨bump s.c s.b, 0, s.n + 1, s.nt + 1⟩
def scan (l : List Nat) : Sc := l.foldl Sc.step Sc.init
theorem scan_snoc (l : List Nat) (ch : Nat) : scan (l ++ [ch]) = (scan l).step ch := by simp [scan]
theorem take_snoc {l : List Nat} {i ch : Nat} (h : l[i]? = some ch) : l.take (i + 1) = l.take i ++ [ch] := by simp [List.take_add_one, h]
theorem takeWhile_stop {l : List Nat} {i ch : Nat} (h : l[i]? = some ch) (ha : (l.take i).all isWs = true) (hn : isWs ch = false) : l.takeWhile isWs = l.take i := by
  induction i generalizing l with
  | zero => cases l with
    | nil => rfl
    | cons a r => simp at h; subst h; simp [hn]
  | succ i ih => cases l with
    | nil => simp at h
    | cons a r =>
      simp only [List.take_succ_cons, List.all_cons, Bool.and_eq_true] at ha
      simp only [List.getElem?_cons_succ] at h
      simp only [List.takeWhile_cons, ha.1, if_true, List.take_succ_cons, ih h ha.2]
theorem takeWhile_full {l : List Nat} (ha : l.all isWs = true) : l.takeWhile isWs = l := by
  induction l with
  | nil => rfl
  | cons a r ih =>
    simp only [List.all_cons, Bool.and_eq_true] at ha
    simp only [List.takeWhile_cons, ha.1, if_true, ih ha.2]
theorem step_b_le (s : Sc) (ch : Nat) : (s.step ch).b ≤ s.b + 1 := by unfold Sc.step; split <;> simp
theorem bump_len (c : List Int) (b : Nat) : (bump c b).length = if c.length ≤ b then b + 1 else c.length := by
  unfold bump
  split <;> simp
  omega
theorem scan_sizes (l : List Nat) : (scan l).b ≤ l.length ∧ (scan l).n = l.length ∧ (scan l).nt ≤ l.length ∧ (scan l).c.length ≤ l.length := by
  have key : ∀ (l : List Nat) (s : Sc) (k : Nat), s.c.length + s.b ≤ k → s.n = k → s.nt ≤ k → let r := l.foldl Sc.step s; r.c.length + r.b ≤ k + l.length ∧ r.n = k + l.length ∧ r.nt ≤ k + l.length := by
    intro l
    induction l with
    | nil => intro s k h1 h2 h3; exact ⟨h1, h2, h3⟩
    | cons a r ih =>
      intro s k h1 h2 h3
      have := ih (s.step a) (k + 1) (by unfold Sc.step; split; (show s.c.length + (s.b + 1) ≤ k + 1; omega); (show (bump s.c s.b).length + 0 ≤ k + 1; rw [bump_len]; split <;> omega)) (by unfold Sc.step; split; (show s.n + 1 = k + 1; omega); (show s.n + 1 = k + 1; omega)) (by unfold Sc.step; split; (show s.nt ≤ k + 1; omega); (show s.nt + 1 ≤ k + 1; omega))
      simp only [List.foldl_cons, List.length_cons]
      dsimp only at this
      omega
  have := key l Sc.init 0 (Nat.le_refl _) rfl (Nat.le_refl _)
  dsimp only at this
  unfold scan
  omega
end Mine
namespace Mine
open PySem.Spec PyProof.V PySem.Calls
def initMap (r : Str → Option Value) (l' : Addr) (S : Sc) (t1 t2 t3 : Tok) : Str → Option Value := fun y =>
  if y = Str.ofString "nt" then some (.int S.nt t1) else if y = Str.ofString "n" then some (.int S.n t2) else if y = Str.ofString "b" then some (.int S.b t3)
  else if y = Str.ofString "count" then some (.ref l') else r y
theorem news_drop2 {h₀ h : Heap} {L : Addr} {a b : Addr × Obj} {r : List (Addr × Obj)} (N : News h₀ L h (a :: b :: r)) : News h₀ L h (a :: r) := fun p hp => N p ((List.mem_cons.mp hp).elim (fun e => e ▸ .head _) fun h => .tail _ (.tail _ h))
theorem ne_of_allLt {d : Addr} : ∀ {l : List (Addr × Obj)}, AllLt d l → ∀ p ∈ l, p.1 ≠ d
  | [], _, _, hp => (nomatch hp)
  | _ :: _, h, p, hp => by
    rcases List.mem_cons.mp hp with rfl | hp
    · exact Nat.ne_of_lt h.1
    · exact ne_of_allLt h.2 p hp

/-- a turn of __init__'s loop -/
def InitPost (h₀ : Heap) (L : Addr) (x : Str) (r : Str → Option Value) (S : Sc) (n : Nat) (T : List (Addr × Obj)) (s₁ : Shared) (f : Flow) (s₂ : Shared) : Prop :=
  ∃ lc vs k t1 t2 t3 m' h' tk, s₂ = { s₁ with heap := h', toks := tk } ∧ Fr h₀ L h' m' ∧ News h₀ L h' ((lc, listOf (List.toArray vs) k) :: T) ∧ (∀ p ∈ T, p.1 ≠ lc) ∧
    match f with
    | .brk => isWs n = false ∧ IntsAre vs S.c ∧ ∀ y, y ≠ x → m' y = initMap r lc S t1 t2 t3 y
    | .next => isWs n = true ∧ IntsAre vs (S.step n).c ∧ ∀ y, y ≠ x → m' y = initMap r lc (S.step n) t1 t2 t3 y
    | _ => False
theorem init_map {m' r : Str → Option Value} {x : Str} {lc : Addr} {S : Sc} {t1 t2 t3 : Tok} (h1 : m' (Str.ofString "nt") = some (.int S.nt t1)) (h2 : m' (Str.ofString "n") = some (.int S.n t2)) (h3 : m' (Str.ofString "b") = some (.int S.b t3)) (h4 : m' (Str.ofString "count") = some (.ref lc))
    (h5 : ∀ y, y ≠ x → y ≠ Str.ofString "nt" → y ≠ Str.ofString "n" → y ≠ Str.ofString "b" → y ≠ Str.ofString "count" → m' y = r y) : ∀ y, y ≠ x → m' y = initMap r lc S t1 t2 t3 y := by
  intro y hy
  unfold initMap
  by_cases e1 : y = Str.ofString "nt"
  · rw [if_pos e1, e1, h1]
  by_cases e2 : y = Str.ofString "n"
  · rw [if_neg e1, if_pos e2, e2, h2]
  by_cases e3 : y = Str.ofString "b"
  · rw [if_neg e1, if_neg e2, if_pos e3, e3, h3]
  by_cases e4 : y = Str.ofString "count"
  · rw [if_neg e1, if_neg e2, if_neg e3, if_pos e4, e4, h4]
  rw [if_neg e1, if_neg e2, if_neg e3, if_neg e4, h5 y hy e1 e2 e3 e4]
theorem init_next {h₀ h' : Heap} {L lc : Addr} {x : Str} {r m' : Str → Option Value} {S : Sc} {n : Nat} {T : List (Addr × Obj)} {s₁ : Shared} {vs : List Value} {k tk : Nat} {t1 t2 t3 : Tok}
    (F : Fr h₀ L h' m') (N : News h₀ L h' ((lc, listOf (List.toArray vs) k) :: T)) (hT : ∀ p ∈ T, p.1 ≠ lc) (hn : isWs n = true) (hI : IntsAre vs (S.step n).c)
    (h1 : m' (Str.ofString "nt") = some (.int (S.step n).nt t1)) (h2 : m' (Str.ofString "n") = some (.int (S.step n).n t2)) (h3 : m' (Str.ofString "b") = some (.int (S.step n).b t3)) (h4 : m' (Str.ofString "count") = some (.ref lc))
    (h5 : ∀ y, y ≠ x → y ≠ Str.ofString "nt" → y ≠ Str.ofString "n" → y ≠ Str.ofString "b" → y ≠ Str.ofString "count" → m' y = r y) : InitPost h₀ L x r S n T s₁ .next { s₁ with heap := h', toks := tk } :=
  ⟨lc, vs, k, t1, t2, t3, m', h', tk, rfl, F, N, hT, hn, hI, init_map h1 h2 h3 h4 h5⟩
theorem init_brk {h₀ h' : Heap} {L lc : Addr} {x : Str} {r m' : Str → Option Value} {S : Sc} {n : Nat} {T : List (Addr × Obj)} {s₁ : Shared} {vs : List Value} {k tk : Nat} {t1 t2 t3 : Tok}
    (F : Fr h₀ L h' m') (N : News h₀ L h' ((lc, listOf (List.toArray vs) k) :: T)) (hT : ∀ p ∈ T, p.1 ≠ lc) (hn : isWs n = false) (hI : IntsAre vs S.c)
    (h1 : m' (Str.ofString "nt") = some (.int S.nt t1)) (h2 : m' (Str.ofString "n") = some (.int S.n t2)) (h3 : m' (Str.ofString "b") = some (.int S.b t3)) (h4 : m' (Str.ofString "count") = some (.ref lc))
    (h5 : ∀ y, y ≠ x → y ≠ Str.ofString "nt" → y ≠ Str.ofString "n" → y ≠ Str.ofString "b" → y ≠ Str.ofString "count" → m' y = r y) : InitPost h₀ L x r S n T s₁ .brk { s₁ with heap := h', toks := tk } :=
  ⟨lc, vs, k, t1, t2, t3, m', h', tk, rfl, F, N, hT, hn, hI, init_map h1 h2 h3 h4 h5⟩
section
variable {prog : Program} {w : World} {A : Around} {E : Value → Shared → Prop} {s : Shared} {env : Env} {h₀ : Heap} {x : Str} {body : List Stmt} {Q : Flow → Shared → Prop}
theorem init_rule {xt : Str} {tx : Tok} {m₀ : Str → Option Value} {R : List (Addr × Obj)} {r : Str → Option Value} {l' : Addr} {t1 t2 t3 : Tok}
    (hh : A.handled = none) (F : Fr h₀ env.locals s.heap m₀) (N : News h₀ env.locals s.heap ((l', listOf #[] 0) :: R)) (hR : ∀ p ∈ R, p.1 ≠ l') (hm : ∀ y, m₀ y = initMap r l' Sc.init t1 t2 t3 y)
    (turn : ∀ (S : Sc) (n : Nat) t lc vs k t1 t2 t3 h tk T, IntsAre vs S.c → S.b ≤ xt.length → S.n ≤ xt.length → S.nt ≤ xt.length → S.c.length ≤ xt.length → (∀ p ∈ T, p.1 ≠ lc) →
      Fr h₀ env.locals h (fun y => if y = x then some (.str ⟨#[n]⟩ t) else initMap r lc S t1 t2 t3 y) → News h₀ env.locals h ((lc, listOf (List.toArray vs) k) :: T) →
      wpAny (model prog w) A (execs body env) (InitPost h₀ env.locals x r S n T { s with heap := h, toks := tk }) E { s with heap := h, toks := tk })
    (done : ∀ (u : Str → Option Value) lc vs k t1 t2 t3 h tk, IntsAre vs (scan (xt.cps.toList.takeWhile isWs)).c → (∀ p ∈ R, p.1 ≠ lc) →
      Fr h₀ env.locals h (fun y => if y = x then u y else initMap r lc (scan (xt.cps.toList.takeWhile isWs)) t1 t2 t3 y) → News h₀ env.locals h ((lc, listOf (List.toArray vs) k) :: R) → Q .next { s with heap := h, toks := tk }) :
    wpAny (model prog w) A (pyIter (.str xt tx)) (fun it s₂ => LoopAtV prog w A h₀ env x body Q E it s₂) E s := by
  refine loop_text (fun i m₁ nx => ∃ lc vs k t1 t2 t3, (xt.cps.toList.take i).all isWs = true ∧ IntsAre vs (scan (xt.cps.toList.take i)).c ∧ (∀ p ∈ R, p.1 ≠ lc) ∧ nx = (lc, listOf (List.toArray vs) k) :: R ∧ ∀ y, y ≠ x → m₁ y = initMap r lc (scan (xt.cps.toList.take i)) t1 t2 t3 y) hh F N ⟨l', [], 0, t1, t2, t3, rfl, .nil, hR, rfl, fun y _ => hm y⟩ ?_ ?_
  · rintro i n t m₁ nx h tk own hi hoff ⟨lc, vs, k, t1, t2, t3, ha, hI, hR', rfl, hm'⟩ F₁ N₁
    have hi' : xt.cps.toList[i]? = some n := by simpa using hi
    have e : (fun y => if y = x then some (Value.str ⟨#[n]⟩ t) else m₁ y) = fun y => if y = x then some (Value.str ⟨#[n]⟩ t) else initMap r lc (scan (xt.cps.toList.take i)) t1 t2 t3 y := by
      funext y; by_cases h1 : y = x
      · simp only [if_pos h1]
      · simp only [if_neg h1]; exact hm' y h1
    rw [e] at F₁
    have hsz := scan_sizes (xt.cps.toList.take i)
    have hlen : (xt.cps.toList.take i).length ≤ xt.length := by simp [PySem.Str.length]; omega
    refine wpAny_mono (turn (scan (xt.cps.toList.take i)) n t lc vs k t1 t2 t3 h tk (R ++ own) hI (by omega) (by omega) (by omega) (by omega) ?_ F₁ N₁) (fun f s₂ p => ?_) fun _ _ e => e
    · intro p hp
      rcases List.mem_append.mp hp with h1 | h1
      · exact hR' p h1
      · exact fun e => hoff (lc, listOf vs.toArray k) (.head _) p h1 e.symm
    · obtain ⟨lc2, vs2, k2, u1, u2, u3, m2, h2, tk2, rfl, F2, N2, hne, hf⟩ := p
      have hRn : ∀ p ∈ R, p.1 ≠ lc2 := fun p hp => hne p (List.mem_append_left _ hp)
      cases f with
      | ret v => exact hf.elim
      | cont => exact hf.elim
      | brk =>
        obtain ⟨hn, hI2, hm2⟩ := hf
        have et := takeWhile_stop hi' ha hn
        show Q .next _
        refine done m2 lc2 vs2 k2 u1 u2 u3 h2 tk2 (et ▸ hI2) hRn ?_ (fun p hp => N2 p ((List.mem_cons.mp hp).elim (fun e => e ▸ .head _) fun h => .tail _ (List.mem_append_left _ h)))
        have e2 : (fun y => if y = x then m2 y else initMap r lc2 (scan (xt.cps.toList.takeWhile isWs)) u1 u2 u3 y) = m2 := by
          funext y; by_cases h1 : y = x
          · simp only [if_pos h1]
          · simp only [if_neg h1, et]; exact (hm2 y h1).symm
        rw [e2]; exact F2
      | next =>
        obtain ⟨hn, hI2, hm2⟩ := hf
        have et := take_snoc hi'
        refine TurnEnd.intro (nx := (lc2, listOf vs2.toArray k2) :: R) F2 N2 ?_ ⟨lc2, vs2, k2, u1, u2, u3, ?_, ?_, hRn, rfl, ?_⟩
        · intro p hp q hq
          rcases List.mem_cons.mp hp with rfl | hp
          · exact (hne q (List.mem_append_right _ hq)).symm
          · exact hoff p (.tail _ hp) q hq
        · rw [et, List.all_append, ha]; simp [hn]
        · rw [et, scan_snoc]; exact hI2
        · rw [et, scan_snoc]; exact hm2
  · rintro m₁ nx h tk ⟨lc, vs, k, t1, t2, t3, ha, hI, hR', rfl, hm'⟩ F₁ N₁
    have et : xt.cps.toList.take xt.cps.size = xt.cps.toList := List.take_of_length_le (by simp)
    rw [et] at ha hI hm'
    have ew := takeWhile_full ha
    refine done m₁ lc vs k t1 t2 t3 h tk (ew.symm ▸ hI) hR' ?_ N₁
    have e2 : (fun y => if y = x then m₁ y else initMap r lc (scan (xt.cps.toList.takeWhile isWs)) t1 t2 t3 y) = m₁ := by
      funext y; by_cases h1 : y = x
      · simp only [if_pos h1]
      · simp only [if_neg h1, ew]; exact (hm' y h1).symm
    rw [e2]; exact F₁
end
end Mine
namespace Mine

/-- an object of Whitespace on the ledger -/
def WsAt (P : Params) (led : List (Addr × Obj)) (x : Addr) (S : Sc) : Prop :=
  ∃ (d na ca : Addr) (vs : List Value) (raw : Str) (tr k1 k2 k3 k4 k5 tn tnt tb : Tok),
    (x, instObj 76 d) ∈ led ∧
    (d, dictOf [⟨PyData.keyHash P (Str.ofString "raw"), .str (Str.ofString "raw") k1, .str raw tr⟩, ⟨PyData.keyHash P (Str.ofString "n"), .str (Str.ofString "n") k2, .int S.n tn⟩,
      ⟨PyData.keyHash P (Str.ofString "nt"), .str (Str.ofString "nt") k3, .int S.nt tnt⟩, ⟨PyData.keyHash P (Str.ofString "norm"), .str (Str.ofString "norm") k4, .ref na⟩,
      ⟨PyData.keyHash P (Str.ofString "is_simple"), .str (Str.ofString "is_simple") k5, .bool (decide ((S.c.length : Int) ≤ 1))⟩] 5) ∈ led ∧
    (na, ({ cls := .type "tuple", data := .seq #[.ref ca, .int S.b tb] } : Obj)) ∈ led ∧ (ca, ({ cls := .type "tuple", data := .seq (List.toArray vs) } : Obj)) ∈ led ∧ IntsAre vs S.c

/-- the call makes an object -/
abbrev MakesWs (P : Params) (news : List (Addr × Obj)) (S : Sc) (h₀ : Heap) (L : Addr) (m : Str → Option Value) (s : Shared) (Q : Value → Shared → Prop) : Prop :=
  ∀ (x : Addr) (led : List (Addr × Obj)) (h' : Heap) (tk' : Nat), Fr h₀ L h' m → News h₀ L h' (led ++ news) → (∀ q ∈ news, ∀ p ∈ led, q.1 < p.1) → WsAt P led x S → Q (.ref x) { s with heap := h', toks := tk' }

theorem lt_of_allLt {d : Addr} : ∀ {l : List (Addr × Obj)}, AllLt d l → ∀ p ∈ l, p.1 < d
  | [], _, _, hp => (nomatch hp)
  | _ :: _, h, p, hp => by
    rcases List.mem_cons.mp hp with rfl | hp
    · exact h.1
    · exact lt_of_allLt h.2 p hp
theorem sign_sp {n : Nat} (h : ((⟨#[n]⟩ : Str) == Str.ofString " ") = true) : n = 32 := by
  have h1 : (⟨#[n]⟩ : Str) = ⟨#[32]⟩ := eq_of_beq h
  simpa using h1
theorem sign_tab {n : Nat} (h : ((⟨#[n]⟩ : Str) == Str.ofString "\t") = true) : n = 9 := by
  have h1 : (⟨#[n]⟩ : Str) = ⟨#[9]⟩ := eq_of_beq h
  simpa using h1
theorem sign_not {n : Nat} (h : ((⟨#[n]⟩ : Str) == Str.ofString " ") = false) (h' : ((⟨#[n]⟩ : Str) == Str.ofString "\t") = false) : isWs n = false := by
  unfold isWs
  cases h1 : (n == 32 || n == 9) with
  | false => rfl
  | true =>
    rcases Bool.or_eq_true_iff.mp h1 with h2 | h2
    · rw [eq_of_beq h2] at h; exact absurd h (by decide +kernel)
    · rw [eq_of_beq h2] at h'; exact absurd h' (by decide +kernel)
theorem rep_flat (k : Nat) : (List.replicate k [(0 : Int)]).flatten = List.replicate k 0 := by
  induction k with
  | zero => rfl
  | succ k ih => simp [List.replicate_succ, ih]
theorem toList_id (vs : List Value) : vs.toArray.toList = vs := rfl
theorem news_drop4 {h₀ h : Heap} {L : Addr} {a b c d : Addr × Obj} {r : List (Addr × Obj)} (N : News h₀ L h (a :: b :: c :: d :: r)) : News h₀ L h (a :: r) := fun p hp => N p ((List.mem_cons.mp hp).elim (fun e => e ▸ .head _) fun h => .tail _ (.tail _ (.tail _ (.tail _ h))))
theorem news_drop5 {h₀ h : Heap} {L : Addr} {a b c d e : Addr × Obj} {r : List (Addr × Obj)} (N : News h₀ L h (a :: b :: c :: d :: e :: r)) : News h₀ L h ([a, b, d, e] ++ r) := fun p hp => N p (by
  simp only [List.cons_append, List.nil_append, List.mem_cons] at hp ⊢
  rcases hp with h | h | h | h | h
  · exact .inl h
  · exact .inr (.inl h)
  · exact .inr (.inr (.inr (.inl h)))
  · exact .inr (.inr (.inr (.inr (.inl h))))
  · exact .inr (.inr (.inr (.inr (.inr h)))))
theorem step_sp (S : Sc) : S.step 32 = ⟨S.c, S.b + 1, S.n + 1, S.nt⟩ := rfl
theorem step_tab (S : Sc) : S.step 9 = ⟨bump S.c S.b, 0, S.n + 1, S.nt + 1⟩ := rfl
theorem bump_long {c : List Int} {b : Nat} (h : c.length ≤ b) : (c ++ (List.replicate ((b : Int) - (c.length : Int) + 1).toNat [(0 : Int)]).flatten).set ((b : Int)).toNat ((c ++ (List.replicate ((b : Int) - (c.length : Int) + 1).toNat [(0 : Int)]).flatten).getD ((b : Int)).toNat 0 + 1) = bump c b := by
  have e : ((b : Int) - (c.length : Int) + 1).toNat = b - c.length + 1 := by omega
  rw [rep_flat, e, Int.toNat_natCast]
  unfold bump
  rw [if_pos h]
theorem bump_short {c : List Int} {b : Nat} (h : ¬ c.length ≤ b) : c.set ((b : Int)).toNat (c.getD ((b : Int)).toNat 0 + 1) = bump c b := by
  rw [Int.toNat_natCast]
  unfold bump
  rw [if_neg h]

section
local macro_rules | `(tactic| k_room) => `(tactic| ktr_room)
local macro_rules | `(tactic| k_all) => `(tactic| first | assumption | exact ne_of_allLt (by assumption))
local macro_rules | `(tactic| walk_at "call type:tuple") => `(tactic| (k_here; k_dflt (refine' kde_tupleOf ?k1 ?k2 ?k3 ?k4 ?k5 ?_; (case k1 => k_asm); (case k2 => k_asm); (case k3 => exact News.isList (by k_asm) (by k_mem)); (case k4 => assumption); (case k5 => exact toList_id _); k_whole); intro D' h' F' N' l1; (try k_lt l1); (try k_sweep)))
theorem ws_does (w : World) (mean : ExcName → Option Value) (mg mb : Str → Option Value) (news : List (Addr × Obj)) (xt : Str) (tx : Tok) (hx : xt.length ≤ 1000) :
    Does 2 w mean mg mb 76 news [.str xt tx] (MakesWs w.params news (scan (xt.cps.toList.takeWhile isWs))) := by
  dsimp only [Does, MakesWs]
  k_fill
  intro dp un gd cn cs a ccd cl outer A₀ base h₀ L m s Q E B F X N T hk hdp hun hret
  w_top off
  k_with_none
  w_strict (
    (refine' call_cls ?k1 ?k2 ?k3 ?k4 ?k5 ?k6 ?_; (case k1 => k_asm); (case k2 => k_asm); (case k3 => k_asm); (case k4 => k_is); (case k5 => k_is); (case k6 => k_is); k_whole; intro x' d' h' F' N' l1 l2; (try k_lt l1); (try k_lt2 l2); (try k_sweep); cell_enter)
    k_steps
    rename_i l3 _ _ _ _ F2 N2
    (refine' init_rule ?hh F2 (news_drop2 N2) ?hR ?hm ?turn ?done; (case hh => rfl); (case hR => exact ne_of_allLt ⟨l3.2.1, l3.2.2.1, l3.2.2.2⟩); (case hm => intro y; first | rfl | fail "hm"))
    (case turn =>
      intro S n t lc vs k t1 t2 t3 h tk T2 hI hb hn hnt hc hT F3 N3
      unfold initMap at F3
      k_steps
      · rename_i hq _ _ F4 N4
        obtain rfl := sign_sp hq
        refine init_next F4 N4 hT rfl hI rfl rfl rfl rfl ?_
        intro y e0 e1 e2 e3 e4
        simp only [if_neg e0, if_neg e1, if_neg e2, if_neg e3, if_neg e4]
      · rename_i F4 N4
        (rename ((⟨#[n]⟩ : Str) == Str.ofString "\t") = true => hq2)
        (rename IntsAre (List.set _ _ _) _ => hsI)
        (rename _ < _ ∧ _ < _ ∧ _ < _ ∧ AllLt _ T2 => l9)
        (rename ((S.c.length : Int) ≤ (S.b : Int)) => hle)
        obtain rfl := sign_tab hq2
        rw [bump_long (by omega)] at hsI
        refine init_next F4 (news_drop4 N4) (ne_of_allLt l9.2.2.2) rfl hsI rfl rfl rfl rfl ?_
        intro y e0 e1 e2 e3 e4
        simp only [if_neg e0, if_neg e1, if_neg e2, if_neg e3, if_neg e4]
      · rename_i F4 N4
        (rename ((⟨#[n]⟩ : Str) == Str.ofString "\t") = true => hq2)
        (rename IntsAre (List.set _ _ _) _ => hsI)
        (rename ¬ ((S.c.length : Int) ≤ (S.b : Int)) => hle)
        obtain rfl := sign_tab hq2
        rw [bump_short (by omega)] at hsI
        refine init_next F4 N4 hT rfl hsI rfl rfl rfl rfl ?_
        intro y e0 e1 e2 e3 e4
        simp only [if_neg e0, if_neg e1, if_neg e2, if_neg e3, if_neg e4]
      · rename_i hq1 hq2
        refine init_brk F3 N3 hT (sign_not hq1 hq2) hI rfl rfl rfl rfl ?_
        intro y e0 e1 e2 e3 e4
        simp only [if_neg e0, if_neg e1, if_neg e2, if_neg e3, if_neg e4])
    (case done =>
      intro u lc vs k t1 t2 t3 h tk hI hT F3 N3
      unfold initMap at F3
      have hl1 : @Ne Nat x' lc := hT _ (.head _)
      have hl2 : @Ne Nat d' lc := hT _ (.tail _ (.head _))
      have hl3 : ∀ p ∈ news, p.1 ≠ lc := fun p hp => hT p (.tail _ (.tail _ hp))
      have hl4 : ∀ p ∈ news, p.1 ≠ d' := fun p hp => Nat.ne_of_lt (l1 p hp)
      clear hT
      have hsz := scan_sizes (List.takeWhile isWs xt.cps.toList)
      have htw : (List.takeWhile isWs xt.cps.toList).length ≤ 1000 := Nat.le_trans (List.Sublist.length_le (List.takeWhile_sublist _)) (by simpa [PySem.Str.length] using hx)
      have hvl : vs.toArray.size ≤ 16384 := by rw [List.size_toArray, hI.length]; omega
      k_steps
      rename_i kF kN _ _
      (rename _ < _ ∧ _ < _ ∧ _ < _ ∧ _ < _ ∧ AllLt _ news => l9)
      (rename _ < _ ∧ _ < _ ∧ _ < _ ∧ AllLt _ news => l8)
      refine hret x' _ _ _ kF (news_drop5 kN) ?_ ⟨d', _, _, vs, xt, tx, _, _, _, _, _, _, _, _, .tail _ (.tail _ (.head _)), .tail _ (.tail _ (.tail _ (.head _))), .head _, .tail _ (.head _), hI⟩
      intro q hq p hp
      have a1 := lt_of_allLt l9.2.2.2.2 q hq
      have a2 := lt_of_allLt l8.2.2.2 q hq
      have a3 := l1 q hq
      simp only [List.mem_cons, List.not_mem_nil, or_false] at hp
      rcases hp with rfl | rfl | rfl | rfl
      · exact a1
      · exact a2
      · exact Nat.lt_trans a3 l2
      · exact a3))
end
end Mine
namespace Mine
section
variable {prog : Program} {w : World} {A : Around} {E : Value → Shared → Prop} {s : Shared} {h₀ : Heap} {L : Addr} {news : List (Addr × Obj)}
theorem tup_len {ca : Addr} {vs : List Value} {c : List Int} {n : Nat} {Q : Value → Shared → Prop} (N : News h₀ L s.heap news) (hm : (ca, ({ cls := .type "tuple", data := .seq (List.toArray vs) n } : Obj)) ∈ news) (hI : IntsAre vs c) (hb : c.length ≤ 1000)
    (h : Q (.int c.length (s.toks + 1)) { s with toks := s.toks + 1 + 1 }) : wpAny (model prog w) A (call (.builtin "len") [.ref ca]) Q E s := by
  have e : vs.toArray.size = c.length := by simp [hI.length]
  refine len_tuple (News.isTup N hm) (by rw [e]; omega) ?_
  rw [e]; exact h
theorem tup_item {value slice : Expr} {ca : Addr} {vs : List Value} {c : List Int} {n : Nat} {i : Int} {u : Tok} {Q : Value → Shared → Prop} (N : News h₀ L s.heap news) (hm : (ca, ({ cls := .type "tuple", data := .seq (List.toArray vs) n } : Obj)) ∈ news) (hI : IntsAre vs c) (hb : c.length ≤ 1000)
    (h0 : 0 ≤ i) (h1 : i < c.length) (h : ∀ t, Q (.int (c.getD i.toNat 0) t) s)
    (hs : subscripted slice false (.ref ca) (.int i u) = operate [.ref ca, .int i u] (getItem (.ref ca) (.int i u)) := by with_unfolding_all rfl) :
    wpAny (model prog w) A (subscriptTail value slice (.ref ca) (.int i u)) Q E s := by
  have hlt : i.toNat < c.length := by omega
  obtain ⟨t, ht⟩ := hI.get i.toNat c[i.toNat] (by simp [hlt])
  have hvl : vs.length = c.length := hI.length
  refine item_tupleT (l := vs) (j := i.toNat) (News.isTup N hm) (by omega) (by omega) ?_ ht ?_ hs
  · unfold seqIndex?
    have h2 : ¬ i < 0 := by omega
    simp only [if_neg h2]
    rw [if_pos (by simp only [Bool.and_eq_true, decide_eq_true_eq]; omega)]
  · have := h t
    rw [show c.getD i.toNat 0 = c[i.toNat] from by simp [List.getD, hlt]] at this
    exact this
end
end Mine
namespace Mine
open PySem.Spec PyProof.V PySem.Calls

/-- a turn's end, the state told by c: the frame's map M c (but for the loop's own name), the ledger Led c ahead of T -/
def RNext {σ : Type} (M : σ → Str → Option Value) (Led : σ → List (Addr × Obj)) (h₀ : Heap) (L : Addr) (x : Str) (T : List (Addr × Obj)) (P : σ → Prop) (s₁ s₂ : Shared) : Prop :=
  ∃ c m' h' tk, s₂ = { s₁ with heap := h', toks := tk } ∧ Fr h₀ L h' m' ∧ (∀ y, y ≠ x → m' y = M c y) ∧ News h₀ L h' (Led c ++ T) ∧ (∀ p ∈ Led c, ∀ q ∈ T, p.1 ≠ q.1) ∧ P c
def RPost {σ : Type} (M : σ → Str → Option Value) (Led : σ → List (Addr × Obj)) (h₀ : Heap) (L : Addr) (x : Str) (T : List (Addr × Obj)) (P : σ → Prop) (s₁ : Shared) (Q : Flow → Shared → Prop) (f : Flow) (s₂ : Shared) : Prop :=
  match f with
  | .ret v => Q (.ret v) s₂
  | .brk => Q .next s₂
  | _ => RNext M Led h₀ L x T P s₁ s₂
theorem rnext {σ : Type} {M : σ → Str → Option Value} {Led : σ → List (Addr × Obj)} {h₀ h' : Heap} {L : Addr} {x : Str} {T : List (Addr × Obj)} {P : σ → Prop} {s₁ : Shared} {m' : Str → Option Value} {tk : Nat} {Q : Flow → Shared → Prop} (c : σ)
    (F : Fr h₀ L h' m') (N : News h₀ L h' (Led c ++ T)) (ha : ∀ p ∈ Led c, ∀ q ∈ T, p.1 ≠ q.1) (hm : ∀ y, y ≠ x → m' y = M c y) (hp : P c) : RPost M Led h₀ L x T P s₁ Q .next { s₁ with heap := h', toks := tk } :=
  ⟨c, m', h', tk, rfl, F, hm, N, ha, hp⟩
theorem rcont {σ : Type} {M : σ → Str → Option Value} {Led : σ → List (Addr × Obj)} {h₀ h' : Heap} {L : Addr} {x : Str} {T : List (Addr × Obj)} {P : σ → Prop} {s₁ : Shared} {m' : Str → Option Value} {tk : Nat} {Q : Flow → Shared → Prop} (c : σ)
    (F : Fr h₀ L h' m') (N : News h₀ L h' (Led c ++ T)) (ha : ∀ p ∈ Led c, ∀ q ∈ T, p.1 ≠ q.1) (hm : ∀ y, y ≠ x → m' y = M c y) (hp : P c) : RPost M Led h₀ L x T P s₁ Q .cont { s₁ with heap := h', toks := tk } :=
  ⟨c, m', h', tk, rfl, F, hm, N, ha, hp⟩
theorem map_in {m₁ : Str → Option Value} {x : Str} {v : Option Value} {M : Str → Option Value} (h : ∀ y, y ≠ x → m₁ y = M y) : (fun y => if y = x then v else m₁ y) = fun y => if y = x then v else M y := by
  funext y; by_cases h1 : y = x
  · simp only [if_pos h1]
  · simp only [if_neg h1]; exact h y h1
theorem map_out {m₁ : Str → Option Value} {x : Str} {M : Str → Option Value} (h : ∀ y, y ≠ x → m₁ y = M y) : m₁ = fun y => if y = x then m₁ y else M y := by
  funext y; by_cases h1 : y = x
  · simp only [if_pos h1]
  · simp only [if_neg h1]; exact h y h1
section
variable {prog : Program} {w : World} {A : Around} {E : Value → Shared → Prop} {s : Shared} {env : Env} {h₀ : Heap} {x : Str} {body : List Stmt} {Q : Flow → Shared → Prop}

theorem range_rule {σ : Type} {r : Addr} {a₀ b₀ : Int} {t₀ u₀ v₀ : Tok} {n : Nat} {m₀ : Str → Option Value} {R : List (Addr × Obj)} (M : σ → Str → Option Value) (Led : σ → List (Addr × Obj)) (P : Nat → σ → Prop) (c₀ : σ)
    (hh : A.handled = none) (hr : IsRange s.heap r a₀ b₀ 1 t₀ u₀ v₀) (hsmall : Builtin.Range.small a₀ b₀ 1 = true) (hn : Builtin.Range.rangeSize a₀ b₀ 1 = (n : Int))
    (F : Fr h₀ env.locals s.heap m₀) (N : News h₀ env.locals s.heap (Led c₀ ++ R)) (ha : ∀ p ∈ Led c₀, ∀ q ∈ R, p.1 ≠ q.1) (hm : ∀ y, y ≠ x → m₀ y = M c₀ y) (hp : P 0 c₀)
    (turn : ∀ (i : Nat) c t h tk T, i < n → P i c → (∀ p ∈ R, p ∈ T) → (∀ p ∈ Led c, ∀ q ∈ T, p.1 ≠ q.1) → Fr h₀ env.locals h (fun y => if y = x then some (.int (a₀ + i) t) else M c y) → News h₀ env.locals h (Led c ++ T) →
      wpAny (model prog w) A (execs body env) (RPost M Led h₀ env.locals x T (P (i + 1)) { s with heap := h, toks := tk } Q) E { s with heap := h, toks := tk })
    (done : ∀ c (u : Str → Option Value) h tk, P n c → (∀ p ∈ Led c, ∀ q ∈ R, p.1 ≠ q.1) → Fr h₀ env.locals h (fun y => if y = x then u y else M c y) → News h₀ env.locals h (Led c ++ R) → Q .next { s with heap := h, toks := tk }) :
    wpAny (model prog w) A (pyIter (.ref r)) (fun it s₂ => LoopAtV prog w A h₀ env x body Q E it s₂) E s := by
  refine loop_range (fun i m₁ nx => ∃ c, P i c ∧ nx = Led c ++ R ∧ (∀ p ∈ Led c, ∀ q ∈ R, p.1 ≠ q.1) ∧ ∀ y, y ≠ x → m₁ y = M c y) hh hr hsmall hn F N ⟨c₀, hp, rfl, ha, hm⟩ ?_ ?_
  · rintro i t m₁ nx h tk own hi hoff ⟨c, hP, rfl, hap, hm1⟩ F₁ N₁
    rw [map_in hm1] at F₁
    rw [List.append_assoc] at N₁
    refine wpAny_mono (turn i c t h tk (R ++ own) hi hP (fun p hp => List.mem_append_left _ hp) ?_ F₁ N₁) (fun f s₂ p => ?_) fun _ _ e => e
    · intro p hp q hq
      rcases List.mem_append.mp hq with h1 | h1
      · exact hap p hp q h1
      · exact hoff p (List.mem_append_left _ hp) q h1
    · have fin : RNext M Led h₀ env.locals x (R ++ own) (P (i + 1)) { s with heap := h, toks := tk } s₂ → TurnEnd h₀ env.locals (fun m₁ nx => ∃ c, P (i + 1) c ∧ nx = Led c ++ R ∧ (∀ p ∈ Led c, ∀ q ∈ R, p.1 ≠ q.1) ∧ ∀ y, y ≠ x → m₁ y = M c y) own { s with heap := h, toks := tk } s₂ := by
        rintro ⟨c', m', h', tk', rfl, F', hm', N', ha', hP'⟩
        refine TurnEnd.intro (nx := Led c' ++ R) F' (by rw [List.append_assoc]; exact N') ?_ ⟨c', hP', rfl, fun p hp q hq => ha' p hp q (List.mem_append_left _ hq), hm'⟩
        intro p hp q hq
        rcases List.mem_append.mp hp with h1 | h1
        · exact ha' p h1 q (List.mem_append_right _ hq)
        · exact hoff p (List.mem_append_right _ h1) q hq
      cases f with
      | ret v => exact p
      | brk => exact p
      | next => exact fin p
      | cont => exact fin p
  · rintro m₁ nx h tk ⟨c, hP, rfl, hap, hm1⟩ F₁ N₁
    rw [map_out hm1] at F₁
    exact done c m₁ h tk hP hap F₁ N₁

theorem text_rule {σ : Type} {xt : Str} {tx : Tok} {m₀ : Str → Option Value} {R : List (Addr × Obj)} (M : σ → Str → Option Value) (Led : σ → List (Addr × Obj)) (P : Nat → σ → Prop) (c₀ : σ)
    (hh : A.handled = none)
    (F : Fr h₀ env.locals s.heap m₀) (N : News h₀ env.locals s.heap (Led c₀ ++ R)) (ha : ∀ p ∈ Led c₀, ∀ q ∈ R, p.1 ≠ q.1) (hm : ∀ y, y ≠ x → m₀ y = M c₀ y) (hp : P 0 c₀)
    (turn : ∀ (i : Nat) n c t h tk T, xt.cps[i]? = some n → P i c → (∀ p ∈ R, p ∈ T) → (∀ p ∈ Led c, ∀ q ∈ T, p.1 ≠ q.1) → Fr h₀ env.locals h (fun y => if y = x then some (.str ⟨#[n]⟩ t) else M c y) → News h₀ env.locals h (Led c ++ T) →
      wpAny (model prog w) A (execs body env) (RPost M Led h₀ env.locals x T (P (i + 1)) { s with heap := h, toks := tk } Q) E { s with heap := h, toks := tk })
    (done : ∀ c (u : Str → Option Value) h tk, P xt.cps.size c → (∀ p ∈ Led c, ∀ q ∈ R, p.1 ≠ q.1) → Fr h₀ env.locals h (fun y => if y = x then u y else M c y) → News h₀ env.locals h (Led c ++ R) → Q .next { s with heap := h, toks := tk }) :
    wpAny (model prog w) A (pyIter (.str xt tx)) (fun it s₂ => LoopAtV prog w A h₀ env x body Q E it s₂) E s := by
  refine loop_text (fun i m₁ nx => ∃ c, P i c ∧ nx = Led c ++ R ∧ (∀ p ∈ Led c, ∀ q ∈ R, p.1 ≠ q.1) ∧ ∀ y, y ≠ x → m₁ y = M c y) hh F N ⟨c₀, hp, rfl, ha, hm⟩ ?_ ?_
  · rintro i n t m₁ nx h tk own hi hoff ⟨c, hP, rfl, hap, hm1⟩ F₁ N₁
    rw [map_in hm1] at F₁
    rw [List.append_assoc] at N₁
    refine wpAny_mono (turn i n c t h tk (R ++ own) hi hP (fun p hp => List.mem_append_left _ hp) ?_ F₁ N₁) (fun f s₂ p => ?_) fun _ _ e => e
    · intro p hp q hq
      rcases List.mem_append.mp hq with h1 | h1
      · exact hap p hp q h1
      · exact hoff p (List.mem_append_left _ hp) q h1
    · have fin : RNext M Led h₀ env.locals x (R ++ own) (P (i + 1)) { s with heap := h, toks := tk } s₂ → TurnEnd h₀ env.locals (fun m₁ nx => ∃ c, P (i + 1) c ∧ nx = Led c ++ R ∧ (∀ p ∈ Led c, ∀ q ∈ R, p.1 ≠ q.1) ∧ ∀ y, y ≠ x → m₁ y = M c y) own { s with heap := h, toks := tk } s₂ := by
        rintro ⟨c', m', h', tk', rfl, F', hm', N', ha', hP'⟩
        refine TurnEnd.intro (nx := Led c' ++ R) F' (by rw [List.append_assoc]; exact N') ?_ ⟨c', hP', rfl, fun p hp q hq => ha' p hp q (List.mem_append_left _ hq), hm'⟩
        intro p hp q hq
        rcases List.mem_append.mp hp with h1 | h1
        · exact ha' p h1 q (List.mem_append_right _ hq)
        · exact hoff p (List.mem_append_right _ h1) q hq
      cases f with
      | ret v => exact p
      | brk => exact p
      | next => exact fin p
      | cont => exact fin p
  · rintro m₁ nx h tk ⟨c, hP, rfl, hap, hm1⟩ F₁ N₁
    rw [map_out hm1] at F₁
    exact done c m₁ h tk hP hap F₁ N₁

/-- a turn's end where one int name z is kept, all else stands -/
theorem int_next {h₀ h' : Heap} {L : Addr} {x z : Str} {T : List (Addr × Obj)} {P : Int × Tok → Prop} {s₁ : Shared} {m₀ m' : Str → Option Value} {tk : Nat} {Q : Flow → Shared → Prop} {a : Int} {t : Tok}
    (F : Fr h₀ L h' m') (N : News h₀ L h' T) (hz : m' z = some (.int a t)) (hm : ∀ y, y ≠ x → y ≠ z → m' y = m₀ y) (hp : P (a, t)) :
    RPost (σ := Int × Tok) (fun c y => if y = z then some (.int c.1 c.2) else m₀ y) (fun _ => []) h₀ L x T P s₁ Q .next { s₁ with heap := h', toks := tk } := by
  refine rnext (a, t) F N (fun _ h => nomatch h) (fun y hy => ?_) hp
  by_cases h1 : y = z
  · rw [if_pos h1, h1, hz]
  · rw [if_neg h1, hm y hy h1]
theorem range_int {r : Addr} {a₀ b₀ : Int} {t₀ u₀ v₀ : Tok} {n : Nat} {m₀ : Str → Option Value} {R : List (Addr × Obj)} {i₀ : Int} {ti : Tok} (z : Str) (P : Nat → Int → Prop)
    (hh : A.handled = none) (hr : IsRange s.heap r a₀ b₀ 1 t₀ u₀ v₀) (hsmall : Builtin.Range.small a₀ b₀ 1 = true) (hn : Builtin.Range.rangeSize a₀ b₀ 1 = (n : Int))
    (F : Fr h₀ env.locals s.heap m₀) (N : News h₀ env.locals s.heap R) (hz : m₀ z = some (.int i₀ ti)) (hp : P 0 i₀)
    (turn : ∀ (i : Nat) a ta t h tk T, i < n → P i a → (∀ p ∈ R, p ∈ T) → Fr h₀ env.locals h (fun y => if y = x then some (.int (a₀ + i) t) else if y = z then some (.int a ta) else m₀ y) → News h₀ env.locals h T →
      wpAny (model prog w) A (execs body env) (RPost (σ := Int × Tok) (fun c y => if y = z then some (.int c.1 c.2) else m₀ y) (fun _ => []) h₀ env.locals x T (fun c => P (i + 1) c.1) { s with heap := h, toks := tk } Q) E { s with heap := h, toks := tk })
    (done : ∀ a ta (u : Str → Option Value) h tk, P n a → Fr h₀ env.locals h (fun y => if y = x then u y else if y = z then some (.int a ta) else m₀ y) → News h₀ env.locals h R → Q .next { s with heap := h, toks := tk }) :
    wpAny (model prog w) A (pyIter (.ref r)) (fun it s₂ => LoopAtV prog w A h₀ env x body Q E it s₂) E s := by
  refine range_rule (σ := Int × Tok) (fun c y => if y = z then some (.int c.1 c.2) else m₀ y) (fun _ => []) (fun i c => P i c.1) (i₀, ti) hh hr hsmall hn F N (fun _ h => nomatch h) ?_ hp ?_ ?_
  · intro y _
    by_cases h1 : y = z
    · rw [if_pos h1, h1, hz]
    · rw [if_neg h1]
  · intro i c t h tk T hi hP hs _ F₁ N₁
    exact turn i c.1 c.2 t h tk T hi hP hs F₁ N₁
  · intro c u h tk hP _ F₁ N₁
    exact done c.1 c.2 u h tk hP F₁ N₁
theorem text_int {xt : Str} {tx : Tok} {m₀ : Str → Option Value} {R : List (Addr × Obj)} {i₀ : Int} {ti : Tok} (z : Str) (P : Nat → Int → Prop)
    (hh : A.handled = none)
    (F : Fr h₀ env.locals s.heap m₀) (N : News h₀ env.locals s.heap R) (hz : m₀ z = some (.int i₀ ti)) (hp : P 0 i₀)
    (turn : ∀ (i : Nat) n a ta t h tk T, xt.cps[i]? = some n → P i a → (∀ p ∈ R, p ∈ T) → Fr h₀ env.locals h (fun y => if y = x then some (.str ⟨#[n]⟩ t) else if y = z then some (.int a ta) else m₀ y) → News h₀ env.locals h T →
      wpAny (model prog w) A (execs body env) (RPost (σ := Int × Tok) (fun c y => if y = z then some (.int c.1 c.2) else m₀ y) (fun _ => []) h₀ env.locals x T (fun c => P (i + 1) c.1) { s with heap := h, toks := tk } Q) E { s with heap := h, toks := tk })
    (done : ∀ a ta (u : Str → Option Value) h tk, P xt.cps.size a → Fr h₀ env.locals h (fun y => if y = x then u y else if y = z then some (.int a ta) else m₀ y) → News h₀ env.locals h R → Q .next { s with heap := h, toks := tk }) :
    wpAny (model prog w) A (pyIter (.str xt tx)) (fun it s₂ => LoopAtV prog w A h₀ env x body Q E it s₂) E s := by
  refine text_rule (σ := Int × Tok) (fun c y => if y = z then some (.int c.1 c.2) else m₀ y) (fun _ => []) (fun i c => P i c.1) (i₀, ti) hh F N (fun _ h => nomatch h) ?_ hp ?_ ?_
  · intro y _
    by_cases h1 : y = z
    · rw [if_pos h1, h1, hz]
    · rw [if_neg h1]
  · intro i n c t h tk T hi hP hs _ F₁ N₁
    exact turn i n c.1 c.2 t h tk T hi hP hs F₁ N₁
  · intro c u h tk hP _ F₁ N₁
    exact done c.1 c.2 u h tk hP F₁ N₁

theorem range_none {r : Addr} {a₀ b₀ : Int} {t₀ u₀ v₀ : Tok} {n : Nat} {m₀ : Str → Option Value} {R : List (Addr × Obj)} (P : Nat → Prop)
    (hh : A.handled = none) (hr : IsRange s.heap r a₀ b₀ 1 t₀ u₀ v₀) (hsmall : Builtin.Range.small a₀ b₀ 1 = true) (hn : Builtin.Range.rangeSize a₀ b₀ 1 = (n : Int))
    (F : Fr h₀ env.locals s.heap m₀) (N : News h₀ env.locals s.heap R) (hp : P 0)
    (turn : ∀ (i : Nat) t h tk T, i < n → P i → (∀ p ∈ R, p ∈ T) → Fr h₀ env.locals h (fun y => if y = x then some (.int (a₀ + i) t) else m₀ y) → News h₀ env.locals h T →
      wpAny (model prog w) A (execs body env) (RPost (σ := Unit) (fun _ => m₀) (fun _ => []) h₀ env.locals x T (fun _ => P (i + 1)) { s with heap := h, toks := tk } Q) E { s with heap := h, toks := tk })
    (done : ∀ (u : Str → Option Value) h tk, P n → Fr h₀ env.locals h (fun y => if y = x then u y else m₀ y) → News h₀ env.locals h R → Q .next { s with heap := h, toks := tk }) :
    wpAny (model prog w) A (pyIter (.ref r)) (fun it s₂ => LoopAtV prog w A h₀ env x body Q E it s₂) E s :=
  range_rule (σ := Unit) (fun _ => m₀) (fun _ => []) (fun i _ => P i) () hh hr hsmall hn F N (fun _ h => nomatch h) (fun _ _ => rfl) hp
    (fun i _ t h tk T hi hP hs _ F₁ N₁ => turn i t h tk T hi hP hs F₁ N₁) (fun _ u h tk hP _ F₁ N₁ => done u h tk hP F₁ N₁)
theorem none_next {h₀ h' : Heap} {L : Addr} {x : Str} {T : List (Addr × Obj)} {P : Unit → Prop} {s₁ : Shared} {m₀ m' : Str → Option Value} {tk : Nat} {Q : Flow → Shared → Prop}
    (F : Fr h₀ L h' m') (N : News h₀ L h' T) (hm : ∀ y, y ≠ x → m' y = m₀ y) (hp : P ()) :
    RPost (σ := Unit) (fun _ => m₀) (fun _ => []) h₀ L x T P s₁ Q .next { s₁ with heap := h', toks := tk } := rnext () F N (fun _ h => nomatch h) hm hp

/-- one text name z kept, one name f forgotten -/
theorem range_str {r : Addr} {a₀ b₀ : Int} {t₀ u₀ v₀ : Tok} {n : Nat} {m₀ : Str → Option Value} {R : List (Addr × Obj)} {x₀ : Str} {tx₀ : Tok} (z f : Str) (P : Nat → Str → Prop)
    (hh : A.handled = none) (hr : IsRange s.heap r a₀ b₀ 1 t₀ u₀ v₀) (hsmall : Builtin.Range.small a₀ b₀ 1 = true) (hn : Builtin.Range.rangeSize a₀ b₀ 1 = (n : Int))
    (F : Fr h₀ env.locals s.heap m₀) (N : News h₀ env.locals s.heap R) (hz : m₀ z = some (.str x₀ tx₀)) (hp : P 0 x₀)
    (turn : ∀ (i : Nat) a ta v t h tk T, i < n → P i a → (∀ p ∈ R, p ∈ T) → Fr h₀ env.locals h (fun y => if y = x then some (.int (a₀ + i) t) else if y = z then some (.str a ta) else if y = f then v else m₀ y) → News h₀ env.locals h T →
      wpAny (model prog w) A (execs body env) (RPost (σ := Str × Tok × Option Value) (fun c y => if y = z then some (.str c.1 c.2.1) else if y = f then c.2.2 else m₀ y) (fun _ => []) h₀ env.locals x T (fun c => P (i + 1) c.1) { s with heap := h, toks := tk } Q) E { s with heap := h, toks := tk })
    (done : ∀ a ta v (u : Str → Option Value) h tk, P n a → Fr h₀ env.locals h (fun y => if y = x then u y else if y = z then some (.str a ta) else if y = f then v else m₀ y) → News h₀ env.locals h R → Q .next { s with heap := h, toks := tk }) :
    wpAny (model prog w) A (pyIter (.ref r)) (fun it s₂ => LoopAtV prog w A h₀ env x body Q E it s₂) E s := by
  refine range_rule (σ := Str × Tok × Option Value) (fun c y => if y = z then some (.str c.1 c.2.1) else if y = f then c.2.2 else m₀ y) (fun _ => []) (fun i c => P i c.1) (x₀, tx₀, m₀ f) hh hr hsmall hn F N (fun _ h => nomatch h) ?_ hp ?_ ?_
  · intro y _
    by_cases h1 : y = z
    · rw [if_pos h1, h1, hz]
    · rw [if_neg h1]
      by_cases h2 : y = f
      · rw [if_pos h2, h2]
      · rw [if_neg h2]
  · intro i c t h tk T hi hP hs _ F₁ N₁
    exact turn i c.1 c.2.1 c.2.2 t h tk T hi hP hs F₁ N₁
  · intro c u h tk hP _ F₁ N₁
    exact done c.1 c.2.1 c.2.2 u h tk hP F₁ N₁
theorem str_next {h₀ h' : Heap} {L : Addr} {x z f : Str} {T : List (Addr × Obj)} {P : Str × Tok × Option Value → Prop} {s₁ : Shared} {m₀ m' : Str → Option Value} {tk : Nat} {Q : Flow → Shared → Prop} {a : Str} {t : Tok}
    (F : Fr h₀ L h' m') (N : News h₀ L h' T) (hz : m' z = some (.str a t)) (hm : ∀ y, y ≠ x → y ≠ z → y ≠ f → m' y = m₀ y) (hp : P (a, t, m' f)) :
    RPost (σ := Str × Tok × Option Value) (fun c y => if y = z then some (.str c.1 c.2.1) else if y = f then c.2.2 else m₀ y) (fun _ => []) h₀ L x T P s₁ Q .next { s₁ with heap := h', toks := tk } := by
  refine rnext (a, t, m' f) F N (fun _ h => nomatch h) (fun y hy => ?_) hp
  by_cases h1 : y = z
  · rw [if_pos h1, h1, hz]
  · rw [if_neg h1]
    by_cases h2 : y = f
    · rw [if_pos h2, h2]
    · rw [if_neg h2, hm y hy h1 h2]

/-- a list of ints at l grows, two names f g are forgotten -/
theorem range_ints {r l : Addr} {a₀ b₀ : Int} {t₀ u₀ v₀ : Tok} {n : Nat} {m₀ : Str → Option Value} {R : List (Addr × Obj)} (f g : Str) (P : Nat → List Int)
    (hh : A.handled = none) (hr : IsRange s.heap r a₀ b₀ 1 t₀ u₀ v₀) (hsmall : Builtin.Range.small a₀ b₀ 1 = true) (hn : Builtin.Range.rangeSize a₀ b₀ 1 = (n : Int))
    (F : Fr h₀ env.locals s.heap m₀) (N : News h₀ env.locals s.heap ((l, listOf #[] 0) :: R)) (hl : ∀ q ∈ R, q.1 ≠ l) (hp : P 0 = [])
    (turn : ∀ (i : Nat) vs k a b t h tk T, i < n → IntsAre vs (P i) → (∀ p ∈ R, p ∈ T) → (∀ q ∈ T, q.1 ≠ l) → Fr h₀ env.locals h (fun y => if y = x then some (.int (a₀ + i) t) else if y = f then a else if y = g then b else m₀ y) → News h₀ env.locals h ((l, listOf (List.toArray vs) k) :: T) →
      wpAny (model prog w) A (execs body env) (RPost (σ := List Value × Nat × Option Value × Option Value) (fun c y => if y = f then c.2.2.1 else if y = g then c.2.2.2 else m₀ y) (fun c => [(l, listOf (List.toArray c.1) c.2.1)]) h₀ env.locals x T (fun c => IntsAre c.1 (P (i + 1))) { s with heap := h, toks := tk } Q) E { s with heap := h, toks := tk })
    (done : ∀ vs k a b (u : Str → Option Value) h tk, IntsAre vs (P n) → Fr h₀ env.locals h (fun y => if y = x then u y else if y = f then a else if y = g then b else m₀ y) → News h₀ env.locals h ((l, listOf (List.toArray vs) k) :: R) → Q .next { s with heap := h, toks := tk }) :
    wpAny (model prog w) A (pyIter (.ref r)) (fun it s₂ => LoopAtV prog w A h₀ env x body Q E it s₂) E s := by
  refine range_rule (σ := List Value × Nat × Option Value × Option Value) (fun c y => if y = f then c.2.2.1 else if y = g then c.2.2.2 else m₀ y) (fun c => [(l, listOf (List.toArray c.1) c.2.1)]) (fun i c => IntsAre c.1 (P i)) ([], 0, m₀ f, m₀ g) hh hr hsmall hn F N ?_ ?_ (by rw [hp]; exact .nil) ?_ ?_
  · intro p hp q hq
    rw [List.mem_singleton.mp hp]
    exact (hl q hq).symm
  · intro y _
    by_cases h1 : y = f
    · rw [if_pos h1, h1]
    · rw [if_neg h1]
      by_cases h2 : y = g
      · rw [if_pos h2, h2]
      · rw [if_neg h2]
  · intro i c t h tk T hi hP hs hap F₁ N₁
    exact turn i c.1 c.2.1 c.2.2.1 c.2.2.2 t h tk T hi hP hs (fun q hq => (hap _ (.head _) q hq).symm) F₁ N₁
  · intro c u h tk hP _ F₁ N₁
    exact done c.1 c.2.1 c.2.2.1 c.2.2.2 u h tk hP F₁ N₁
theorem ints_next {h₀ h' : Heap} {L l : Addr} {x f g : Str} {T : List (Addr × Obj)} {ns : List Int} {s₁ : Shared} {m₀ m' : Str → Option Value} {tk k : Nat} {Q : Flow → Shared → Prop} {vs : List Value}
    (F : Fr h₀ L h' m') (N : News h₀ L h' ((l, listOf (List.toArray vs) k) :: T)) (hT : ∀ q ∈ T, q.1 ≠ l) (hm : ∀ y, y ≠ x → y ≠ f → y ≠ g → m' y = m₀ y) (hp : IntsAre vs ns) :
    RPost (σ := List Value × Nat × Option Value × Option Value) (fun c y => if y = f then c.2.2.1 else if y = g then c.2.2.2 else m₀ y) (fun c => [(l, listOf (List.toArray c.1) c.2.1)]) h₀ L x T (fun c => IntsAre c.1 ns) s₁ Q .next { s₁ with heap := h', toks := tk } := by
  refine rnext (vs, k, m' f, m' g) F N ?_ (fun y hy => ?_) hp
  · intro p hp q hq
    rw [List.mem_singleton.mp hp]
    exact (hT q hq).symm
  by_cases h1 : y = f
  · rw [if_pos h1, h1]
  · rw [if_neg h1]
    by_cases h2 : y = g
    · rw [if_pos h2, h2]
    · rw [if_neg h2, hm y hy h1 h2]
end
end Mine
namespace Mine
section
local macro_rules | `(tactic| walk_at "no key 0") => `(tactic| fail "none")
local macro_rules | `(tactic| walk_at "no key 1") => `(tactic| fail "none")
local macro_rules | `(tactic| walk_at "no key 2") => `(tactic| fail "none")
local macro_rules | `(tactic| walk_at "no key 3") => `(tactic| fail "none")
local macro_rules | `(tactic| k_room) => `(tactic| ktr_room)
local macro_rules | `(tactic| k_all) => `(tactic| first | assumption | exact ne_of_allLt (by assumption))
local macro_rules | `(tactic| walk_at "call builtin:len") => `(tactic| (k_here; (with_reducible show wpAny _ _ (call (Value.builtin "len") [Value.ref _]) _ _ _); k_dflt (refine' tup_len ?k1 ?k2 ?k3 ?k4 ?_; (case k1 => k_asm); (case k2 => k_mem); (case k3 => assumption); (case k4 => assumption); k_whole)))
def lr (S : Sc) : Int := max ((S.c.length : Int) - 1) S.b
theorem longest_does (w : World) (mean : ExcName → Option Value) (mg mb : Str → Option Value) (news : List (Addr × Obj)) (x : Addr) (S : Sc) (hS : WsAt w.params news x S) (hc : S.c.length ≤ 1000) :
    Does 2 w mean mg mb 38 news [.ref x] (Gives news (fun t => .int (lr S) t)) := by
  dsimp only [Does, Gives]
  k_fill
  intro dp un gd cn cs a ccd cl outer A₀ base h₀ L m s Q E B F X N T hk hdp hun hret
  obtain ⟨d, na, ca, vs, raw, tr, k1, k2, k3, k4, k5, tn, tnt, tb, hm1, hm2, hm3, hm4, hI⟩ := hS
  have hvl := hI.length
  w_top off
  k_with_none
  w_strict (
    refine wpAny_call ?_
    (k_dflt cell_enter)
    k_steps
    rename_i kF kN _ _
    refine cb_retI hret ?_ kF kN
    unfold lr
    split <;> omega)

local macro_rules | `(tactic| walk_at "subscriptTail") => `(tactic| (k_here; (with_reducible show wpAny _ _ (subscriptTail _ _ (Value.ref _) (Value.int _ _)) _ _ _); k_dflt (refine' tup_item ?k1 ?k2 ?k3 ?k4 ?k5 ?k6 ?_ ?k7; (case k1 => k_asm); (case k2 => k_mem); (case k3 => assumption); (case k4 => assumption); (case k5 => omega); (case k6 => omega); (case k7 => with_unfolding_all rfl); k_whole); intro t'))
/-- the sum of indent_level's loop after k turns -/
def ilTo (c : List Int) (ts : Int) : Nat → Int
  | 0 => 0
  | k + 1 => ilTo c ts k + (ts + (k : Nat)).fdiv ts * c.getD (ts + (k : Nat)).toNat 0
def indent (S : Sc) (ts : Int) : Int := S.b + ts * (ilTo S.c ts ((S.c.length : Int) - ts).toNat + S.nt)
theorem fdiv_small {ts : Int} {i : Nat} (h1 : 1 ≤ ts) (h2 : ts + i ≤ 1000) : 0 ≤ (ts + (i : Nat)).fdiv ts ∧ (ts + (i : Nat)).fdiv ts ≤ 1000 := by
  have e : (ts + (i : Nat)).fdiv ts = (ts + (i : Nat)) / ts := Int.fdiv_eq_ediv_of_nonneg _ (by omega)
  rw [e]
  exact ⟨Int.ediv_nonneg (by omega) (by omega), Int.le_trans (Int.ediv_le_self _ (by omega)) h2⟩
theorem indent_does (w : World) (mean : ExcName → Option Value) (mg mb : Str → Option Value) (news : List (Addr × Obj)) (x : Addr) (S : Sc) (hS : WsAt w.params news x S) (hc : S.c.length ≤ 1000) (ts : Int) (tt : Tok) (h1 : 1 ≤ ts) (h2 : ts ≤ 1000) :
    Does 2 w mean mg mb 45 news [.ref x, .int ts tt] (Gives news (fun t => .int (indent S ts) t)) := by
  dsimp only [Does, Gives]
  k_fill
  intro dp un gd cn cs a ccd cl outer A₀ base h₀ L m s Q E B F X N T hk hdp hun hret
  obtain ⟨d, na, ca, vs, raw, tr, k1, k2, k3, k4, k5, tn, tnt, tb, hm1, hm2, hm3, hm4, hI⟩ := hS
  have hvl := hI.length
  w_top off
  k_with_none
  w_strict (
    refine wpAny_call ?_
    (k_dflt cell_enter)
    k_with "pyIter ref" => ((rename IsRange _ _ _ _ _ _ _ _ => rgX); (rename Fr _ _ _ _ => lF'); (rename News _ _ _ _ => lN'); (with_unfolding_all refine' range_int (Str.ofString "il") (fun i a => a = ilTo S.c ts i) ?hh rgX ?hsm ?hsz lF' lN' ?hz ?hp ?turn ?done); (case hh => rfl); (case hsm => exact small_one (by omega) (by omega) (by omega) (by omega)); (case hsz => exact rangeSize_nat _ _); (case hz => rfl); (case hp => rfl); clear lF' lN'; (case' turn => (intro i a ta t h tk T hi hP hs F3 N3; have hm4' := hs _ hm4; have hq := fdiv_small (i := i) h1 (by omega); obtain ⟨hq1, hq2⟩ := hq)); (case' done => intro a ta u h tk hP F3 N3))
    k_steps
    · rename_i kF kN _ _
      refine cb_retI hret ?_ kF kN
      subst hP; rfl
    · rename_i F4 N4
      refine int_next F4 N4 rfl ?_ ?_
      · intro y e0 e1
        simp only [if_neg e0, if_neg e1]
      · subst hP; rfl)
end
end Mine
namespace Mine
theorem does_use {lv : Nat} {w : World} {mean : ExcName → Option Value} {mg mb : Str → Option Value} {f : Addr} {news : List (Addr × Obj)} {vs : List Value} {Ret : Heap → Addr → (Str → Option Value) → Shared → (Value → Shared → Prop) → Prop}
    (D : Does lv w mean mg mb f news vs Ret)
    {dp un : Nat} {gd : Option (List Code)} {cn : Str} {cs : Scope} {a : Addr} {ccd : Value} {cl : List (Str × Addr)} {outer : List Env} {A₀ : Around} {base h₀ : Heap} {L : Addr} {m : Str → Option Value} {s : Shared} {Q E : Value → Shared → Prop}
    (B : Below A₀ base outer h₀) (F : Fr h₀ L s.heap m) (X : (hd.heap_39 w.params).In h₀) (N : News h₀ L s.heap news)
    (T : Top hd.view_39 (looseW hd.view_39 [Str.ofString "Whitespace"]) mean mg mb h₀) (hk : cs.kind = .function)
    (hdp : dp + lv < recursionLimit) (hun : un + 32 * lv < cLine) (ret : Ret h₀ L m s Q) :
    wpAny (model PySem.Challenge.rw_mj0338_01.row.prog w) (ktrTop dp un gd cn cs L a ccd cl outer) (call (.ref f) vs) Q E s :=
  D dp un gd cn cs a ccd cl outer A₀ base h₀ L m s Q E B F X N T hk hdp hun ret
theorem WsAt.mono {P : Params} {led led' : List (Addr × Obj)} {x : Addr} {S : Sc} (h : WsAt P led x S) (hs : ∀ p ∈ led, p ∈ led') : WsAt P led' x S := by
  obtain ⟨d, na, ca, vs, raw, tr, k1, k2, k3, k4, k5, tn, tnt, tb, hm1, hm2, hm3, hm4, hI⟩ := h
  exact ⟨d, na, ca, vs, raw, tr, k1, k2, k3, k4, k5, tn, tnt, tb, hs _ hm1, hs _ hm2, hs _ hm3, hs _ hm4, hI⟩
structure Small (S : Sc) : Prop where
  c : S.c.length ≤ 900
  b : S.b ≤ 900
theorem Small.lr {S : Sc} (h : Small S) : -1 ≤ lr S ∧ lr S ≤ 900 := by
  have := h.c
  have := h.b
  unfold Mine.lr
  omega
theorem Small.c' {S : Sc} (h : Small S) : S.c.length ≤ 1000 := Nat.le_trans h.c (by decide)
/-- a stop of the walk by choice -/
def Stuck (P : Prop) : Prop := P
theorem Stuck.out {P : Prop} (h : Stuck P) : P := h
def simple (S : Sc) : Bool := decide ((S.c.length : Int) ≤ 1)
def lessB (S S' : Sc) : Bool :=
  if (S'.n : Int) ≤ S.n then false else if simple S && simple S' then decide ((S.nt : Int) ≤ S'.nt)
  else decide (∀ j, j < (max (lr S) (lr S') + 1 + 1 - 2).toNat → indent S (2 + (j : Nat)) < indent S' (2 + (j : Nat)))
section
local macro_rules | `(tactic| walk_at "pyIter ref") => `(tactic| refine Stuck.out ?_)
local macro_rules | `(tactic| k_room) => `(tactic| ktr_room)
local macro_rules | `(tactic| k_all) => `(tactic| first | assumption | exact ne_of_allLt (by assumption))
local macro_rules | `(tactic| walk_at "call ref") => `(tactic| (k_here; (with_reducible show wpAny _ _ (call (Value.ref 38) _) _ _ _); k_dflt (refine' does_use (longest_does _ _ _ _ _ _ _ ?hS (Small.c' ?hc)) ?k1 ?k2 ?k3 ?k4 ?k5 ?kK ?kd ?ku ?_; (case hS => assumption); (case hc => assumption); (case k1 => k_asm); (case k2 => k_asm); (case k3 => k_asm); (case k4 => k_asm); (case k5 => k_asm); (case kK => exact rfl); (case kd => ktr_room); (case ku => ktr_units); k_whole); intro t9 h9 tk9 F9 N9; (try dsimp only); (try k_fold)))
local macro_rules | `(tactic| walk_at "call ref") => `(tactic| (k_here; (with_reducible show wpAny _ _ (call (Value.ref 45) _) _ _ _); k_dflt (refine' does_use (indent_does _ _ _ _ _ _ _ ?hS (Small.c' ?hc) _ _ ?h1 ?h2) ?k1 ?k2 ?k3 ?k4 ?k5 ?kK ?kd ?ku ?_; (case hS => assumption); (case hc => assumption); (case h1 => omega); (case h2 => omega); (case k1 => k_asm); (case k2 => k_asm); (case k3 => k_asm); (case k4 => k_asm); (case k5 => k_asm); (case kK => exact rfl); (case kd => ktr_room); (case ku => ktr_units); k_whole); intro t9 h9 tk9 F9 N9; (try dsimp only); (try k_fold)))
theorem less_does (w : World) (mean : ExcName → Option Value) (mg mb : Str → Option Value) (news : List (Addr × Obj)) (x x' : Addr) (S S' : Sc) (hS : WsAt w.params news x S) (hS' : WsAt w.params news x' S') (hc : Small S) (hc' : Small S') :
    Does 4 w mean mg mb 66 news [.ref x, .ref x'] (Gives news (fun _ => .bool (lessB S S'))) := by
  dsimp only [Does, Gives]
  k_fill
  intro dp un gd cn cs a ccd cl outer A₀ base h₀ L m s Q E B F X N T hk hdp hun hret
  obtain ⟨d, na, ca, vs, raw, tr, k1, k2, k3, k4, k5, tn, tnt, tb, hm1, hm2, hm3, hm4, hI⟩ := id hS
  obtain ⟨d', na', ca', vs', raw', tr', k1', k2', k3', k4', k5', tn', tnt', tb', hm1', hm2', hm3', hm4', hI'⟩ := id hS'
  have hlr := hc.lr
  have hlr' := hc'.lr
  have hmx : (if lr S' > lr S then lr S' else lr S) = max (lr S) (lr S') := by split <;> omega
  w_top off
  k_with_none
  w_strict (
    refine wpAny_call ?_
    (k_dflt cell_enter)
    k_steps
    · rename_i kF kN _ _
      (rename ((S'.n : Int) ≤ S.n) => hle)
      refine cb_retB hret ?_ kF kN
      unfold lessB
      rw [if_pos hle]
    · rename_i kF kN _ _
      (rename ¬ ((S'.n : Int) ≤ S.n) => hle)
      (rename ((S.c.length : Int) ≤ 1) => hs1)
      (rename ((S'.c.length : Int) ≤ 1) => hs2)
      refine cb_retB hret ?_ kF kN
      unfold lessB simple
      rw [if_neg hle, decide_eq_true hs1, decide_eq_true hs2]; rfl
    all_goals (
      unfold Stuck
      (rename ¬ ((S'.n : Int) ≤ S.n) => hnl)
      (rename IsRange _ _ _ _ _ _ _ _ => rgX); (rename Fr _ _ _ _ => lF'); (rename News _ _ _ _ => lN')
      rw [hmx] at rgX
      (with_unfolding_all refine' range_none (fun i => ∀ j, j < i → indent S (2 + (j : Nat)) < indent S' (2 + (j : Nat))) ?hh rgX ?hsm ?hsz lF' lN' ?hp ?turn ?done); (case hh => rfl); (case hsm => exact small_one (by omega) (by omega) (by omega) (by omega)); (case hsz => exact rangeSize_nat _ _); (case hp => exact fun _ h => absurd h (Nat.not_lt_zero _)); clear lF' lN'
      (case turn =>
        intro i t h tk T hi hP hs F3 N3
        have hT := hS.mono hs; have hT' := hS'.mono hs; have hn1 := hs _ hm1; have hn2 := hs _ hm2; have hn1' := hs _ hm1'; have hn2' := hs _ hm2'
        k_steps
        · (rename (indent S' (2 + (i : Nat)) ≤ indent S (2 + (i : Nat))) => hge)
          dsimp only [RPost]
          k_steps
          rename_i kF kN _ _
          refine cb_retB hret ?_ kF (kst_newsOf kN hs)
          unfold lessB simple
          rw [if_neg hnl, if_neg (by simp only [Bool.and_eq_true, decide_eq_true_eq]; omega)]
          refine (decide_eq_false fun hall => ?_).symm
          have := hall i hi
          omega
        · rename_i F4 N4 hlt
          refine none_next F4 N4 (fun y hy => if_neg hy) ?_
          intro j hj
          by_cases e : j = i
          · subst e; omega
          · exact hP j (by omega))
      (case done =>
        intro u h tk hP F3 N3
        k_steps
        rename_i kF kN _ _
        refine cb_retB hret ?_ kF kN
        unfold lessB simple
        rw [if_neg hnl, if_neg (by simp only [Bool.and_eq_true, decide_eq_true_eq]; omega)]
        exact (decide_eq_true hP).symm)))
end
end Mine
namespace Mine
open PySem.Spec PyProof.V PySem.Calls
abbrev Row3 := Int × Int × Int
abbrev tup3 (a b c : Int) (t u v : Tok) : Obj := { cls := .type "tuple", data := .seq #[.int a t, .int b u, .int c v] }
/-- values that are triples of ints on the ledger -/
inductive RowsAt (tl : List (Addr × Obj)) : List Value → List Row3 → Prop
  | nil : RowsAt tl [] []
  | cons {a : Addr} {x y z : Int} {t u v : Tok} {vs : List Value} {rs : List Row3} : (a, tup3 x y z t u v) ∈ tl → RowsAt tl vs rs → RowsAt tl (.ref a :: vs) ((x, y, z) :: rs)
theorem RowsAt.mono {tl tl' : List (Addr × Obj)} {vs : List Value} {rs : List Row3} (h : RowsAt tl vs rs) (hs : ∀ p ∈ tl, p ∈ tl') : RowsAt tl' vs rs := by
  induction h with
  | nil => exact .nil
  | cons hm _ ih => exact .cons (hs _ hm) ih
theorem RowsAt.snoc {tl : List (Addr × Obj)} {vs : List Value} {rs : List Row3} (h : RowsAt tl vs rs) {a : Addr} {x y z : Int} {t u v : Tok} (hm : (a, tup3 x y z t u v) ∈ tl) : RowsAt tl (vs ++ [.ref a]) (rs ++ [(x, y, z)]) := by
  induction h with
  | nil => exact .cons hm .nil
  | cons hm' _ ih => exact .cons hm' ih
theorem RowsAt.length {tl : List (Addr × Obj)} {vs : List Value} {rs : List Row3} (h : RowsAt tl vs rs) : vs.length = rs.length := by
  induction h with
  | nil => rfl
  | cons _ _ ih => simp [ih]
section
variable {prog : Program} {w : World} {A : Around} {E : Value → Shared → Prop} {s : Shared} {env : Env} {h₀ : Heap} {x : Str} {body : List Stmt} {Q : Flow → Shared → Prop}
abbrev RowsPost (h₀ : Heap) (L : Addr) (x : Str) (m₀ : Str → Option Value) (l : Addr) (T : List (Addr × Obj)) (rows : List Row3) (s₁ : Shared) (Q : Flow → Shared → Prop) : Flow → Shared → Prop :=
  RPost (σ := List Value × Nat × List (Addr × Obj)) (fun _ => m₀) (fun c => (l, listOf (List.toArray c.1) c.2.1) :: c.2.2) h₀ L x T (fun c => RowsAt c.2.2 c.1 rows ∧ ∀ p ∈ c.2.2, p.1 ≠ l) s₁ Q
theorem range_rows {r l : Addr} {a₀ b₀ : Int} {t₀ u₀ v₀ : Tok} {n : Nat} {m₀ : Str → Option Value} {R : List (Addr × Obj)} (rows : Nat → List Row3)
    (hh : A.handled = none) (hr : IsRange s.heap r a₀ b₀ 1 t₀ u₀ v₀) (hsmall : Builtin.Range.small a₀ b₀ 1 = true) (hn : Builtin.Range.rangeSize a₀ b₀ 1 = (n : Int))
    (F : Fr h₀ env.locals s.heap m₀) (N : News h₀ env.locals s.heap ((l, listOf #[] 0) :: R)) (hl : ∀ q ∈ R, q.1 ≠ l) (hp : rows 0 = [])
    (turn : ∀ (i : Nat) vs k tl t h tk T, i < n → RowsAt tl vs (rows i) → (∀ p ∈ R, p ∈ T) → (∀ p ∈ tl ++ T, p.1 ≠ l) → (∀ p ∈ tl, ∀ q ∈ T, p.1 ≠ q.1) → Fr h₀ env.locals h (fun y => if y = x then some (.int (a₀ + i) t) else m₀ y) →
      News h₀ env.locals h ((l, listOf (List.toArray vs) k) :: (tl ++ T)) →
      wpAny (model prog w) A (execs body env) (RowsPost h₀ env.locals x m₀ l T (rows (i + 1)) { s with heap := h, toks := tk } Q) E { s with heap := h, toks := tk })
    (done : ∀ vs k tl (u : Str → Option Value) h tk, RowsAt tl vs (rows n) → (∀ p ∈ (l, listOf (List.toArray vs) k) :: tl, ∀ q ∈ R, p.1 ≠ q.1) → Fr h₀ env.locals h (fun y => if y = x then u y else m₀ y) → News h₀ env.locals h ((l, listOf (List.toArray vs) k) :: (tl ++ R)) → Q .next { s with heap := h, toks := tk }) :
    wpAny (model prog w) A (pyIter (.ref r)) (fun it s₂ => LoopAtV prog w A h₀ env x body Q E it s₂) E s := by
  refine range_rule (σ := List Value × Nat × List (Addr × Obj)) (fun _ => m₀) (fun c => (l, listOf (List.toArray c.1) c.2.1) :: c.2.2) (fun i c => RowsAt c.2.2 c.1 (rows i) ∧ ∀ p ∈ c.2.2, p.1 ≠ l) ([], 0, []) hh hr hsmall hn F N ?_ (fun _ _ => rfl) ⟨by rw [hp]; exact .nil, fun _ h => nomatch h⟩ ?_ ?_
  · intro p hp q hq
    rw [List.mem_singleton.mp hp]
    exact (hl q hq).symm
  · rintro i ⟨vs, k, tl⟩ t h tk T hi ⟨hR, hne⟩ hs hap F₁ N₁
    refine turn i vs k tl t h tk T hi hR hs ?_ (fun p hp q hq => hap p (.tail _ hp) q hq) F₁ N₁
    intro p hp
    rcases List.mem_append.mp hp with h1 | h1
    · exact hne p h1
    · exact (hap _ (.head _) p h1).symm
  · rintro ⟨vs, k, tl⟩ u h tk ⟨hR, hne⟩ hap F₁ N₁
    exact done vs k tl u h tk hR hap F₁ N₁
theorem rows_same {h' : Heap} {L l : Addr} {T tl : List (Addr × Obj)} {rows : List Row3} {s₁ : Shared} {m₀ m' : Str → Option Value} {tk k : Nat} {vs : List Value}
    (F : Fr h₀ L h' m') (N : News h₀ L h' ((l, listOf (List.toArray vs) k) :: (tl ++ T))) (hT : ∀ p ∈ tl ++ T, p.1 ≠ l) (hap : ∀ p ∈ tl, ∀ q ∈ T, p.1 ≠ q.1) (hm : ∀ y, y ≠ x → m' y = m₀ y) (hp : RowsAt tl vs rows) :
    RowsPost h₀ L x m₀ l T rows s₁ Q .next { s₁ with heap := h', toks := tk } := by
  refine rnext (vs, k, tl) F N ?_ hm ⟨hp, fun p hp => hT p (List.mem_append_left _ hp)⟩
  intro p hp q hq
  rcases List.mem_cons.mp hp with rfl | hp
  · exact (hT q (List.mem_append_right _ hq)).symm
  · exact hap p hp q hq
theorem rows_app {h' : Heap} {L l D : Addr} {T tl : List (Addr × Obj)} {rows : List Row3} {s₁ : Shared} {m₀ m' : Str → Option Value} {tk k : Nat} {vs : List Value} {a b c : Int} {t u v : Tok}
    (F : Fr h₀ L h' m') (N : News h₀ L h' ((D, tup3 a b c t u v) :: (l, listOf (List.toArray (vs ++ [.ref D])) k) :: (tl ++ T))) (hl : l < D) (hD : AllLt D (tl ++ T)) (hT : ∀ p ∈ tl ++ T, p.1 ≠ l) (hap : ∀ p ∈ tl, ∀ q ∈ T, p.1 ≠ q.1) (hm : ∀ y, y ≠ x → m' y = m₀ y) (hp : RowsAt tl vs rows) :
    RowsPost h₀ L x m₀ l T (rows ++ [(a, b, c)]) s₁ Q .next { s₁ with heap := h', toks := tk } := by
  have hDn := ne_of_allLt hD
  refine rnext (vs ++ [.ref D], k, (D, tup3 a b c t u v) :: tl) F ?_ ?_ hm ⟨?_, ?_⟩
  · intro p hp
    refine N p ?_
    simp only [List.cons_append, List.mem_cons] at hp ⊢
    rcases hp with h | h | h
    · exact .inr (.inl h)
    · exact .inl h
    · exact .inr (.inr h)
  · intro p hp q hq
    simp only [List.mem_cons] at hp
    rcases hp with rfl | rfl | hp
    · exact (hT q (List.mem_append_right _ hq)).symm
    · exact (hDn q (List.mem_append_right _ hq)).symm
    · exact hap p hp q hq
  · exact (hp.mono fun p hp => .tail _ hp).snoc (.head _)
  · intro p hp
    rcases List.mem_cons.mp hp with rfl | hp
    · exact Nat.ne_of_gt hl
    · exact hT p (List.mem_append_left _ hp)
end
/-- the row of the size 1 + j -/
def rowAt (S S' : Sc) (j : Nat) : Row3 := (1 + (j : Int), indent S (1 + (j : Int)), indent S' (1 + (j : Int)))
def geRows (S S' : Sc) (k : Nat) : List Row3 := ((List.range k).map (rowAt S S')).filter fun r => decide (r.2.2 ≤ r.2.1)
def neRows (S S' : Sc) (k : Nat) : List Row3 := ((List.range k).map (rowAt S S')).filter fun r => decide (r.2.1 ≠ r.2.2)
theorem geRows_pos {S S' : Sc} {k : Nat} (h : indent S' (1 + (k : Int)) ≤ indent S (1 + (k : Int))) : geRows S S' (k + 1) = geRows S S' k ++ [(1 + (k : Int), indent S (1 + (k : Int)), indent S' (1 + (k : Int)))] := by
  simp [geRows, List.range_succ, rowAt, h]
theorem geRows_neg {S S' : Sc} {k : Nat} (h : ¬ indent S' (1 + (k : Int)) ≤ indent S (1 + (k : Int))) : geRows S S' (k + 1) = geRows S S' k := by
  simp [geRows, List.range_succ, rowAt, h]
theorem neRows_pos {S S' : Sc} {k : Nat} (h : indent S (1 + (k : Int)) ≠ indent S' (1 + (k : Int))) : neRows S S' (k + 1) = neRows S S' k ++ [(1 + (k : Int), indent S (1 + (k : Int)), indent S' (1 + (k : Int)))] := by
  simp [neRows, List.range_succ, rowAt, h]
theorem neRows_neg {S S' : Sc} {k : Nat} (h : ¬ indent S (1 + (k : Int)) ≠ indent S' (1 + (k : Int))) : neRows S S' (k + 1) = neRows S S' k := by
  simp [neRows, List.range_succ, rowAt, h]
theorem geRows_len (S S' : Sc) (k : Nat) : (geRows S S' k).length ≤ k := by
  unfold geRows
  exact Nat.le_trans (List.length_filter_le _ _) (by simp)
theorem neRows_len (S S' : Sc) (k : Nat) : (neRows S S' k).length ≤ k := by
  unfold neRows
  exact Nat.le_trans (List.length_filter_le _ _) (by simp)
/-- the call makes a list of triples -/
abbrev MakesRows (news : List (Addr × Obj)) (rows : List Row3) (h₀ : Heap) (L : Addr) (m : Str → Option Value) (s : Shared) (Q : Value → Shared → Prop) : Prop :=
  ∀ (l : Addr) (vs : List Value) (k : Nat) (tl : List (Addr × Obj)) (h' : Heap) (tk' : Nat), Fr h₀ L h' m → News h₀ L h' ((l, listOf (List.toArray vs) k) :: (tl ++ news)) → (∀ p ∈ (l, listOf (List.toArray vs) k) :: tl, ∀ q ∈ news, p.1 ≠ q.1) → RowsAt tl vs rows → Q (.ref l) { s with heap := h', toks := tk' }
end Mine
namespace Mine
theorem WsAt.cons {P : Params} {led : List (Addr × Obj)} {q : Addr × Obj} {x : Addr} {S : Sc} (h : WsAt P led x S) : WsAt P (q :: led) x S := h.mono fun _ hp => .tail _ hp
section
local macro_rules | `(tactic| walk_at "no key 0") => `(tactic| fail "none")
local macro_rules | `(tactic| walk_at "pyIter ref") => `(tactic| refine Stuck.out ?_)
local macro_rules | `(tactic| k_mem) => `(tactic| first | assumption | exact List.Mem.tail _ (by assumption) | exact List.Mem.tail _ (List.Mem.tail _ (by assumption)))
local macro_rules | `(tactic| k_room) => `(tactic| ktr_room)
local macro_rules | `(tactic| k_all) => `(tactic| first | assumption | exact ne_of_allLt (by assumption))
local macro_rules | `(tactic| walk_at "call ref") => `(tactic| (k_here; (with_reducible show wpAny _ _ (call (Value.ref 38) _) _ _ _); k_dflt (refine' does_use (longest_does _ _ _ _ _ _ _ ?hS (Small.c' ?hc)) ?k1 ?k2 ?k3 ?k4 ?k5 ?kK ?kd ?ku ?_; (case k4 => k_asm); (case hS => first | assumption | exact WsAt.cons (by assumption)); (case hc => assumption); (case k1 => k_asm); (case k2 => k_asm); (case k3 => k_asm); (case k5 => k_asm); (case kK => exact rfl); (case kd => ktr_room); (case ku => ktr_units); k_whole); intro t9 h9 tk9 F9 N9; (try dsimp only); (try k_fold)))
local macro_rules | `(tactic| walk_at "call ref") => `(tactic| (k_here; (with_reducible show wpAny _ _ (call (Value.ref 45) _) _ _ _); k_dflt (refine' does_use (indent_does _ _ _ _ _ _ _ ?hS (Small.c' ?hc) _ _ ?h1 ?h2) ?k1 ?k2 ?k3 ?k4 ?k5 ?kK ?kd ?ku ?_; (case k4 => k_asm); (case hS => first | assumption | exact WsAt.cons (by assumption)); (case hc => assumption); (case h1 => omega); (case h2 => omega); (case k1 => k_asm); (case k2 => k_asm); (case k3 => k_asm); (case k5 => k_asm); (case kK => exact rfl); (case kd => ktr_room); (case ku => ktr_units); k_whole); intro t9 h9 tk9 F9 N9; (try dsimp only); (try k_fold)))
theorem nlw_does (w : World) (mean : ExcName → Option Value) (mg mb : Str → Option Value) (news : List (Addr × Obj)) (x x' : Addr) (S S' : Sc) (hS : WsAt w.params news x S) (hS' : WsAt w.params news x' S') (hc : Small S) (hc' : Small S') :
    Does 4 w mean mg mb 73 news [.ref x, .ref x'] (MakesRows news (geRows S S' (max (lr S) (lr S') + 1).toNat)) := by
  dsimp only [Does, MakesRows]
  k_fill
  intro dp un gd cn cs a ccd cl outer A₀ base h₀ L m s Q E B F X N T hk hdp hun hret
  obtain ⟨d, na, ca, vs, raw, tr, k1, k2, k3, k4, k5, tn, tnt, tb, hm1, hm2, hm3, hm4, hI⟩ := id hS
  obtain ⟨d', na', ca', vs', raw', tr', k1', k2', k3', k4', k5', tn', tnt', tb', hm1', hm2', hm3', hm4', hI'⟩ := id hS'
  have hlr := hc.lr
  have hlr' := hc'.lr
  have hmx : (if lr S' > lr S then lr S' else lr S) = max (lr S) (lr S') := by split <;> omega
  w_top off
  k_with_none
  w_strict (
    refine wpAny_call ?_
    (k_dflt cell_enter)
    k_steps
    unfold Stuck
    (rename IsRange _ _ _ _ _ _ _ _ => rgX); (rename Fr _ _ _ _ => lF'); (rename News _ _ _ _ => lN')
    rw [hmx] at rgX
    (rename ∀ p ∈ news, p.1 < _ => hal)
    (with_unfolding_all refine' range_rows (fun i => geRows S S' i) ?hh rgX ?hsm ?hsz lF' lN' (fun q hq => Nat.ne_of_lt (hal q hq)) ?hp ?turn ?done); (case hh => rfl); (case hsm => exact small_one (by omega) (by omega) (by omega) (by omega)); (case hsz => exact rangeSize_nat _ _); (case hp => rfl); clear lF' lN'
    (case turn =>
        intro i vs2 k tl t h tk T hi hP hs hl hap F3 N3
        have hsub : ∀ p ∈ news, p ∈ tl ++ T := fun p hp => List.mem_append_right _ (hs p hp)
        have hT := hS.mono hsub; have hT' := hS'.mono hsub; have hn1 := hsub _ hm1; have hn2 := hsub _ hm2; have hn1' := hsub _ hm1'; have hn2' := hsub _ hm2'
        have hvl := hP.length
        have hgl := geRows_len S S' i
        generalize hU : tl ++ T = U at hl N3 hT hT' hn1 hn2 hn1' hn2' hsub
        k_steps
        · rename_i F4 N4
          (rename indent S' (1 + (i : Int)) ≤ indent S (1 + (i : Int)) => hge)
          (rename _ < _ ∧ AllLt _ U => l9)
          subst hU
          rw [List.push_toArray] at N4
          rw [geRows_pos hge]
          exact rows_app F4 N4 l9.1 l9.2 hl hap (fun y hy => if_neg hy) hP
        · rename_i F4 N4 hlt
          subst hU
          rw [geRows_neg hlt]
          exact rows_same F4 N4 hl hap (fun y hy => if_neg hy) hP)
    (case done =>
        intro vs2 k tl u h tk hP hap F3 N3
        k_steps
        rename_i kF kN _ _
        have e : (max (lr S) (lr S') + 1 + 1 - 1).toNat = (max (lr S) (lr S') + 1).toNat := by omega
        rw [e] at hP
        exact hret _ _ _ _ _ _ kF kN hap hP))
theorem new_does (w : World) (mean : ExcName → Option Value) (mg mb : Str → Option Value) (news : List (Addr × Obj)) (x x' : Addr) (S S' : Sc) (hS : WsAt w.params news x S) (hS' : WsAt w.params news x' S') (hc : Small S) (hc' : Small S') :
    Does 4 w mean mg mb 59 news [.ref x, .ref x'] (MakesRows news (neRows S S' (max (lr S) (lr S') + 1).toNat)) := by
  dsimp only [Does, MakesRows]
  k_fill
  intro dp un gd cn cs a ccd cl outer A₀ base h₀ L m s Q E B F X N T hk hdp hun hret
  obtain ⟨d, na, ca, vs, raw, tr, k1, k2, k3, k4, k5, tn, tnt, tb, hm1, hm2, hm3, hm4, hI⟩ := id hS
  obtain ⟨d', na', ca', vs', raw', tr', k1', k2', k3', k4', k5', tn', tnt', tb', hm1', hm2', hm3', hm4', hI'⟩ := id hS'
  have hlr := hc.lr
  have hlr' := hc'.lr
  have hmx : (if lr S' > lr S then lr S' else lr S) = max (lr S) (lr S') := by split <;> omega
  w_top off
  k_with_none
  w_strict (
    refine wpAny_call ?_
    (k_dflt cell_enter)
    k_steps
    unfold Stuck
    (rename IsRange _ _ _ _ _ _ _ _ => rgX); (rename Fr _ _ _ _ => lF'); (rename News _ _ _ _ => lN')
    rw [hmx] at rgX
    (rename ∀ p ∈ news, p.1 < _ => hal)
    (with_unfolding_all refine' range_rows (fun i => neRows S S' i) ?hh rgX ?hsm ?hsz lF' lN' (fun q hq => Nat.ne_of_lt (hal q hq)) ?hp ?turn ?done); (case hh => rfl); (case hsm => exact small_one (by omega) (by omega) (by omega) (by omega)); (case hsz => exact rangeSize_nat _ _); (case hp => rfl); clear lF' lN'
    (case turn =>
        intro i vs2 k tl t h tk T hi hP hs hl hap F3 N3
        have hsub : ∀ p ∈ news, p ∈ tl ++ T := fun p hp => List.mem_append_right _ (hs p hp)
        have hT := hS.mono hsub; have hT' := hS'.mono hsub; have hn1 := hsub _ hm1; have hn2 := hsub _ hm2; have hn1' := hsub _ hm1'; have hn2' := hsub _ hm2'
        have hvl := hP.length
        have hgl := neRows_len S S' i
        generalize hU : tl ++ T = U at hl N3 hT hT' hn1 hn2 hn1' hn2' hsub
        k_steps
        · rename_i F4 N4
          (rename ¬ indent S (1 + (i : Int)) = indent S' (1 + (i : Int)) => hge)
          (rename _ < _ ∧ AllLt _ U => l9)
          subst hU
          rw [List.push_toArray] at N4
          rw [neRows_pos hge]
          exact rows_app F4 N4 l9.1 l9.2 hl hap (fun y hy => if_neg hy) hP
        · rename_i F4 N4 hlt
          subst hU
          rw [neRows_neg (fun h => h hlt)]
          exact rows_same F4 N4 hl hap (fun y hy => if_neg hy) hP)
    (case done =>
        intro vs2 k tl u h tk hP hap F3 N3
        k_steps
        rename_i kF kN _ _
        have e : (max (lr S) (lr S') + 1 + 1 - 1).toNat = (max (lr S) (lr S') + 1).toNat := by omega
        rw [e] at hP
        exact hret _ _ _ _ _ _ kF kN hap hP))
end
end Mine
namespace Mine
open PySem.Spec PyProof.V PySem.Calls
section
variable {prog : Program} {w : World} {A : Around} {E : Value → Shared → Prop} {s : Shared} {h₀ : Heap} {L : Addr} {news : List (Addr × Obj)} {v u : Value} {d e : PySem.W.Dat} {Q : Value → Shared → Prop}
open Classical in
/-- == of two data on the ledger -/
theorem dat_eq (N : News h₀ L s.heap news) (Dv : DatIn news v d) (Du : DatIn news u e) (hd : kqdOk 9 d = true) (he : kqdOk 9 e = true) (hu : A.units + 64 < cLine) (h : Q (.bool (decide (d = e))) s) :
    wpAny (model prog w) A (compareOp .Eq v u) Q E s := by
  obtain ⟨as, ra⟩ := kqd_in N 9 Dv hd
  obtain ⟨bs, rb⟩ := kqd_in N 9 Du he
  have la := kqd_lay 9 d hd
  have lb := kqd_lay 9 e he
  have q := kqd_eqv 9 d e 9 hd he
  have ee : PyData.eqv (kqdP d) (kqdP e) = decide (d = e) := by
    by_cases hq : d = e
    · rw [decide_eq_true hq]; exact q.mpr hq
    · rw [decide_eq_false hq]; exact Bool.eq_false_iff.mpr fun x => hq (q.mp x)
  refine eq_dataH ra rb ?_ ?_ hu (by rw [ee]; exact h)
  · unfold SeqAt.shaped; rw [la.1, Bool.true_and]; exact decide_eq_true (Nat.le_trans la.2 (by decide))
  · unfold SeqAt.shaped; rw [lb.1, Bool.true_and]; exact decide_eq_true (Nat.le_trans lb.2 (by decide))
open Classical in
theorem dat_ne (N : News h₀ L s.heap news) (Dv : DatIn news v d) (Du : DatIn news u e) (hd : kqdOk 9 d = true) (he : kqdOk 9 e = true) (hu : A.units + 64 < cLine) (h : Q (.bool (!decide (d = e))) s) :
    wpAny (model prog w) A (compareOp .NotEq v u) Q E s := by
  obtain ⟨as, ra⟩ := kqd_in N 9 Dv hd
  obtain ⟨bs, rb⟩ := kqd_in N 9 Du he
  have la := kqd_lay 9 d hd
  have lb := kqd_lay 9 e he
  have q := kqd_eqv 9 d e 9 hd he
  have ee : PyData.eqv (kqdP d) (kqdP e) = decide (d = e) := by
    by_cases hq : d = e
    · rw [decide_eq_true hq]; exact q.mpr hq
    · rw [decide_eq_false hq]; exact Bool.eq_false_iff.mpr fun x => hq (q.mp x)
  refine ne_dataH ra rb ?_ ?_ hu (by rw [ee]; exact h)
  · unfold SeqAt.shaped; rw [la.1, Bool.true_and]; exact decide_eq_true (Nat.le_trans la.2 (by decide))
  · unfold SeqAt.shaped; rw [lb.1, Bool.true_and]; exact decide_eq_true (Nat.le_trans lb.2 (by decide))
theorem ints_dat {vs : List Value} {c : List Int} (h : IntsAre vs c) : DatAll news vs (c.map PySem.W.Dat.int) := by
  induction h with
  | nil => exact .nil
  | cons i t _ ih => exact .cons (.int i t) ih
theorem ints_ok (n : Nat) (c : List Int) : (c.map PySem.W.Dat.int).all (kqdOk n) = true := by
  simp only [List.all_eq_true, List.mem_map]
  rintro _ ⟨i, _, rfl⟩
  cases n <;> rfl
def rowDat (r : Row3) : PySem.W.Dat := .tuple [.int r.1, .int r.2.1, .int r.2.2]
theorem RowsAt.dat {tl : List (Addr × Obj)} {vs : List Value} {rs : List Row3} (h : RowsAt tl vs rs) : DatAll tl vs (rs.map rowDat) := by
  induction h with
  | nil => exact .nil
  | cons hm _ ih => exact .cons (.tuple (vs := [_, _, _]) hm (.cons (.int _ _) (.cons (.int _ _) (.cons (.int _ _) .nil)))) ih
theorem rows_ok (rs : List Row3) : kqdOk 9 (.list (rs.map rowDat)) = true := by
  simp only [kqdOk, List.all_eq_true, List.mem_map]
  rintro _ ⟨i, _, rfl⟩
  rfl
theorem rowDat_inj {r r' : Row3} (h : rowDat r = rowDat r') : r = r' := by
  obtain ⟨a, b, c⟩ := r
  obtain ⟨a', b', c'⟩ := r'
  simp only [rowDat, PySem.W.Dat.tuple.injEq, List.cons.injEq, PySem.W.Dat.int.injEq, and_true] at h
  obtain ⟨rfl, rfl, rfl⟩ := h
  rfl
theorem rows_inj {rs rs' : List Row3} : PySem.W.Dat.list (rs.map rowDat) = PySem.W.Dat.list (rs'.map rowDat) ↔ rs = rs' := by
  rw [PySem.W.Dat.list.injEq]
  constructor
  · intro h
    induction rs generalizing rs' with
    | nil => cases rs' with
      | nil => rfl
      | cons _ _ => cases h
    | cons r rs ih => cases rs' with
      | nil => cases h
      | cons r' rs' =>
        simp only [List.map_cons, List.cons.injEq] at h
        rw [rowDat_inj h.1, ih h.2]
  · rintro rfl; rfl
theorem ints_inj {c c' : List Int} : c.map PySem.W.Dat.int = c'.map PySem.W.Dat.int ↔ c = c' := by
  constructor
  · intro h
    induction c generalizing c' with
    | nil => cases c' with
      | nil => rfl
      | cons _ _ => cases h
    | cons r rs ih => cases c' with
      | nil => cases h
      | cons r' rs' =>
        simp only [List.map_cons, List.cons.injEq, PySem.W.Dat.int.injEq] at h
        rw [h.1, ih h.2]
  · rintro rfl; rfl
/-- the norm as a datum -/
def normDat (S : Sc) : PySem.W.Dat := .tuple [.tuple (S.c.map .int), .int S.b]
theorem norm_in {na ca : Addr} {vs : List Value} {S : Sc} {tb : Tok} (hm3 : (na, ({ cls := .type "tuple", data := .seq #[.ref ca, .int S.b tb] } : Obj)) ∈ news) (hm4 : (ca, ({ cls := .type "tuple", data := .seq (List.toArray vs) } : Obj)) ∈ news) (hI : IntsAre vs S.c) :
    DatIn news (.ref na) (normDat S) := .tuple (vs := [_, _]) hm3 (.cons (.tuple hm4 (ints_dat hI)) (.cons (.int _ _) .nil))
theorem norm_ok (S : Sc) : kqdOk 9 (normDat S) = true := by
  simp only [normDat, kqdOk, List.all_cons, List.all_nil, Bool.and_true, ints_ok]
theorem norm_inj {S S' : Sc} : normDat S = normDat S' ↔ S.c = S'.c ∧ S.b = S'.b := by
  simp only [normDat, PySem.W.Dat.tuple.injEq, List.cons.injEq, PySem.W.Dat.int.injEq, and_true, ints_inj]
  constructor
  · rintro ⟨a, b⟩; exact ⟨a, by omega⟩
  · rintro ⟨a, b⟩; exact ⟨a, by omega⟩
end
section
local macro_rules | `(tactic| k_room) => `(tactic| ktr_room)
local macro_rules | `(tactic| k_mem) => `(tactic| first | assumption | exact List.Mem.tail _ (by assumption) | exact List.Mem.tail _ (List.Mem.tail _ (by assumption)))
local macro_rules | `(tactic| walk_at "compareOp Eq ref ref") => `(tactic| (k_here; (with_reducible show wpAny _ _ (compareOp CmpOp.Eq (Value.ref _) (Value.ref _)) _ _ _); k_dflt (refine' dat_eq ?k1 (norm_in ?k2 ?k3 ?k4) (norm_in ?k5 ?k6 ?k7) (norm_ok _) (norm_ok _) ?k8 ?_; (case k1 => k_asm); (case k2 => k_mem); (case k3 => k_mem); (case k4 => assumption); (case k5 => k_mem); (case k6 => k_mem); (case k7 => assumption); (case k8 => ktr_units); k_whole)))
theorem equal_does (w : World) (mean : ExcName → Option Value) (mg mb : Str → Option Value) (news : List (Addr × Obj)) (x x' : Addr) (S S' : Sc) (hS : WsAt w.params news x S) (hS' : WsAt w.params news x' S') :
    Does 4 w mean mg mb 52 news [.ref x, .ref x'] (Gives news (fun _ => .bool (decide (S.c = S'.c ∧ S.b = S'.b)))) := by
  dsimp only [Does, Gives]
  k_fill
  intro dp un gd cn cs a ccd cl outer A₀ base h₀ L m s Q E B F X N T hk hdp hun hret
  obtain ⟨d, na, ca, vs, raw, tr, k1, k2, k3, k4, k5, tn, tnt, tb, hm1, hm2, hm3, hm4, hI⟩ := id hS
  obtain ⟨d', na', ca', vs', raw', tr', k1', k2', k3', k4', k5', tn', tnt', tb', hm1', hm2', hm3', hm4', hI'⟩ := id hS'
  w_top off
  k_with_none
  w_strict (
    refine wpAny_call ?_
    (k_dflt cell_enter)
    k_steps
    rename_i kF kN _ _
    refine cb_retB hret ?_ kF kN
    exact decide_eq_decide.mpr norm_inj)
end
end Mine
namespace Mine
open PySem.Spec PyProof.V PySem.Calls
section
variable {prog : Program} {w : World} {A : Around} {E : Value → Shared → Prop} {s : Shared} {x y : Str} {t u : Tok} {Q : Value → Shared → Prop}
theorem add_small {a b : Nat} (hx : x.length ≤ a) (hy : y.length ≤ b) (hab : a + b ≤ 10000) (h : ∀ t' tk, Q (.str (x ++ y) t') { s with toks := tk }) : wpAny (model prog w) A (binaryOp .Add (.str x t) (.str y u)) Q E s :=
  PyProof.Rows.add_str h (by rw [sizeLine_eq]; omega)
theorem iadd_small {a b : Nat} (hx : x.length ≤ a) (hy : y.length ≤ b) (hab : a + b ≤ 10000) (h : ∀ t' tk, Q (.str (x ++ y) t') { s with toks := tk }) : wpAny (model prog w) A (inplaceOp .Add (.str x t) (.str y u)) Q E s :=
  PyProof.Rows.iadd_str h (by rw [sizeLine_eq]; omega)
theorem len_app {a b : Nat} (hx : x.length ≤ a) (hy : y.length ≤ b) : (x ++ y).length ≤ a + b := by
  rw [PySem.Str.length_append]; omega
theorem sp_len (z : Int) : (Txt.mul (Str.ofString " ") ((z.fmod 10).fdiv 2)).length ≤ 5 := by
  refine len_mul_one (c := 32) (by decide +kernel) ?_
  have e : (z.fmod 10) = z % 10 := Int.fmod_eq_emod_of_nonneg _ (by decide)
  have e2 : (z % 10).fdiv 2 = z % 10 / 2 := Int.fdiv_eq_ediv_of_nonneg _ (by decide)
  rw [e, e2]; omega
theorem tab_len (z : Int) : (Txt.mul (Str.ofString "\t") (z.fmod 2)).length ≤ 5 := by
  refine len_mul_one (c := 9) (by decide +kernel) ?_
  have e : (z.fmod 2) = z % 2 := Int.fmod_eq_emod_of_nonneg _ (by decide)
  rw [e]; omega
theorem em_len : (Str.ofString "").length ≤ 0 := by decide +kernel
end
/-- the part that a figure puts behind the lead -/
def segL (f : Int) : List Nat := List.replicate (f.fdiv 2).toNat 32 ++ List.replicate (f.fmod 2).toNat 9
def digit (n : Int) (e : Nat) : Int := (n.fdiv (10 ^ e)).fmod 10
def leadTo (n : Int) : Nat → List Nat
  | 0 => []
  | i + 1 => leadTo n i ++ segL (digit n i)
def leadL (n : Int) : List Nat := leadTo n 4
def strOf (l : List Nat) : Str := ⟨l.toArray⟩
theorem seg_len (f : Int) (h0 : 0 ≤ f) (h1 : f ≤ 9) : (segL f).length ≤ 5 := by
  have e1 : f.fdiv 2 = f / 2 := Int.fdiv_eq_ediv_of_nonneg _ (by decide)
  have e2 : f.fmod 2 = f % 2 := Int.fmod_eq_emod_of_nonneg _ (by decide)
  unfold segL
  rw [List.length_append, List.length_replicate, List.length_replicate, e1, e2]
  omega
theorem digit_in (n : Int) (e : Nat) : 0 ≤ digit n e ∧ digit n e ≤ 9 := by
  unfold digit
  rw [Int.fmod_eq_emod_of_nonneg _ (by decide)]
  omega
theorem leadTo_len (n : Int) (i : Nat) : (leadTo n i).length ≤ 5 * i := by
  induction i with
  | zero => exact Nat.le_refl _
  | succ i ih =>
    have h := digit_in n i
    have := seg_len (digit n i) h.1 h.2
    show (leadTo n i ++ segL (digit n i)).length ≤ _
    rw [List.length_append]
    omega
theorem strOf_app (l l' : List Nat) : strOf l ++ strOf l' = strOf (l ++ l') := by
  refine PySem.Str.ext' ?_
  rw [PySem.Str.cps_append]
  simp [strOf]
theorem seg_str (f : Int) : Txt.mul (Str.ofString " ") (f.fdiv 2) ++ Txt.mul (Str.ofString "\t") (f.fmod 2) = strOf (segL f) := by
  have h1 : Str.ofString " " = ⟨#[32]⟩ := by decide +kernel
  have h2 : Str.ofString "\t" = ⟨#[9]⟩ := by decide +kernel
  refine PySem.Str.ext' (Array.toList_inj.mp ?_)
  rw [PySem.Str.cps_append, Array.toList_append, h1, h2, mul_one_list, mul_one_list]
  simp [strOf, segL]
theorem strOf_len (l : List Nat) : (strOf l).length = l.length := by simp [strOf, PySem.Str.length]
section
local macro_rules | `(tactic| walk_at "pyIter ref") => `(tactic| refine Stuck.out ?_)
local macro_rules | `(tactic| walk_at "exec For Name Call cons nil") => `(tactic| (k_here; (rename Fr _ _ _ _ => lF'); (with_unfolding_all refine' For_invVF lF' ?k1 ?k2 ?_; (case k1 => exact rfl); (case k2 => exact rfl); k_whole)))
local macro_rules | `(tactic| k_room) => `(tactic| ktr_room)
local macro_rules | `(tactic| walk_at "binaryOp Add str str") => `(tactic| (k_here; (with_reducible show wpAny _ _ (binaryOp Operator.Add (Value.str _ _) (Value.str _ _)) _ _ _); k_dflt (refine' add_small ?hx ?hy ?hab ?_; (case hx => repeat' (first | exact sp_len _ | exact tab_len _ | exact em_len | ((with_reducible show PySem.Str.length _ ≤ _); assumption) | refine' len_app ?_ ?_)); (case hy => repeat' (first | exact sp_len _ | exact tab_len _ | exact em_len | ((with_reducible show PySem.Str.length _ ≤ _); assumption) | refine' len_app ?_ ?_)); (case hab => exact Nat.le_of_ble_eq_true rfl); k_whole); intro t' tk'))
local macro_rules | `(tactic| walk_at "inplaceOp Add str str") => `(tactic| (k_here; (with_reducible show wpAny _ _ (inplaceOp Operator.Add (Value.str _ _) (Value.str _ _)) _ _ _); k_dflt (refine' iadd_small ?hx ?hy ?hab ?_; (case hx => repeat' (first | exact sp_len _ | exact tab_len _ | exact em_len | ((with_reducible show PySem.Str.length _ ≤ _); assumption) | refine' len_app ?_ ?_)); (case hy => repeat' (first | exact sp_len _ | exact tab_len _ | exact em_len | ((with_reducible show PySem.Str.length _ ≤ _); assumption) | refine' len_app ?_ ?_)); (case hab => exact Nat.le_of_ble_eq_true rfl); k_whole); intro t' tk'))
theorem lead_does (w : World) (mean : ExcName → Option Value) (mg mb : Str → Option Value) (news : List (Addr × Obj)) (n : Int) (t : Tok) :
    Does 2 w mean mg mb 87 news [.int n t] (Gives news (fun t => .str (strOf (leadL n)) t)) := by
  dsimp only [Does, Gives]
  k_fill
  intro dp un gd cn cs a ccd cl outer A₀ base h₀ L m s Q E B F X N T hk hdp hun hret
  w_top off
  k_with_none
  w_strict (
    refine wpAny_call ?_
    (k_dflt cell_enter)
    k_steps
    unfold Stuck
    (rename IsRange _ _ _ _ _ _ _ _ => rgX); (rename Fr _ _ _ _ => lF'); (rename News _ _ _ _ => lN')
    (with_unfolding_all refine' range_str (Str.ofString "lead") (Str.ofString "figure") (fun i c => c = strOf (leadTo n i)) ?hh rgX ?hsm ?hsz lF' lN' ?hz ?hp ?turn ?done); (case hh => rfl); (case hsm => decide); (case hsz => exact rangeSize_nat _ _); (case hz => rfl); (case hp => exact (show Str.ofString "" = strOf [] from by decide +kernel)); clear lF' lN'
    (case turn =>
      intro i ld tl v t h tk T hi hP hs F3 N3
      have hld : ld.length ≤ 100 := by rw [hP, strOf_len]; have := leadTo_len n i; omega
      have hi4 : i = 0 ∨ i = 1 ∨ i = 2 ∨ i = 3 := by omega
      have hP' : ∀ f, f = digit n i → ld ++ (Txt.mul (Str.ofString " ") (f.fdiv 2) ++ Txt.mul (Str.ofString "\t") (f.fmod 2)) = strOf (leadTo n (i + 1)) := by
        intro f hf
        rw [hP, seg_str, strOf_app, hf]; rfl
      clear hP hi
      rcases hi4 with rfl | rfl | rfl | rfl
      all_goals (
        k_steps
        (rename Fr _ _ _ _ => F4); (rename News _ _ _ _ => N4)
        refine str_next F4 N4 rfl ?_ ?_
        · intro y e0 e1 e2
          simp only [if_neg e0, if_neg e1, if_neg e2]
        · exact hP' _ rfl))
    (case done =>
      intro ld tl v u h tk hP F3 N3
      k_steps
      rename_i kF kN _ _
      exact cb_retS hret hP kF kN))
end
end Mine
namespace Mine
open PySem.Spec PyProof.V PySem.Calls
section
variable {prog : Program} {w : World} {A : Around} {E : Value → Shared → Prop} {s : Shared} {h₀ : Heap} {L : Addr} {m : Str → Option Value} {env : Env}
/-- a comprehension by what holds between its turns -/
theorem comp_inv {elt : Expr} {x : Str} {scope : Scope} {cl : List (Str × Addr)} {S : List (Addr × Obj) → Prop} {P : Nat → Value → Prop} {Fin : List Value → List (Addr × Obj) → Prop} {n : Nat}
    (Inv : Nat → List Value → List (Addr × Obj) → Prop)
    (step : ∀ i ys news v I oI C oC D m₂ h tk (E' : Value → Shared → Prop), i < n → Inv i ys news → P i v → LCg.NsObj oC m₂ → m₂ x = some v → Fr h₀ L h m → News h₀ L h ((I, oI) :: (C, oC) :: (D, LCg.lst ys) :: news) → LCg.Off3 I C D news → ((@Ne Nat I C) ∧ (@Ne Nat I D) ∧ (@Ne Nat C D)) →
      wpAny (model prog w) A (eval elt (compEnvC scope cl C env)) (LCg.CompEnd h₀ L m { s with heap := h, toks := tk } I oI C oC D (LCg.lst ys) S (fun y news' => Inv (i + 1) (ys ++ [y]) news')) E' { s with heap := h, toks := tk })
    (fin : ∀ ys news, Inv n ys news → Fin ys news) {news : List (Addr × Obj)} (h0 : Inv 0 [] news) :
    LCg.CompRest prog w A h₀ L m env elt x scope cl s S P Fin n 0 [] news := by
  have go : ∀ k i ys news, i + k = n → Inv i ys news → LCg.CompRest prog w A h₀ L m env elt x scope cl s S P Fin k i ys news := by
    intro k
    induction k with
    | zero => intro i ys news hi hv; exact LCg.CompRest.zero (fin ys news (by rw [← hi]; exact hv))
    | succ k ih =>
      intro i ys news hi hv
      refine LCg.CompRest.succ ?_
      intro v I oI C oC D m₂ h tk E' hP hC hx F N off ne
      refine wpAny_mono (step i ys news v I oI C oC D m₂ h tk E' (by omega) hv hP hC hx F N off ne) (fun y s₂ p => ?_) fun _ _ e => e
      obtain ⟨h', tk', news', e, F', N', off', hS, hv'⟩ := p
      exact ⟨h', tk', news', e, F', N', off', hS, ih (i + 1) (ys ++ [y]) news' (by omega) hv'⟩
  exact go n 0 [] news (by omega) h0
theorem comp_invT {ct elt : Expr} {x : Str} {scope : Scope} {cl : List (Str × Addr)} {S : List (Addr × Obj) → Prop} {P : Nat → Value → Prop} {Fin : List Value → List (Addr × Obj) → Prop} {n : Nat}
    (Inv : Nat → List Value → List (Addr × Obj) → Prop)
    (step : ∀ i ys news v I oI C oC D m₂ h tk (E' : Value → Shared → Prop), i < n → Inv i ys news → P i v → LCg.NsObj oC m₂ → m₂ x = some v → Fr h₀ L h m → News h₀ L h ((I, oI) :: (C, oC) :: (D, LCg.lst ys) :: news) → LCg.Off3 I C D news → ((@Ne Nat I C) ∧ (@Ne Nat I D) ∧ (@Ne Nat C D)) →
      wpAny (model prog w) A (isTrue ct (compEnvC scope cl C env) (eval ct (compEnvC scope cl C env))) (fun ok s' => if ok = true then
        wpAny (model prog w) A (eval elt (compEnvC scope cl C env)) (LCg.CompEnd h₀ L m { s with heap := h, toks := tk } I oI C oC D (LCg.lst ys) S (fun y news' => Inv (i + 1) (ys ++ [y]) news')) E' s'
        else LCg.CompEnd h₀ L m { s with heap := h, toks := tk } I oI C oC D (LCg.lst ys) S (fun _ news' => Inv (i + 1) ys news') Value.none s') E' { s with heap := h, toks := tk })
    (fin : ∀ ys news, Inv n ys news → Fin ys news) {news : List (Addr × Obj)} (h0 : Inv 0 [] news) :
    LCt.CompRestT prog w A h₀ L m env ct elt x scope cl s S P Fin n 0 [] news := by
  have go : ∀ k i ys news, i + k = n → Inv i ys news → LCt.CompRestT prog w A h₀ L m env ct elt x scope cl s S P Fin k i ys news := by
    intro k
    induction k with
    | zero => intro i ys news hi hv; exact LCt.CompRestT.zero (fin ys news (by rw [← hi]; exact hv))
    | succ k ih =>
      intro i ys news hi hv
      refine LCt.CompRestT.succ ?_
      intro v I oI C oC D m₂ h tk E' hP hC hx F N off ne
      refine wpAny_mono (step i ys news v I oI C oC D m₂ h tk E' (by omega) hv hP hC hx F N off ne) (fun ok s₂ p => ?_) fun _ _ e => e
      cases ok with
      | true =>
        simp only [if_true] at p ⊢
        refine wpAny_mono p (fun y s₃ p => ?_) fun _ _ e => e
        obtain ⟨h', tk', news', e, F', N', off', hS, hv'⟩ := p
        exact ⟨h', tk', news', e, F', N', off', hS, ih (i + 1) (ys ++ [y]) news' (by omega) hv'⟩
      | false =>
        simp only [Bool.false_eq_true, if_false] at p ⊢
        obtain ⟨h', tk', news', e, F', N', off', hS, hv'⟩ := p
        exact ⟨h', tk', news', e, F', N', off', hS, ih (i + 1) ys news' (by omega) hv'⟩
  exact go n 0 [] news (by omega) h0
/-- a turn's end that makes nothing -/
theorem comp_end {I C D : Addr} {oI oC oD : Obj} {S : List (Addr × Obj) → Prop} {rest : Value → List (Addr × Obj) → Prop} {y : Value} {h' : Heap} {tk : Nat} {news : List (Addr × Obj)} {s₁ : Shared}
    (F : Fr h₀ L h' m) (N : News h₀ L h' ((I, oI) :: (C, oC) :: (D, oD) :: news)) (off : LCg.Off3 I C D news) (hS : S news) (r : rest y news) :
    LCg.CompEnd h₀ L m s₁ I oI C oC D oD S rest y { s₁ with heap := h', toks := tk } := ⟨h', tk, news, rfl, F, N, off, hS, r⟩
end
/-- a turn's end: what it made (nw) stands ahead of all that stood -/
def CEnd (h₀ : Heap) (L : Addr) (m : Str → Option Value) (s₁ : Shared) (U : List (Addr × Obj)) (P : Value → List (Addr × Obj) → Prop) (y : Value) (s₂ : Shared) : Prop :=
  ∃ h' tk nw, s₂ = { s₁ with heap := h', toks := tk } ∧ Fr h₀ L h' m ∧ News h₀ L h' (nw ++ U) ∧ (∀ p ∈ nw, ∀ q ∈ U, p.1 ≠ q.1) ∧ P y nw
theorem cend0 {h₀ : Heap} {L : Addr} {m : Str → Option Value} {s₁ : Shared} {U : List (Addr × Obj)} {P : Value → List (Addr × Obj) → Prop} {y : Value} {h' : Heap} {tk : Nat} (F : Fr h₀ L h' m) (N : News h₀ L h' U) (hp : P y []) : CEnd h₀ L m s₁ U P y { s₁ with heap := h', toks := tk } :=
  ⟨h', tk, [], rfl, F, N, (fun _ h => nomatch h), hp⟩
theorem cend1 {h₀ : Heap} {L : Addr} {m : Str → Option Value} {s₁ : Shared} {U : List (Addr × Obj)} {P : Value → List (Addr × Obj) → Prop} {y : Value} {h' : Heap} {tk : Nat} {q : Addr × Obj} (F : Fr h₀ L h' m) (N : News h₀ L h' (q :: U)) (hq : ∀ p ∈ U, p.1 < q.1) (hp : P y [q]) : CEnd h₀ L m s₁ U P y { s₁ with heap := h', toks := tk } :=
  ⟨h', tk, [q], rfl, F, N, fun p hp r hr => by rw [List.mem_singleton.mp hp]; exact Nat.ne_of_gt (hq r hr), hp⟩
theorem off3_app {I C D : Addr} {a b : List (Addr × Obj)} (ha : ∀ p ∈ a, p.1 ≠ I ∧ p.1 ≠ C ∧ p.1 ≠ D) (hb : LCg.Off3 I C D b) : LCg.Off3 I C D (a ++ b) := LCg.Off3.of fun p hp => (List.mem_append.mp hp).elim (ha p) (hb.mem p)
section
variable {prog : Program} {w : World} {A : Around} {E : Value → Shared → Prop} {s : Shared} {h₀ : Heap} {L : Addr} {m : Str → Option Value} {env : Env}
theorem comp_gen {elt : Expr} {x : Str} {scope : Scope} {cl : List (Str × Addr)} {S : List (Addr × Obj) → Prop} {P : Nat → Value → Prop} {Fin : List Value → List (Addr × Obj) → Prop} {n : Nat} {news : List (Addr × Obj)}
    (Inv : Nat → List Value → List (Addr × Obj) → Prop) (hS : ∀ tl, S (tl ++ news))
    (step : ∀ i ys tl v C oC m₂ h tk (E' : Value → Shared → Prop) U, i < n → Inv i ys tl → P i v → LCg.NsObj oC m₂ → m₂ x = some v → (C, oC) ∈ U → (∀ p ∈ tl, p ∈ U) → (∀ p ∈ news, p ∈ U) → Fr h₀ L h m → News h₀ L h U →
      wpAny (model prog w) A (eval elt (compEnvC scope cl C env)) (CEnd h₀ L m { s with heap := h, toks := tk } U (fun y nw => Inv (i + 1) (ys ++ [y]) (nw ++ tl))) E' { s with heap := h, toks := tk })
    (fin : ∀ ys tl, Inv n ys tl → Fin ys (tl ++ news)) (h0 : Inv 0 [] []) :
    LCg.CompRest prog w A h₀ L m env elt x scope cl s S P Fin n 0 [] news := by
  refine comp_inv (fun i ys nx => ∃ tl, nx = tl ++ news ∧ Inv i ys tl) ?_ ?_ ⟨[], rfl, h0⟩
  · rintro i ys nx v I oI C oC D m₂ h tk E' hi ⟨tl, rfl, hv⟩ hP hC hx F N off ne
    refine wpAny_mono (step i ys tl v C oC m₂ h tk E' _ hi hv hP hC hx (.tail _ (.head _)) (fun p hp => .tail _ (.tail _ (.tail _ (List.mem_append_left _ hp)))) (fun p hp => .tail _ (.tail _ (.tail _ (List.mem_append_right _ hp)))) F N) (fun y s₂ p => ?_) fun _ _ e => e
    obtain ⟨h', tk', nw, rfl, F', N', hap, hv'⟩ := p
    refine ⟨h', tk', nw ++ (tl ++ news), rfl, F', ?_, off3_app (fun p hp => ⟨hap p hp _ (.head _), hap p hp _ (.tail _ (.head _)), hap p hp _ (.tail _ (.tail _ (.head _)))⟩) off, ?_, nw ++ tl, (List.append_assoc _ _ _).symm, hv'⟩
    · intro p hp
      refine N' p ?_
      simp only [List.mem_cons, List.mem_append] at hp ⊢
      rcases hp with h | h | h | h | h
      · exact .inr (.inl h)
      · exact .inr (.inr (.inl h))
      · exact .inr (.inr (.inr (.inl h)))
      · exact .inl h
      · exact .inr (.inr (.inr (.inr h)))
    · rw [← List.append_assoc]; exact hS _
  · rintro ys nx ⟨tl, rfl, hv⟩
    exact fin ys tl hv
theorem comp_genT {ct elt : Expr} {x : Str} {scope : Scope} {cl : List (Str × Addr)} {S : List (Addr × Obj) → Prop} {P : Nat → Value → Prop} {Fin : List Value → List (Addr × Obj) → Prop} {n : Nat} {news : List (Addr × Obj)}
    (Inv : Nat → List Value → List (Addr × Obj) → Prop) (hS : ∀ tl, S (tl ++ news))
    (step : ∀ i ys tl v C oC m₂ h tk (E' : Value → Shared → Prop) U, i < n → Inv i ys tl → P i v → LCg.NsObj oC m₂ → m₂ x = some v → (C, oC) ∈ U → (∀ p ∈ tl, p ∈ U) → (∀ p ∈ news, p ∈ U) → Fr h₀ L h m → News h₀ L h U →
      wpAny (model prog w) A (isTrue ct (compEnvC scope cl C env) (eval ct (compEnvC scope cl C env))) (fun ok s' => if ok = true then
        wpAny (model prog w) A (eval elt (compEnvC scope cl C env)) (CEnd h₀ L m { s with heap := h, toks := tk } U (fun y nw => Inv (i + 1) (ys ++ [y]) (nw ++ tl))) E' s'
        else CEnd h₀ L m { s with heap := h, toks := tk } U (fun _ nw => Inv (i + 1) ys (nw ++ tl)) Value.none s') E' { s with heap := h, toks := tk })
    (fin : ∀ ys tl, Inv n ys tl → Fin ys (tl ++ news)) (h0 : Inv 0 [] []) :
    LCt.CompRestT prog w A h₀ L m env ct elt x scope cl s S P Fin n 0 [] news := by
  refine comp_invT (fun i ys nx => ∃ tl, nx = tl ++ news ∧ Inv i ys tl) ?_ ?_ ⟨[], rfl, h0⟩
  · rintro i ys nx v I oI C oC D m₂ h tk E' hi ⟨tl, rfl, hv⟩ hP hC hx F N off ne
    have fin2 : ∀ (R : Value → List (Addr × Obj) → Prop) (R' : Value → List (Addr × Obj) → Prop) y s₂, (∀ y nw, R y nw → R' y (nw ++ (tl ++ news))) → CEnd h₀ L m { s with heap := h, toks := tk } ((I, oI) :: (C, oC) :: (D, LCg.lst ys) :: (tl ++ news)) R y s₂ →
        LCg.CompEnd h₀ L m { s with heap := h, toks := tk } I oI C oC D (LCg.lst ys) S R' y s₂ := by
      rintro R R' y s₂ hRR ⟨h', tk', nw, rfl, F', N', hap, hv'⟩
      refine ⟨h', tk', nw ++ (tl ++ news), rfl, F', ?_, off3_app (fun p hp => ⟨hap p hp _ (.head _), hap p hp _ (.tail _ (.head _)), hap p hp _ (.tail _ (.tail _ (.head _)))⟩) off, ?_, hRR y nw hv'⟩
      · intro p hp
        refine N' p ?_
        simp only [List.mem_cons, List.mem_append] at hp ⊢
        rcases hp with h | h | h | h | h
        · exact .inr (.inl h)
        · exact .inr (.inr (.inl h))
        · exact .inr (.inr (.inr (.inl h)))
        · exact .inl h
        · exact .inr (.inr (.inr (.inr h)))
      · rw [← List.append_assoc]; exact hS _
    refine wpAny_mono (step i ys tl v C oC m₂ h tk E' _ hi hv hP hC hx (.tail _ (.head _)) (fun p hp => .tail _ (.tail _ (.tail _ (List.mem_append_left _ hp)))) (fun p hp => .tail _ (.tail _ (.tail _ (List.mem_append_right _ hp)))) F N) (fun ok s₂ p => ?_) fun _ _ e => e
    cases ok with
    | true =>
      simp only [if_true] at p ⊢
      exact wpAny_mono p (fun y s₃ p => fin2 _ _ y s₃ (fun y nw hv' => ⟨nw ++ tl, (List.append_assoc _ _ _).symm, hv'⟩) p) fun _ _ e => e
    | false =>
      simp only [Bool.false_eq_true, if_false] at p ⊢
      exact fin2 _ _ _ _ (fun y nw hv' => ⟨nw ++ tl, (List.append_assoc _ _ _).symm, hv'⟩) p
  · rintro ys nx ⟨tl, rfl, hv⟩
    exact fin ys tl hv
theorem src_app {ax : Addr} {its : Array Value} {news : List (Addr × Obj)} (h : LCg.SrcAt h₀ ax its news) : ∀ tl, LCg.SrcAt h₀ ax its (tl ++ news) := by
  intro tl
  rcases h with h | ⟨o, hm, r⟩
  · exact .inl h
  · exact .inr ⟨o, List.mem_append_right _ hm, r⟩
end
end Mine
namespace Mine
/-- the longest run so far, the run at hand -/
def runStep (s : Nat × Nat) (c : Nat) : Nat × Nat := if c = 9 then (max s.1 s.2, 0) else (s.1, s.2 + 1)
def runOf (l : List Nat) : Nat := max (l.foldl runStep (0, 0)).1 (l.foldl runStep (0, 0)).2
theorem run_free : ∀ (p : List Nat) (m k : Nat), 9 ∉ p → p.foldl runStep (m, k) = (m, k + p.length)
  | [], m, k, _ => rfl
  | a :: r, m, k, h => by
    have h1 : ¬ a = 9 := fun e => h (e ▸ .head _)
    have h2 : 9 ∉ r := fun e => h (.tail _ e)
    rw [List.foldl_cons, show runStep (m, k) a = (m, k + 1) by unfold runStep; rw [if_neg h1], run_free r m (k + 1) h2, List.length_cons]
    rw [show k + 1 + r.length = k + (r.length + 1) by omega]
theorem greatest : ∀ (q : Str) (r : List Str), ∃ M', (∃ p ∈ q :: r, M' = p.length) ∧ ∀ p ∈ q :: r, p.length ≤ M'
  | q, [] => ⟨q.length, ⟨q, .head _, rfl⟩, fun p hp => by rw [List.mem_singleton.mp hp]; exact Nat.le_refl _⟩
  | q, z :: r => by
    obtain ⟨M', ⟨p', hp', e'⟩, hl'⟩ := greatest z r
    by_cases hc : q.length ≤ M'
    · refine ⟨M', ⟨p', .tail _ hp', e'⟩, fun p hp => ?_⟩
      rcases List.mem_cons.mp hp with rfl | hp
      · exact hc
      · exact hl' p hp
    · refine ⟨q.length, ⟨q, .head _, rfl⟩, fun p hp => ?_⟩
      rcases List.mem_cons.mp hp with rfl | hp
      · exact Nat.le_refl _
      · have := hl' p hp; omega
theorem run_join : ∀ (ps : List Str) (m : Nat), ps ≠ [] → (∀ p ∈ ps, 9 ∉ p.cps.toList) → ∀ M : Nat, (∃ p ∈ ps, M = p.length) → (∀ p ∈ ps, p.length ≤ M) →
    max ((Str.join ⟨#[9]⟩ ps).cps.toList.foldl runStep (m, 0)).1 ((Str.join ⟨#[9]⟩ ps).cps.toList.foldl runStep (m, 0)).2 = max m M
  | [], _, h, _, _, _, _ => absurd rfl h
  | [p], m, _, hf, M, ⟨q, hq, hM⟩, _ => by
    rw [List.mem_singleton] at hq
    subst hq
    show max (q.cps.toList.foldl runStep (m, 0)).1 (q.cps.toList.foldl runStep (m, 0)).2 = _
    rw [run_free _ _ _ (hf q (.head _)), hM]
    simp [PySem.Str.length]
  | p :: q :: r, m, _, hf, M, hM, hle => by
    have e : (Str.join ⟨#[9]⟩ (p :: q :: r)).cps.toList = p.cps.toList ++ (9 :: (Str.join ⟨#[9]⟩ (q :: r)).cps.toList) := by
      show (p ++ ⟨#[9]⟩ ++ Str.join ⟨#[9]⟩ (q :: r)).cps.toList = _
      rw [PySem.Str.cps_append, PySem.Str.cps_append]
      simp
    rw [e, List.foldl_append, run_free _ _ _ (hf p (.head _)), List.foldl_cons]
    have e2 : runStep (m, 0 + p.cps.toList.length) 9 = (max m p.length, 0) := by
      unfold runStep; rw [if_pos rfl]; simp [PySem.Str.length]
    rw [e2]
    -- the rest's greatest
    obtain ⟨M', hM', hle'⟩ := greatest q r
    rw [run_join (q :: r) (max m p.length) (by simp) (fun x hx => hf x (.tail _ hx)) M' hM' hle']
    have h1 := hle p (.head _)
    obtain ⟨a, ha, ea⟩ := hM
    obtain ⟨b, hb, eb⟩ := hM'
    have h2 := hle b (.tail _ hb)
    rcases List.mem_cons.mp ha with rfl | ha
    · omega
    · have h3 := hle' a ha
      omega
theorem run_split (x : Str) (M : Nat) (hm : ∃ p ∈ Txt.split x (Str.ofString "\t"), M = p.length) (hle : ∀ p ∈ Txt.split x (Str.ofString "\t"), p.length ≤ M) : M = runOf x.cps.toList := by
  have et : Str.ofString "\t" = ⟨#[9]⟩ := by decide +kernel
  rw [et] at hm hle
  have h := run_join (Txt.split x ⟨#[9]⟩) 0 (fun e => by obtain ⟨p, hp, _⟩ := hm; rw [e] at hp; cases hp) (StrLaws.split_free x 9) M hm hle
  rw [StrLaws.join_split] at h
  unfold runOf
  omega
end Mine
namespace Mine
open PySem.Spec PyProof.V PySem.Calls
theorem strs_at {vs : List Value} {ts : List Str} (h : StrsAre vs ts) {i : Nat} {v : Value} (hP : vs.toArray[i]? = some v) : ∃ (hlt : i < ts.length) (t : Tok), v = .str ts[i] t := by
  have hP' : vs[i]? = some v := by simpa using hP
  have hl := h.len_eq
  have hlt : i < ts.length := by
    have := (List.getElem?_eq_some_iff.mp hP').1
    omega
  obtain ⟨t, ht⟩ := h.get i ts[i] (by simp [hlt])
  rw [ht] at hP'
  exact ⟨hlt, t, (Option.some.inj hP').symm⟩
theorem ints_at {vs : List Value} {ts : List Int} (h : IntsAre vs ts) {i : Nat} {v : Value} (hP : vs.toArray[i]? = some v) : ∃ (hlt : i < ts.length) (t : Tok), v = .int ts[i] t := by
  have hP' : vs[i]? = some v := by simpa using hP
  have hl := h.length
  have hlt : i < ts.length := by
    have := (List.getElem?_eq_some_iff.mp hP').1
    omega
  obtain ⟨t, ht⟩ := h.get i ts[i] (by simp [hlt])
  rw [ht] at hP'
  exact ⟨hlt, t, (Option.some.inj hP').symm⟩
theorem ints_snoc {vs : List Value} {ns : List Int} {n : Int} {t : Tok} (h : IntsAre vs ns) : IntsAre (vs ++ [.int n t]) (ns ++ [n]) := by
  induction h with
  | nil => exact .cons _ _ .nil
  | cons i t _ ih => exact .cons i t ih
theorem str_src_size {vs : List Value} {ts : List Str} {x : Str} (h : StrsAre vs ts) (h2 : ts.length ≤ x.length + 2) (hx : x.length ≤ 1000) : vs.toArray.size ≤ sizeLine := by
  have h1 := h.len_eq
  rw [sizeLine_eq, List.size_toArray]; omega
theorem take_map {α β : Type} (f : α → β) (l : List α) (i : Nat) (h : i < l.length) : (l.take (i + 1)).map f = (l.take i).map f ++ [f l[i]] := by
  rw [List.take_add_one, List.getElem?_eq_getElem h]
  simp only [Option.toList_some, List.map_append, List.map_cons, List.map_nil]
section
local macro_rules | `(tactic| walk_at "call builtin:max") => `(tactic| (k_here; (with_reducible show wpAny _ _ (call (Value.builtin _) [Value.ref _]) _ _ _); k_dflt (refine' kso_max ?k1 ?k2 ?k3 ?k4 ?k5 ?k6 ?_; (case k1 => k_asm); (case k2 => k_asm); (case k3 => exact News.isList (by k_asm) (by k_mem)); (case k4 => assumption); (case k5 => assumption); (case k6 => with_unfolding_all rfl); k_whole); intro h' M' t' k' F' N' a' b'))
local macro_rules | `(tactic| k_room) => `(tactic| ktr_room)
local macro_rules | `(tactic| walk_at "eval ListComp") => `(tactic| (k_here; k_dflt (refine LCg.ListComp_U (F₀ := by k_asm) (by with_unfolding_all rfl) (by decide) (by rfl) (by decide) (by rfl) ?_)))
local macro_rules | `(tactic| walk_at "CompSrc") => `(tactic| refine Stuck.out ?_)
theorem run_does (w : World) (mean : ExcName → Option Value) (mg mb : Str → Option Value) (news : List (Addr × Obj)) (x : Str) (t : Tok) (hx : x.length ≤ 1000) :
    Does 2 w mean mg mb 99 news [.str x t] (Gives news (fun t => .int (runOf x.cps.toList : Nat) t)) := by
  dsimp only [Does, Gives]
  k_fill
  intro dp un gd cn cs a ccd cl outer A₀ base h₀ L m s Q E B F X N T hk hdp hun hret
  w_top off
  k_with_none
  w_strict (
    refine wpAny_call ?_
    (k_dflt cell_enter)
    k_steps
    unfold Stuck
    (rename StrsAre _ _ => hst); (rename List.map _ _ = Txt.split _ _ => hsp); (rename ∀ a ∈ _, PySem.Str.length a ≤ x.length => hle); (rename Fr _ _ _ _ => lF'); (rename News _ _ _ _ => lN')
    rw [hsp] at hst hle
    (k_dflt refine LCg.CompSrc.ledger (by rfl) lF' lN' (.head _) ?hsz ?_)
    (case hsz => (exact str_src_size hst (split_le x (Str.ofString "\t")) hx))
    intro g
    refine comp_gen (fun i ys tl => tl = [] ∧ IntsAre ys (((Txt.split x (Str.ofString "\t")).take i).map fun r => (r.length : Int))) (src_app (.inr ⟨_, .head _, rfl, _, rfl⟩)) ?step ?fin ⟨rfl, .nil⟩
    (case step =>
      rintro i ys tl v C oC m₂ h tk E' U hi ⟨rfl, hv⟩ hP hC hx2 hCU hn1 hn2 F3 N3
      obtain ⟨hlt, tv, rfl⟩ := strs_at hst hP
      have hlen := hle _ (List.getElem_mem hlt)
      k_steps
      refine cend0 F3 N3 ⟨rfl, ?_⟩
      rw [take_map _ _ _ hlt]
      exact ints_snoc hv)
    (case fin =>
      rintro ys tl ⟨rfl, hv⟩
      rw [List.size_toArray, hst.len_eq, List.take_length] at hv
      have hne : 0 < ((Txt.split x (Str.ofString "\t")).map fun r => (r.length : Int)).length := by rw [List.length_map]; exact split_pos _ _
      k_steps
      rename_i a9 b9 kF kN _ _
      refine cb_retI hret ?_ kF (fun p hp => kN p (.tail _ (.tail _ hp)))
      obtain ⟨r, hr, er⟩ := List.mem_map.mp a9
      have h1 : r.length = runOf x.cps.toList := run_split x r.length ⟨r, hr, rfl⟩ (fun p hp => by
        have := b9 _ (List.mem_map.mpr ⟨p, hp, rfl⟩)
        omega)
      omega))
end
end Mine
namespace Mine
open PySem.Spec PyProof.V PySem.Calls
/-- the column behind a lead, sign by sign -/
def colStep (t : Int) (c : Int) (s : Nat) : Int := if s = 32 then c + 1 else c.fdiv t * t + t
def colOf (t : Int) (l : List Nat) : Int := l.foldl (colStep t) 0
def colsOf (l : List Nat) (n : Nat) : List Int := (List.range n).map fun (j : Nat) => colOf (1 + (j : Int)) l
theorem colsOf_succ (l : List Nat) (n : Nat) : colsOf l (n + 1) = colsOf l n ++ [colOf (1 + (n : Int)) l] := by simp [colsOf, List.range_succ]
theorem colOf_snoc (t : Int) (l : List Nat) (c : Nat) : colOf t (l ++ [c]) = colStep t (colOf t l) c := by simp [colOf]
theorem colsOf_len (l : List Nat) (n : Nat) : (colsOf l n).length = n := by simp [colsOf]
/-- the call makes a list of ints -/
abbrev MakesInts (news : List (Addr × Obj)) (ns : List Int) (h₀ : Heap) (L : Addr) (m : Str → Option Value) (s : Shared) (Q : Value → Shared → Prop) : Prop :=
  ∀ (l : Addr) (vs : List Value) (k : Nat) (h' : Heap) (tk' : Nat), Fr h₀ L h' m → News h₀ L h' ((l, listOf (List.toArray vs) k) :: news) → (∀ p ∈ news, p.1 < l) → IntsAre vs ns → Q (.ref l) { s with heap := h', toks := tk' }
section
local macro_rules | `(tactic| walk_at "pyIter ref") => `(tactic| refine Stuck.out ?_)
local macro_rules | `(tactic| walk_at "pyIter str") => `(tactic| refine Stuck.out ?_)
local macro_rules | `(tactic| walk_at "exec For Name Call cons nil") => `(tactic| (k_here; (rename Fr _ _ _ _ => lF'); (with_unfolding_all refine' For_invVF lF' ?k1 ?k2 ?_; (case k1 => exact rfl); (case k2 => exact rfl); k_whole)))
local macro_rules | `(tactic| walk_at "exec For Name Name cons nil") => `(tactic| (k_here; (rename Fr _ _ _ _ => lF'); (with_unfolding_all refine' For_invVF lF' ?k1 ?k2 ?_; (case k1 => exact rfl); (case k2 => exact rfl); k_whole)))
local macro_rules | `(tactic| k_room) => `(tactic| ktr_room)
local macro_rules | `(tactic| k_all) => `(tactic| first | assumption | exact ne_of_allLt (by assumption))
theorem cols_does (w : World) (mean : ExcName → Option Value) (mg mb : Str → Option Value) (news : List (Addr × Obj)) (x : Str) (t : Tok) (n : Nat) (u : Tok) (hx : x.length ≤ 1000) (hn : n ≤ 1000) :
    Does 2 w mean mg mb 94 news [.str x t, .int n u] (MakesInts news (colsOf x.cps.toList n)) := by
  dsimp only [Does, MakesInts]
  k_fill
  intro dp un gd cn cs a ccd cl outer A₀ base h₀ L m s Q E B F X N T hk hdp hun hret
  w_top off
  k_with_none
  w_strict (
    refine wpAny_call ?_
    (k_dflt cell_enter)
    k_steps
    unfold Stuck
    (rename IsRange _ _ _ _ _ _ _ _ => rgX); (rename Fr _ _ _ _ => lF'); (rename News _ _ _ _ => lN')
    (rename ∀ p ∈ news, p.1 < _ => hal)
    (with_unfolding_all refine' range_ints (Str.ofString "column") (Str.ofString "sign") (fun i => colsOf x.cps.toList i) ?hh rgX ?hsm ?hsz lF' lN' (fun q hq => Nat.ne_of_lt (hal q hq)) ?hp ?turn ?done); (case hh => rfl); (case hsm => exact small_one (by omega) (by omega) (by omega) (by omega)); (case hsz => exact rangeSize_nat _ _); (case hp => rfl); clear lF' lN'
    (case turn =>
      intro i vs k v1 v2 t h tk T hi hP hs hT F3 N3
      k_steps
      unfold Stuck
      (rename Fr _ _ _ _ => lF'); (rename News _ _ _ _ => lN')
      (with_unfolding_all refine' text_int (Str.ofString "column") (fun j c => c = colOf (1 + (i : Int)) (x.cps.toList.take j)) ?hh2 lF' lN' ?hz2 ?hp2 ?turn2 ?done2); (case hh2 => rfl); (case hz2 => rfl); (case hp2 => rfl); clear lF' lN'
      (case turn2 =>
        intro j ch c tc t h tk T2 hj hP2 hs2 F4 N4
        have hj' : x.cps.toList[j]? = some ch := by simpa using hj
        have htk := take_snoc hj'
        k_steps
        · rename_i F5 N5
          (rename ((⟨#[ch]⟩ : Str) == Str.ofString " ") = true => hq)
          refine int_next F5 N5 rfl ?_ ?_
          · intro y e0 e1
            simp only [if_neg e0, if_neg e1]
          · show c + 1 = colOf (1 + (i : Int)) (x.cps.toList.take (j + 1))
            rw [htk, colOf_snoc, ← hP2, sign_sp hq]; rfl
        · rename_i F5 N5
          (rename ((⟨#[ch]⟩ : Str) == Str.ofString " ") = false => hq)
          refine int_next F5 N5 rfl ?_ ?_
          · intro y e0 e1
            simp only [if_neg e0, if_neg e1]
          · have hne : ¬ ch = 32 := fun e => by rw [e] at hq; exact absurd hq (by decide +kernel)
            have e1 : colOf (1 + (i : Int)) (x.cps.toList.take (j + 1)) = c.fdiv (1 + (i : Int)) * (1 + (i : Int)) + (1 + (i : Int)) := by
              rw [htk, colOf_snoc, ← hP2]; unfold colStep; rw [if_neg hne]
            exact e1.symm)
      (case done2 =>
        intro c tc u h tk hP2 F4 N4
        have hfull : x.cps.toList.take x.cps.size = x.cps.toList := List.take_of_length_le (by simp)
        rw [hfull] at hP2
        have hvl := hP.length
        rw [colsOf_len] at hvl
        k_steps
        (rename Fr _ _ _ _ => F5); (rename News _ _ _ _ => N5)
        rw [List.push_toArray] at N5
        refine ints_next F5 N5 hT ?_ ?_
        · intro y e0 e1 e2
          simp only [if_neg e0, if_neg e1, if_neg e2]
        · rw [colsOf_succ, ← hP2]
          exact ints_snoc hP))
    (case done =>
      intro vs k v1 v2 u h tk hP F3 N3
      have e : ((n : Int) + 1 - 1).toNat = n := by omega
      rw [e] at hP
      k_steps
      rename_i kF kN _ _
      exact hret _ _ _ _ _ kF kN hal hP))
end
end Mine
namespace Mine
open PySem.Spec PyProof.V PySem.Calls

/-- a turn's end of a loop whose target is a cell c -/
def CNext (h₀ : Heap) (L c : Addr) (own : List (Addr × Obj)) (J : (Str → Option Value) → List (Addr × Obj) → Prop) (s₁ s₂ : Shared) : Prop :=
  ∃ h' tk m₂ nx oc, s₂ = { s₁ with heap := h', toks := tk } ∧ Fr h₀ L h' m₂ ∧ News h₀ L h' ((c, oc) :: (nx ++ own)) ∧ (∃ v', oc.data = .cell v') ∧ (∀ p ∈ nx, ∀ q ∈ own, p.1 ≠ q.1) ∧ (∀ p ∈ nx, p.1 ≠ c) ∧ J m₂ nx
def CPost (h₀ : Heap) (L c : Addr) (own : List (Addr × Obj)) (J : (Str → Option Value) → List (Addr × Obj) → Prop) (s₁ : Shared) (Q : Flow → Shared → Prop) (f : Flow) (s₂ : Shared) : Prop :=
  match f with
  | .ret v => Q (.ret v) s₂
  | .brk => Q .next s₂
  | _ => CNext h₀ L c own J s₁ s₂
section
variable {prog : Program} {w : World} {A : Around} {s : Shared} {env : Env} {h₀ : Heap}
theorem forLoop_cell {R : Result → Shared → Prop} {x : Str} {px : Pos} {body : List Stmt} {I c : Addr} {fp wr : List Addr} {n : Nat} {P : Nat → Value → Prop} {St : Nat → Heap → Prop} {m : Str → Option Value} {oc₀ : Obj}
    {news : List (Addr × Obj)} (W : Walks prog w A I fp wr n P St) (hk : env.scope.kind = .function) (hx : env.kindOf x = some .cell) (hc : env.cells.lookup x = some c)
    (hLf : env.locals ∉ fp) (hcf : c ∉ fp) (hwr : ∀ b ∈ wr, h₀.get? b = none) (hlive : ∀ i h, St i h → ∀ b ∈ fp, ∃ o, h.get? b = some o) (hnf : ∀ p ∈ news, p.1 ∉ fp)
    (hst : St 0 s.heap) (F : Fr h₀ env.locals s.heap m) (N : News h₀ env.locals s.heap ((c, oc₀) :: news)) (hoc : ∃ v', oc₀.data = .cell v') (hnc : ∀ p ∈ news, p.1 ≠ c)
    (J : Nat → (Str → Option Value) → List (Addr × Obj) → Prop) (h0 : J 0 m news)
    (step : ∀ i v m₁ nx oc h tk own, i < n → P i v → J i m₁ nx → oc.data = .cell (some v) → (∀ p ∈ nx, ∀ q ∈ own, p.1 ≠ q.1) → (∀ p ∈ nx, p.1 ≠ c) → (∀ q ∈ own, q.1 ≠ c) →
      Fr h₀ env.locals h m₁ → News h₀ env.locals h ((c, oc) :: (nx ++ own)) →
      wpAny (model prog w) A (execs body env) (CPost h₀ env.locals c own (J (i + 1)) { s with heap := h, toks := tk } fun f s' => R (.ok f) s') (notedBy (model prog w) A env fun e s' => R (.error e) s') { s with heap := h, toks := tk })
    (hR : ∀ h' tk m' nx oc, Fr h₀ env.locals h' m' → News h₀ env.locals h' ((c, oc) :: nx) → (∃ v', oc.data = .cell v') → (∀ p ∈ nx, p.1 ≠ c) → J n m' nx → R (.ok .next) { s with heap := h', toks := tk }) :
    codeAny (model prog w) A (.forLoop (.Name x px) (.ref I) body [] env) R s := by
  have hLw : env.locals ∉ wr := fun h => hLf (W.sub _ h)
  have hcw : c ∉ wr := fun h => hcf (W.sub _ h)
  have old : ∀ b o, h₀.get? b = some o → b ∉ wr := fun b o e hb => by rw [hwr b hb] at e; cases e
  refine codeAny_forLoop
    (fun k s' => ∃ h' tk m' nx oc i, s' = { s with heap := h', toks := tk } ∧ St i h' ∧ Fr h₀ env.locals h' m' ∧ News h₀ env.locals h' ((c, oc) :: nx) ∧ (∃ v', oc.data = .cell v') ∧ (∀ p ∈ nx, p.1 ∉ wr) ∧ (∀ p ∈ nx, h₀.get? p.1 = none → ∀ b ∈ fp, b ∉ wr → p.1 ≠ b) ∧ (∀ p ∈ nx, p.1 ≠ c) ∧ J i m' nx ∧ i ≤ n ∧ k = n + 1 - i) ?_ (n + 1)
    ⟨s.heap, s.toks, m, news, oc₀, 0, rfl, hst, F, N, hoc, fun p hp h => hnf p hp (W.sub _ h), fun p hp _ b hb _ e => hnf p hp (e ▸ hb), hnc, h0, Nat.zero_le _, rfl⟩
  rintro k s' ⟨h', tk, m', nx, oc, i, rfl, hst', F', N', ⟨v', hov⟩, hnw', hnf', hnc', hJ, hi, rfl⟩
  have next : ∀ h₁ : Heap, (∀ b o, b ∉ wr → h'.get? b = some o → h₁.get? b = some o) → Fr h₀ env.locals h₁ m' ∧ News h₀ env.locals h₁ ((c, oc) :: nx) := fun h₁ hk₁ =>
    ⟨⟨F'.ns.at' fun o e => hk₁ _ o hLw e, fun b o e => hk₁ b o (old b o e) (F'.keep b o e), F'.above⟩, fun p hp => ⟨hk₁ _ _ (by
      rcases List.mem_cons.mp hp with rfl | hp
      · exact hcw
      · exact hnw' p hp) (N' p hp).1, (N' p hp).2⟩⟩
  by_cases hlt : i < n
  · refine W.item i _ _ _ hlt hst' fun v h₁ tk₁ hP hst₁ hk₁ => ?_
    obtain ⟨F₁, N₁⟩ := next h₁ hk₁
    have hcN := N₁ (c, oc) (.head _)
    refine wpAny_assign_Name (wpAny_storeName_cell hk hx hc ⟨oc, hcN.1, hov⟩ fun h₂ hv₂ hs₂ => ?_)
    obtain ⟨oc₂, hoc₂, hod₂⟩ := hv₂
    have F₂ : Fr h₀ env.locals h₂ m' := F₁.change hs₂ hcN.2.1 hcN.2.2
    have Nown : News h₀ env.locals h₂ (ownOf h₀ fp h₂) := news_ownOf hLf
    have hst₂ : St (i + 1) h₂ := W.frame _ _ _ hst₁ fun b hb o e => (hs₂.2 b fun q => hcf (q ▸ hb)).trans e
    have hownc : ∀ q ∈ ownOf h₀ fp h₂, q.1 ≠ c := fun q hq e => hcf (e ▸ ownOf_sub q hq)
    have hsep : ∀ p ∈ nx, ∀ q ∈ ownOf h₀ fp h₂, p.1 ≠ q.1 := fun p hp q hq e => by
      by_cases hw : q.1 ∈ wr
      · exact hnw' p hp (e ▸ hw)
      · exact hnf' p hp (N₁ p (.tail _ hp)).2.2 q.1 (ownOf_sub q hq) hw e
    have N₂ : News h₀ env.locals h₂ ((c, oc₂) :: (nx ++ ownOf h₀ fp h₂)) := fun p hp => by
      rcases List.mem_cons.mp hp with rfl | hp
      · exact ⟨hoc₂, hcN.2.1, hcN.2.2⟩
      · rcases List.mem_append.mp hp with hp | hp
        · exact ⟨(hs₂.2 p.1 (hnc' p hp)).trans (N₁ p (.tail _ hp)).1, (N₁ p (.tail _ hp)).2⟩
        · exact Nown p hp
    refine wpAny_mono (step i v m' nx oc₂ h₂ _ (ownOf h₀ fp h₂) hlt hP hJ hod₂ hsep hnc' hownc F₂ N₂) (fun f s₃ h₃ => ?_) fun _ _ e => e
    have fin : CNext h₀ env.locals c (ownOf h₀ fp h₂) (J (i + 1)) { s with heap := h₂, toks := tk₁ } s₃ → ∃ m, m < n + 1 - i ∧ ∃ h' tk m' nx oc j, s₃ = { s with heap := h', toks := tk } ∧ St j h' ∧ Fr h₀ env.locals h' m' ∧ News h₀ env.locals h' ((c, oc) :: nx) ∧ (∃ v', oc.data = .cell v') ∧ (∀ p ∈ nx, p.1 ∉ wr) ∧ (∀ p ∈ nx, h₀.get? p.1 = none → ∀ b ∈ fp, b ∉ wr → p.1 ≠ b) ∧ (∀ p ∈ nx, p.1 ≠ c) ∧ J j m' nx ∧ j ≤ n ∧ m = n + 1 - j := by
      rintro ⟨h₃', tk₃, m₂, nx₂, oc₃, rfl, F₃, N₃, hov₃, hap₃, hnc₃, hJ₃⟩
      have hown : ∀ b ∈ fp, h₀.get? b = none → ∀ o, h₂.get? b = some o → (b, o) ∈ ownOf h₀ fp h₂ := fun b hb hn o e => mem_ownOf hb hn e
      refine ⟨n + 1 - (i + 1), by omega, h₃', tk₃, m₂, nx₂, oc₃, i + 1, rfl, ?_, F₃, fun p hp => N₃ p ((List.mem_cons.mp hp).elim (fun e => e ▸ .head _) fun h => .tail _ (List.mem_append_left _ h)), hov₃, ?_, ?_, hnc₃, hJ₃, hlt, rfl⟩
      · refine W.frame _ _ _ hst₂ fun b hb o e => ?_
        cases hn : h₀.get? b with
        | some o₀ =>
          have : o₀ = o := by have := F₂.keep b o₀ hn; rw [e] at this; exact (Option.some.inj this).symm
          exact this ▸ F₃.keep b o₀ hn
        | none => exact (N₃ _ (.tail _ (List.mem_append_right _ (hown b hb hn o e)))).1
      · exact off_of_apart (h₀ := h₀) (h := h₂) W.sub hwr (fun b hb => hlive _ _ hst₂ b (W.sub b hb)) hown hap₃
      · intro p hp hn b hb hbw e
        cases hq : h₀.get? b with
        | some o₀ => rw [e, hq] at hn; cases hn
        | none =>
          obtain ⟨o, hb2⟩ := hlive _ _ hst₂ b hb
          exact hap₃ p hp (b, o) (hown b hb hq o hb2) e
    cases f with
    | ret v => exact h₃
    | brk => exact h₃
    | cont => exact fin h₃
    | next => exact fin h₃
  · have hin : i = n := by omega
    subst hin
    refine W.done _ _ _ hst' fun h₁ tk₁ hk₁ => wpAny_execs_nil ?_
    obtain ⟨F₁, N₁⟩ := next h₁ hk₁
    exact hR h₁ tk₁ m' nx oc F₁ N₁ ⟨v', hov⟩ hnc' hJ

variable {E : Value → Shared → Prop} {x : Str} {body : List Stmt} {Q : Flow → Shared → Prop}
/-- the head of such a loop -/
def LoopAtC (prog : Program) (w : World) (A : Around) (h₀ : Heap) (env : Env) (x : Str) (px : Pos) (body : List Stmt) (Q : Flow → Shared → Prop) (E : Value → Shared → Prop) (it : Value) (s₂ : Shared) : Prop :=
  codeAny (model prog w) A (.forLoop (.Name x px) it body [] env) (fun r s' => match r with | .ok f => Q f s' | .error e => cameBackBy (model prog w) A env E e s') s₂
theorem For_cell {px pos : Pos} {iter : Expr} (h₀ : Heap)
    (h : wpAny (model prog w) A (eval iter env) (fun xv s₁ => wpAny (model prog w) A (pyIter xv) (fun it s₂ => LoopAtC prog w A h₀ env x px body Q E it s₂) E s₁) E s)
    (hs : ∀ x, foldedSetIterable iter env x = pure x := by intro _; rfl) :
    wpAny (model prog w) A (exec (.For (.Name x px) iter body [] pos) env) Q E s := wpAny_For h hs
/-- a loop over a range by ones, its target a cell -/
theorem range_cell {px : Pos} {r c : Addr} {a₀ b₀ : Int} {t₀ u₀ v₀ : Tok} {n : Nat} {m₀ : Str → Option Value} {news : List (Addr × Obj)} {oc₀ : Obj} (J : Nat → (Str → Option Value) → List (Addr × Obj) → Prop)
    (hh : A.handled = none) (hk : env.scope.kind = .function) (hx : env.kindOf x = some .cell) (hc : env.cells.lookup x = some c)
    (hr : IsRange s.heap r a₀ b₀ 1 t₀ u₀ v₀) (hsmall : Builtin.Range.small a₀ b₀ 1 = true) (hn : Builtin.Range.rangeSize a₀ b₀ 1 = (n : Int))
    (F : Fr h₀ env.locals s.heap m₀) (N : News h₀ env.locals s.heap ((c, oc₀) :: news)) (hoc : ∃ v', oc₀.data = .cell v') (hnc : ∀ p ∈ news, p.1 ≠ c) (hj : J 0 m₀ news)
    (hE : PassesOwn (model prog w) A env E)
    (turn : ∀ i t m₁ nx oc h tk own, i < n → J i m₁ nx → oc.data = .cell (some (.int (a₀ + (i : Nat)) t)) → (∀ p ∈ nx, ∀ q ∈ own, p.1 ≠ q.1) → (∀ p ∈ nx, p.1 ≠ c) → (∀ q ∈ own, q.1 ≠ c) → Fr h₀ env.locals h m₁ → News h₀ env.locals h ((c, oc) :: (nx ++ own)) →
      wpAny (model prog w) A (execs body env) (CPost h₀ env.locals c own (J (i + 1)) { s with heap := h, toks := tk } Q) E { s with heap := h, toks := tk })
    (done : ∀ m₁ nx oc h tk, J n m₁ nx → (∃ v', oc.data = .cell v') → Fr h₀ env.locals h m₁ → News h₀ env.locals h ((c, oc) :: nx) → Q .next { s with heap := h, toks := tk }) :
    wpAny (model prog w) A (pyIter (.ref r)) (fun it s₂ => LoopAtC prog w A h₀ env x px body Q E it s₂) E s := by
  refine wpAny_pyIter_range hr hsmall ?_
  have W : Walks prog w A s.heap.objs.size [s.heap.objs.size] [s.heap.objs.size] n (fun i v => i < n ∧ ∃ t, v = .int (a₀ + i * 1) t)
      (fun i h => IsRangeIter h s.heap.objs.size (a₀ + (i : Nat) * 1) ((n : Int) - (i : Nat)) 1) := (Walks.range hh _ a₀ 1 n).bound
  have hnew : ∀ p ∈ (c, oc₀) :: news, p.1 ∉ [s.heap.objs.size] := fun p hp hI => absurd (Heap.lt_size (N p hp).1) ((List.mem_singleton.mp hI) ▸ Nat.lt_irrefl _)
  refine forLoop_cell W hk hx hc ?_ (hnew _ (.head _)) ?_ ?_ (fun p hp => hnew p (.tail _ hp)) (by show IsRangeIter _ _ _ _ _; rw [hn]; simpa using Heap.get?_push_size _ rfl) (F.push _) (fun p hp => ⟨Heap.get?_push_of_some _ (N p hp).1, (N p hp).2⟩) hoc hnc J hj ?_ ?_
  · intro hm
    exact absurd F.ns.lt ((List.mem_singleton.mp hm) ▸ Nat.lt_irrefl _)
  · intro b hb
    rw [List.mem_singleton.mp hb]
    exact next_is_new F
  · intro i h st b hb
    rw [List.mem_singleton.mp hb]
    exact ⟨_, st⟩
  · rintro i v m₁ nx oc h tk own hi ⟨_, t, rfl⟩ hJ hod hoff hnc' hown F₁ N₁
    have e1 : a₀ + (i : Int) * 1 = a₀ + (i : Int) := by omega
    rw [e1] at hod
    exact wpAny_passesOwn hE (turn i t m₁ nx oc h tk own hi hJ hod hoff hnc' hown F₁ N₁)
  · intro h' tk m' nx oc F' N' hov _ hJ
    exact done m' nx oc h' tk hJ hov F' N'
/-- a loop over a list of ints on the ledger, its target a cell -/
theorem list_cell {px : Pos} {l c : Addr} {vs : List Value} {ns : List Int} {k : Nat} {m₀ : Str → Option Value} {news : List (Addr × Obj)} {oc₀ : Obj} (J : Nat → (Str → Option Value) → List (Addr × Obj) → Prop)
    (hh : A.handled = none) (hk : env.scope.kind = .function) (hx : env.kindOf x = some .cell) (hc : env.cells.lookup x = some c)
    (hi : IntsAre vs ns) (F : Fr h₀ env.locals s.heap m₀) (N : News h₀ env.locals s.heap ((c, oc₀) :: (l, listOf (List.toArray vs) k) :: news)) (hoc : ∃ v', oc₀.data = .cell v') (hlc : l ≠ c) (hnc : ∀ p ∈ news, p.1 ≠ c) (hnl : ∀ p ∈ news, p.1 ≠ l) (hj : J 0 m₀ news)
    (hE : PassesOwn (model prog w) A env E)
    (turn : ∀ i v t m₁ nx oc h tk own, ns[i]? = some v → J i m₁ nx → oc.data = .cell (some (.int v t)) → (∀ p ∈ nx, ∀ q ∈ own, p.1 ≠ q.1) → (∀ p ∈ nx, p.1 ≠ c) → (∀ q ∈ own, q.1 ≠ c) → Fr h₀ env.locals h m₁ → News h₀ env.locals h ((c, oc) :: (nx ++ own)) →
      wpAny (model prog w) A (execs body env) (CPost h₀ env.locals c own (J (i + 1)) { s with heap := h, toks := tk } Q) E { s with heap := h, toks := tk })
    (done : ∀ m₁ nx oc h tk, J ns.length m₁ nx → (∃ v', oc.data = .cell v') → Fr h₀ env.locals h m₁ → News h₀ env.locals h ((c, oc) :: nx) → Q .next { s with heap := h, toks := tk }) :
    wpAny (model prog w) A (pyIter (.ref l)) (fun it s₂ => LoopAtC prog w A h₀ env x px body Q E it s₂) E s := by
  have hls : s.heap.IsList l vs.toArray := News.isList N (.tail _ (.head _))
  have hlt : l < s.heap.objs.size := Heap.lt_size (N _ (.tail _ (.head _))).1
  have hne : l ≠ s.heap.objs.size := Nat.ne_of_lt hlt
  refine wpAny_pyIter_list hls ?_
  have W := Walks.list (prog := prog) (w := w) hh s.heap.objs.size l hne vs.toArray
  have hlen : vs.toArray.size = ns.length := by simp [hi.length]
  rw [hlen] at W
  have hnew : ∀ p ∈ (c, oc₀) :: (l, listOf (List.toArray vs) k) :: news, p.1 ≠ s.heap.objs.size := fun p hp e => absurd (Heap.lt_size (N p hp).1) (e ▸ Nat.lt_irrefl _)
  refine forLoop_cell W hk hx hc ?_ ?_ ?_ ?_ ?_ ⟨⟨_, Heap.get?_push_size _ rfl, rfl, rfl⟩, hls.at fun o e => Heap.get?_push_of_some _ e⟩ (F.push _) (news := news) (fun p hp => ?_) hoc hnc J hj ?_ ?_
  · intro hm
    rcases List.mem_cons.mp hm with e | hm
    · exact absurd F.ns.lt (e ▸ Nat.lt_irrefl _)
    · exact (N _ (.tail _ (.head _))).2.1 (List.mem_singleton.mp hm).symm
  · intro hm
    rcases List.mem_cons.mp hm with e | hm
    · exact hnew _ (.head _) e
    · exact hlc (List.mem_singleton.mp hm).symm
  · intro b hb
    rw [List.mem_singleton.mp hb]
    exact next_is_new F
  · rintro i h ⟨⟨o, ho, _⟩, ⟨o', ho', _⟩⟩ b hb
    rcases List.mem_cons.mp hb with rfl | hb
    · exact ⟨o, ho⟩
    · rw [List.mem_singleton.mp hb]; exact ⟨o', ho'⟩
  · intro p hp hm
    rcases List.mem_cons.mp hm with e | hm
    · exact hnew p (.tail _ (.tail _ hp)) e
    · exact hnl p hp (List.mem_singleton.mp hm)
  · rcases List.mem_cons.mp hp with rfl | hp
    · exact ⟨Heap.get?_push_of_some _ (N _ (.head _)).1, (N _ (.head _)).2⟩
    · exact ⟨Heap.get?_push_of_some _ (N p (.tail _ (.tail _ hp))).1, (N p (.tail _ (.tail _ hp))).2⟩
  · rintro i v m₁ nx oc h tk own hin hP hJ hod hoff hnc' hown F₁ N₁
    obtain ⟨t, hx⟩ := hi.get i ns[i] (by simp [hin])
    have hv : v = .int ns[i] t := by
      have hP' : vs[i]? = some v := by simpa using hP
      rw [hx] at hP'; exact (Option.some.inj hP').symm
    subst hv
    exact wpAny_passesOwn hE (turn i ns[i] t m₁ nx oc h tk own (by simp [hin]) hJ hod hoff hnc' hown F₁ N₁)
  · intro h' tk m' nx oc F' N' hov _ hJ
    exact done m' nx oc h' tk hJ hov F' N'
end
end Mine
namespace Mine
open PySem.Spec PyProof.V PySem.Calls
/-- a lead of the law's -/
structure LeadOk (l : List Nat) : Prop where
  ws : l.all isWs = true
  len : l.length ≤ 20
theorem seg_ws (f : Int) : (segL f).all isWs = true := by
  unfold segL
  rw [List.all_append, Bool.and_eq_true]
  constructor
  · exact List.all_eq_true.mpr fun x hx => by rw [(List.mem_replicate.mp hx).2]; rfl
  · exact List.all_eq_true.mpr fun x hx => by rw [(List.mem_replicate.mp hx).2]; rfl
theorem leadTo_ws (n : Int) : ∀ i, (leadTo n i).all isWs = true
  | 0 => rfl
  | i + 1 => by show (leadTo n i ++ segL (digit n i)).all isWs = true; rw [List.all_append, leadTo_ws n i, seg_ws]; rfl
theorem lead_ok (n : Int) : LeadOk (leadL n) := ⟨leadTo_ws n 4, leadTo_len n 4⟩
section
variable {prog : Program} {w : World} {A : Around} {E : Value → Shared → Prop} {s : Shared} {h₀ : Heap} {L l : Addr} {m : Str → Option Value} {news : List (Addr × Obj)} {vs : List Value} {ns : List Int} {Q : Value → Shared → Prop} {t u : Tok}
/-- a sum of ints is some int -/
theorem sum_some (F : Fr h₀ L s.heap m) (N : News h₀ L s.heap news) (hh : A.handled = none) (hl : s.heap.IsList l vs.toArray) (hi : IntsAre vs ns)
    (h : ∀ (S : Int) h' tk t', Fr h₀ L h' m → News h₀ L h' news → Q (.int S t') { s with heap := h', toks := tk }) : wpAny (model prog w) A (call (.builtin "sum") [.ref l]) Q E s :=
  LSm.sum_ints F N hh hl hi (h ns.sum)
theorem pick_list {lo hi st : Option Int} (N : News h₀ L s.heap news) (hm : (l, ({ cls := .type "list", data := .seq (slicePick vs.toArray lo hi st) } : Obj)) ∈ news) : s.heap.IsList l (slicePick vs.toArray lo hi st).toList.toArray := by
  have := News.isList N hm
  simpa using this
theorem sum_pick {lo hi st : Option Int} (F : Fr h₀ L s.heap m) (N : News h₀ L s.heap ((l, ({ cls := .type "list", data := .seq (slicePick vs.toArray lo hi st) } : Obj)) :: news)) (hh : A.handled = none) (hi : IntsAre vs ns)
    (h : ∀ (S : Int) h' tk t', Fr h₀ L h' m → News h₀ L h' news → Q (.int S t') { s with heap := h', toks := tk }) : wpAny (model prog w) A (call (.builtin "sum") [.ref l]) Q E s :=
  sum_some F N hh (pick_list N (.head _)) (hi.pick _ _ _) fun S h' tk t' F' N' => h S h' tk t' F' fun p hp => N' p (.tail _ hp)
theorem mul_ok {x : Str} {n : Int} (hx : x.length = 1) (h0 : 0 ≤ n) (h1 : n ≤ 1000) : MulOk x n := by
  unfold MulOk
  refine ⟨?_, fun h2 _ h3 => ?_, fun _ _ => ?_⟩
  · rw [decide_eq_false (by omega), decide_eq_false (by omega)]; rfl
  · have h4 : (1000 : Int) ≤ (2 ^ 63 - 1) / n := by
      rw [Int.le_ediv_iff_mul_le (by omega)]
      omega
    omega
  · unfold PySem.Builtin.Str.tooLong
    refine decide_eq_false ?_
    rw [sizeLine_eq, hx]; omega
theorem mul_sp {n : Int} (h0 : 0 ≤ n) (h1 : n ≤ 1000) (h : ∀ t' k, Q (.str (strOf (List.replicate n.toNat 32)) t') { s with toks := k }) : wpAny (model prog w) A (binaryOp .Mult (.str (Str.ofString " ") t) (.int n u)) Q E s := by
  have e : Txt.mul (Str.ofString " ") n = strOf (List.replicate n.toNat 32) := by
    have h1 : Str.ofString " " = ⟨#[32]⟩ := by decide +kernel
    refine PySem.Str.ext' (Array.toList_inj.mp ?_)
    rw [h1, mul_one_list]; simp [strOf]
  exact SB.mul (mul_ok (by decide +kernel) h0 h1) fun t' k => by rw [e]; exact h t' k
theorem mul_tab {n : Int} (h0 : 0 ≤ n) (h1 : n ≤ 1000) (h : ∀ t' k, Q (.str (strOf (List.replicate n.toNat 9)) t') { s with toks := k }) : wpAny (model prog w) A (binaryOp .Mult (.str (Str.ofString "\t") t) (.int n u)) Q E s := by
  have e : Txt.mul (Str.ofString "\t") n = strOf (List.replicate n.toNat 9) := by
    have h1 : Str.ofString "\t" = ⟨#[9]⟩ := by decide +kernel
    refine PySem.Str.ext' (Array.toList_inj.mp ?_)
    rw [h1, mul_one_list]; simp [strOf]
  exact SB.mul (mul_ok (by decide +kernel) h0 h1) fun t' k => by rw [e]; exact h t' k
theorem add_of {x y : List Nat} (hx : x.length ≤ 1000) (hy : y.length ≤ 1000) (h : ∀ t' tk, Q (.str (strOf (x ++ y)) t') { s with toks := tk }) : wpAny (model prog w) A (binaryOp .Add (.str (strOf x) t) (.str (strOf y) u)) Q E s := by
  refine PyProof.Rows.add_str (fun t' tk => ?_) (by rw [sizeLine_eq, strOf_len, strOf_len]; omega)
  rw [strOf_app]; exact h t' tk
theorem add_x1 {x : List Nat} (hx : x.length ≤ 1000) (h : ∀ t' tk, Q (.str (strOf (x ++ 120 :: [32, 9])) t') { s with toks := tk }) : wpAny (model prog w) A (binaryOp .Add (.str (strOf x) t) (.str (Str.ofString "x \t") u)) Q E s := by
  have e : Str.ofString "x \t" = strOf [120, 32, 9] := by decide +kernel
  rw [e]
  exact add_of hx (by decide) h
theorem add_x2 {x : List Nat} (hx : x.length ≤ 1000) (h : ∀ t' tk, Q (.str (strOf (x ++ 120 :: [9])) t') { s with toks := tk }) : wpAny (model prog w) A (binaryOp .Add (.str (strOf x) t) (.str (Str.ofString "x\t") u)) Q E s := by
  have e : Str.ofString "x\t" = strOf [120, 9] := by decide +kernel
  rw [e]
  exact add_of hx (by decide) h
/-- how many tabs -/
def tabsOf (l : List Nat) : Int := Txt.count (strOf l) (Str.ofString "\t")
theorem count_of {l : List Nat} (h : Q (.int (tabsOf l) s.toks) { s with toks := s.toks + 1 }) : wpAny (model prog w) A (call (.builtin "str.count") [.str (strOf l) t, .str (Str.ofString "\t") u]) Q E s := SC.count h
theorem max_of {a b : Int} (hh : A.handled = none) (F : Fr h₀ L s.heap m) (N : News h₀ L s.heap news)
    (h : ∀ h' tk t', Fr h₀ L h' m → News h₀ L h' news → Q (.int (max a b) t') { s with heap := h', toks := tk }) :
    wpAny (model prog w) A (call (.builtin "max") [.int a t, .int b u]) Q E s := by
  refine max_two_N hh F N fun h' tk F' N' => ?_
  have e : (if b > a then b else a) = max a b := by split <;> omega
  rw [e]
  exact h h' tk _ F' N'
theorem list_item {value slice : Expr} {n : Nat} {i : Int} {k : Nat} (N : News h₀ L s.heap news) (hm : (l, listOf (List.toArray vs) n) ∈ news) (hI : IntsAre vs ns) (hb : ns.length ≤ k) (hk : k ≤ 1000)
    (h0 : 0 ≤ i) (h1 : i < ns.length) (h : ∀ t, Q (.int (ns.getD i.toNat 0) t) s)
    (hs : subscripted slice false (.ref l) (.int i u) = operate [.ref l, .int i u] (getItem (.ref l) (.int i u)) := by with_unfolding_all rfl) :
    wpAny (model prog w) A (subscriptTail value slice (.ref l) (.int i u)) Q E s := by
  have hlt : i.toNat < ns.length := by omega
  obtain ⟨t, ht⟩ := hI.get i.toNat ns[i.toNat] (by simp [hlt])
  have hL := News.isList N hm
  refine tail_any hL.typeIs slot_list_getitem.lookup (wpAny_getItem_list hL h0 (by omega) (by simpa using ht) ?_) hs
  have := h t
  rw [show ns.getD i.toNat 0 = ns[i.toNat] from by simp [List.getD, hlt]] at this
  exact this
end
theorem run_le_aux : ∀ (l : List Nat) (a b k : Nat), a ≤ k → b ≤ k → (l.foldl runStep (a, b)).1 ≤ k + l.length ∧ (l.foldl runStep (a, b)).2 ≤ k + l.length
  | [], a, b, k, h1, h2 => ⟨h1, h2⟩
  | c :: l, a, b, k, h1, h2 => by
    have h := run_le_aux l (runStep (a, b) c).1 (runStep (a, b) c).2 (k + 1) (by unfold runStep; split <;> dsimp only <;> omega) (by unfold runStep; split <;> dsimp only <;> omega)
    rw [List.foldl_cons, List.length_cons]
    exact ⟨Nat.le_trans h.1 (by omega), Nat.le_trans h.2 (by omega)⟩
theorem run_le (l : List Nat) : runOf l ≤ l.length := by
  have h := run_le_aux l 0 0 0 (Nat.le_refl _) (Nat.le_refl _)
  unfold runOf
  omega
/-- the call gives back some lead -/
abbrev GivesLead (news : List (Addr × Obj)) (h₀ : Heap) (L : Addr) (m : Str → Option Value) (s : Shared) (Q : Value → Shared → Prop) : Prop :=
  ∀ (l : List Nat) (t : Tok) (h' : Heap) (tk' : Nat), LeadOk l → Fr h₀ L h' m → News h₀ L h' news → Q (.str (strOf l) t) { s with heap := h', toks := tk' }
theorem lead_some (w : World) (mean : ExcName → Option Value) (mg mb : Str → Option Value) (news : List (Addr × Obj)) (n : Int) (t : Tok) :
    Does 2 w mean mg mb 87 news [.int n t] (GivesLead news) := by
  intro dp un gd cn cs a ccd cl outer A₀ base h₀ L m s Q E B F X N T hk hdp hun hret
  exact lead_does w mean mg mb news n t dp un gd cn cs a ccd cl outer A₀ base h₀ L m s Q E B F X N T hk hdp hun fun t' h' tk' F' N' => hret _ t' h' tk' (lead_ok n) F' N'
theorem run_of (w : World) (mean : ExcName → Option Value) (mg mb : Str → Option Value) (news : List (Addr × Obj)) (l : List Nat) (t : Tok) (hx : l.length ≤ 1000) :
    Does 2 w mean mg mb 99 news [.str (strOf l) t] (Gives news (fun t => .int (runOf l : Nat) t)) := by
  have := run_does w mean mg mb news (strOf l) t (by rw [strOf_len]; exact hx)
  simpa only [strOf] using this
theorem cols_of (w : World) (mean : ExcName → Option Value) (mg mb : Str → Option Value) (news : List (Addr × Obj)) (l : List Nat) (t : Tok) (n : Int) (u : Tok) (hx : l.length ≤ 1000) (h0 : 0 ≤ n) (hn : n ≤ 1000) :
    Does 2 w mean mg mb 94 news [.str (strOf l) t, .int n u] (MakesInts news (colsOf l n.toNat)) := by
  have := cols_does w mean mg mb news (strOf l) t n.toNat u (by rw [strOf_len]; exact hx) (by omega)
  rw [Int.toNat_of_nonneg h0] at this
  simpa only [strOf] using this
theorem takeWhile_x {l r : List Nat} (h : l.all isWs = true) : (l ++ 120 :: r).takeWhile isWs = l := by
  induction l with
  | nil => rfl
  | cons a l ih =>
    simp only [List.all_cons, Bool.and_eq_true] at h
    rw [List.cons_append, List.takeWhile_cons, h.1, if_pos rfl, ih h.2]
theorem ws_of (w : World) (mean : ExcName → Option Value) (mg mb : Str → Option Value) (news : List (Addr × Obj)) (l r : List Nat) (t : Tok) (hw : l.all isWs = true) (hx : (l ++ 120 :: r).length ≤ 1000) :
    Does 2 w mean mg mb 76 news [.str (strOf (l ++ 120 :: r)) t] (MakesWs w.params news (scan l)) := by
  have := ws_does w mean mg mb news (strOf (l ++ 120 :: r)) t (by rw [strOf_len]; exact hx)
  have e : (strOf (l ++ 120 :: r)).cps.toList.takeWhile isWs = l := takeWhile_x hw
  rw [e] at this
  exact this
end Mine
namespace Mine
open PySem.Spec PyProof.V PySem.Calls
/-- the names st hold what u says, the others what m₀ says -/
def over (st : List Str) (u m₀ : Str → Option Value) : Str → Option Value := fun y => if st.contains y then u y else m₀ y
theorem over_eq {st : List Str} {m m₀ : Str → Option Value} (h : ∀ y, st.contains y = false → m y = m₀ y) : m = over st m m₀ := by
  funext y
  unfold over
  cases hc : st.contains y with
  | true => rfl
  | false => exact h y hc
/-- a turn's end of a loop with a cell target: it goes on, or never comes there -/
def MPost {σ : Type} (Led : σ → List (Addr × Obj)) (P : σ → Prop) (h₀ : Heap) (L c : Addr) (st : List Str) (m₀ : Str → Option Value) (U : List (Addr × Obj)) (s₁ : Shared) (f : Flow) (s₂ : Shared) : Prop :=
  f = .next ∧ ∃ h' tk m₂ d oc, s₂ = { s₁ with heap := h', toks := tk } ∧ Fr h₀ L h' m₂ ∧ (∀ y, st.contains y = false → m₂ y = m₀ y) ∧ News h₀ L h' ((c, oc) :: (Led d ++ U)) ∧ (∃ v', oc.data = .cell v') ∧ P d
section
variable {prog : Program} {w : World} {A : Around} {E : Value → Shared → Prop} {s : Shared} {env : Env} {h₀ : Heap} {x : Str} {body : List Stmt} {Q : Flow → Shared → Prop}
theorem mnext {σ : Type} {Led : σ → List (Addr × Obj)} {P : σ → Prop} {L c : Addr} {st : List Str} {m₀ m₂ : Str → Option Value} {U : List (Addr × Obj)} {s₁ : Shared} {h' : Heap} {tk : Nat} {oc : Obj} (d : σ)
    (F : Fr h₀ L h' m₂) (hm : ∀ y, st.contains y = false → m₂ y = m₀ y) (N : News h₀ L h' ((c, oc) :: (Led d ++ U))) (hov : ∃ v', oc.data = .cell v') (hp : P d) : MPost Led P h₀ L c st m₀ U s₁ .next { s₁ with heap := h', toks := tk } :=
  ⟨rfl, h', tk, m₂, d, oc, rfl, F, hm, N, hov, hp⟩
theorem range_cellM {σ : Type} {px : Pos} {r c : Addr} {a₀ b₀ : Int} {t₀ u₀ v₀ : Tok} {n : Nat} {m₀ m₁ : Str → Option Value} {R : List (Addr × Obj)} {oc₀ : Obj} (Led : σ → List (Addr × Obj)) (P : σ → Prop) (d₀ : σ) (st : List Str) (adr : List Addr)
    (hadr : ∀ d p, p ∈ Led d → p.1 ∈ adr)
    (hh : A.handled = none) (hk : env.scope.kind = .function) (hx : env.kindOf x = some .cell) (hc : env.cells.lookup x = some c)
    (hr : IsRange s.heap r a₀ b₀ 1 t₀ u₀ v₀) (hsmall : Builtin.Range.small a₀ b₀ 1 = true) (hn : Builtin.Range.rangeSize a₀ b₀ 1 = (n : Int))
    (F : Fr h₀ env.locals s.heap m₁) (hm : ∀ y, st.contains y = false → m₁ y = m₀ y) (N : News h₀ env.locals s.heap ((c, oc₀) :: (Led d₀ ++ R))) (hoc : ∃ v', oc₀.data = .cell v') (hac : ∀ a ∈ adr, a ≠ c) (hRc : ∀ p ∈ R, p.1 ≠ c) (hRa : ∀ p ∈ R, ∀ a ∈ adr, p.1 ≠ a) (hown : ∀ a ∈ adr, ∃ o, (a, o) ∈ Led d₀) (hown' : ∀ d, ∀ a ∈ adr, ∃ o, (a, o) ∈ Led d) (hp : P d₀)
    (hE : PassesOwn (model prog w) A env E)
    (turn : ∀ (i : Nat) t d u oc h tk U, i < n → P d → oc.data = .cell (some (.int (a₀ + (i : Nat)) t)) → (∀ p ∈ R, p ∈ U) → (∀ p ∈ U, p.1 ≠ c) → (∀ p ∈ U, ∀ a ∈ adr, p.1 ≠ a) → Fr h₀ env.locals h (over st u m₀) → News h₀ env.locals h ((c, oc) :: (Led d ++ U)) →
      wpAny (model prog w) A (execs body env) (MPost Led P h₀ env.locals c st m₀ U { s with heap := h, toks := tk }) E { s with heap := h, toks := tk })
    (done : ∀ d u oc h tk, P d → Fr h₀ env.locals h (over st u m₀) → News h₀ env.locals h ((c, oc) :: (Led d ++ R)) → Q .next { s with heap := h, toks := tk }) :
    wpAny (model prog w) A (pyIter (.ref r)) (fun it s₂ => LoopAtC prog w A h₀ env x px body Q E it s₂) E s := by
  refine range_cell (fun _ m nx => ∃ d, nx = Led d ++ R ∧ P d ∧ ∀ y, st.contains y = false → m y = m₀ y) hh hk hx hc hr hsmall hn F N hoc ?_ ⟨d₀, rfl, hp, hm⟩ hE ?_ ?_
  · intro p hp
    rcases List.mem_append.mp hp with h1 | h1
    · exact hac _ (hadr _ p h1)
    · exact hRc p h1
  · rintro i t m₂ nx oc h tk own hi ⟨d, rfl, hP, hm2⟩ hod hoff hnc howc F₁ N₁
    rw [over_eq hm2] at F₁
    rw [List.append_assoc] at N₁
    refine wpAny_mono (turn i t d m₂ oc h tk (R ++ own) hi hP hod (fun p hp => List.mem_append_left _ hp) ?_ ?_ F₁ N₁) (fun f s₂ p => ?_) fun _ _ e => e
    · intro p hp
      rcases List.mem_append.mp hp with h1 | h1
      · exact hRc p h1
      · exact howc p h1
    · intro p hp a ha
      rcases List.mem_append.mp hp with h1 | h1
      · exact hRa p h1 a ha
      · obtain ⟨o, ho⟩ := hown' d a ha
        exact (hoff (a, o) (List.mem_append_left _ ho) p h1).symm
    · obtain ⟨rfl, h', tk', m₃, d', oc', rfl, F', hm', N', hov', hP'⟩ := p
      refine ⟨h', tk', m₃, Led d' ++ R, oc', rfl, F', by rw [List.append_assoc]; exact N', hov', ?_, ?_, d', rfl, hP', hm'⟩
      · intro p hp q hq
        rcases List.mem_append.mp hp with h1 | h1
        · obtain ⟨o, ho⟩ := hown' d p.1 (hadr _ p h1)
          exact hoff (p.1, o) (List.mem_append_left _ ho) q hq
        · exact hoff p (List.mem_append_right _ h1) q hq
      · intro p hp
        rcases List.mem_append.mp hp with h1 | h1
        · exact hac _ (hadr _ p h1)
        · exact hRc p h1
  · rintro m₂ nx oc h tk ⟨d, rfl, hP, hm2⟩ hov F₁ N₁
    rw [over_eq hm2] at F₁
    exact done d m₂ oc h tk hP F₁ N₁
theorem list_cellM {px : Pos} {l c : Addr} {vs : List Value} {ns : List Int} {k : Nat} {m₀ m₁ : Str → Option Value} {R : List (Addr × Obj)} {oc₀ : Obj} (st : List Str)
    (hh : A.handled = none) (hk : env.scope.kind = .function) (hx : env.kindOf x = some .cell) (hc : env.cells.lookup x = some c)
    (hi : IntsAre vs ns) (F : Fr h₀ env.locals s.heap m₁) (hm : ∀ y, st.contains y = false → m₁ y = m₀ y) (N : News h₀ env.locals s.heap ((c, oc₀) :: (l, listOf (List.toArray vs) k) :: R)) (hoc : ∃ v', oc₀.data = .cell v') (hlc : l ≠ c) (hRc : ∀ p ∈ R, p.1 ≠ c) (hRl : ∀ p ∈ R, p.1 ≠ l)
    (hE : PassesOwn (model prog w) A env E)
    (turn : ∀ (i : Nat) v t u oc h tk U, ns[i]? = some v → oc.data = .cell (some (.int v t)) → (∀ p ∈ R, p ∈ U) → (∀ p ∈ U, p.1 ≠ c) → Fr h₀ env.locals h (over st u m₀) → News h₀ env.locals h ((c, oc) :: U) →
      wpAny (model prog w) A (execs body env) (MPost (σ := Unit) (fun _ => []) (fun _ => True) h₀ env.locals c st m₀ U { s with heap := h, toks := tk }) E { s with heap := h, toks := tk })
    (done : ∀ u oc h tk, (∃ v', oc.data = .cell v') → Fr h₀ env.locals h (over st u m₀) → News h₀ env.locals h ((c, oc) :: R) → Q .next { s with heap := h, toks := tk }) :
    wpAny (model prog w) A (pyIter (.ref l)) (fun it s₂ => LoopAtC prog w A h₀ env x px body Q E it s₂) E s := by
  refine list_cell (fun _ m nx => nx = R ∧ ∀ y, st.contains y = false → m y = m₀ y) hh hk hx hc hi F N hoc hlc hRc hRl ⟨rfl, hm⟩ hE ?_ ?_
  · rintro i v t m₂ nx oc h tk own hv ⟨rfl, hm2⟩ hod hoff hnc howc F₁ N₁
    rw [over_eq hm2] at F₁
    refine wpAny_mono (turn i v t m₂ oc h tk (nx ++ own) hv hod (fun p hp => List.mem_append_left _ hp) ?_ F₁ N₁) (fun f s₂ p => ?_) fun _ _ e => e
    · intro p hp
      rcases List.mem_append.mp hp with h1 | h1
      · exact hRc p h1
      · exact howc p h1
    · obtain ⟨rfl, h', tk', m₃, d', oc', rfl, F', hm', N', hov', _⟩ := p
      exact ⟨h', tk', m₃, nx, oc', rfl, F', N', hov', hoff, hRc, rfl, hm'⟩
  · rintro m₂ nx oc h tk ⟨rfl, hm2⟩ hov F₁ N₁
    rw [over_eq hm2] at F₁
    exact done m₂ oc h tk hov F₁ N₁
end
end Mine
namespace Mine
open PySem.Spec PyProof.V PySem.Calls
abbrev stO : List Str := [Str.ofString "never", Str.ofString "need", Str.ofString "lead", Str.ofString "second", Str.ofString "sizes", Str.ofString "there", Str.ofString "back"]
abbrev stI : List Str := [Str.ofString "lead", Str.ofString "second", Str.ofString "sizes", Str.ofString "there", Str.ofString "back"]
def lawMap (r : Str → Option Value) (x1 : Addr) (far : Int) (tf : Tok) (lb la : List Nat) (tb ta : Tok) : Str → Option Value := fun y =>
  if y = Str.ofString "first" then some (.ref x1) else if y = Str.ofString "far" then some (.int far tf) else if y = Str.ofString "b" then some (.str (strOf lb) tb) else if y = Str.ofString "a" then some (.str (strOf la) ta) else r y
abbrev LedO (c4 c5 : Addr) (d : Obj × Obj) : List (Addr × Obj) := [(c4, d.1), (c5, d.2)]
abbrev PO (d : Obj × Obj) : Prop := (∃ v, d.1.data = .cell v) ∧ ∃ v, d.2.data = .cell v
section
variable {prog : Program} {w : World} {A : Around} {E : Value → Shared → Prop} {s : Shared} {env : Env} {h₀ : Heap} {body : List Stmt} {Q : Flow → Shared → Prop}
theorem For_cellF {x : Str} {px pos : Pos} {iter : Expr} {m : Str → Option Value} (F₉ : Fr h₀ env.locals s.heap m)
    (h : wpAny (model prog w) A (eval iter env) (fun xv s₁ => wpAny (model prog w) A (pyIter xv) (fun it s₂ => LoopAtC prog w A h₀ env x px body Q E it s₂) E s₁) E s)
    (hs : ∀ x, foldedSetIterable iter env x = pure x := by intro _; rfl) :
    wpAny (model prog w) A (exec (.For (.Name x px) iter body [] pos) env) Q E s := For_cell h₀ h hs
theorem law_outer {px : Pos} {rg c1 c2 c3 c4 c5 lo lt x1 : Addr} {t₀ u₀ v₀ : Tok} {m₁ r : Str → Option Value} {led : List (Addr × Obj)} {vo vt : List Value} {ko kt : Nat} {o1 o2 o3 o4 o5 : Obj} {la lb : List Nat} {far : Int} {ta tb tf : Tok}
    (hh : A.handled = none) (hk : env.scope.kind = .function) (hx : env.kindOf (Str.ofString "tabs") = some .cell) (hc : env.cells.lookup (Str.ofString "tabs") = some c3)
    (hr : IsRange s.heap rg 0 3 1 t₀ u₀ v₀) (F : Fr h₀ env.locals s.heap m₁) (hm : ∀ y, m₁ y = lawMap r x1 far tf lb la tb ta y)
    (N : News h₀ env.locals s.heap (led ++ [(lt, listOf (List.toArray vt) kt), (lo, listOf (List.toArray vo) ko), (c5, o5), (c4, o4), (c3, o3), (c2, o2), (c1, o1)]))
    (ho1 : o1.data = .cell (some (.ref lo))) (ho2 : o2.data = .cell (some (.ref lt))) (ho3 : ∃ v, o3.data = .cell v) (ho4 : ∃ v, o4.data = .cell v) (ho5 : ∃ v, o5.data = .cell v)
    (hlt : ∀ q ∈ [(lt, listOf (List.toArray vt) kt), (lo, listOf (List.toArray vo) ko), (c5, o5), (c4, o4), (c3, o3), (c2, o2), (c1, o1)], ∀ p ∈ led, q.1 < p.1)
    (hcs : (@LT.lt Nat _ c1 c2) ∧ (@LT.lt Nat _ c2 c3) ∧ (@LT.lt Nat _ c3 c4) ∧ (@LT.lt Nat _ c4 c5) ∧ (@LT.lt Nat _ c5 lo) ∧ (@LT.lt Nat _ lo lt))
    (oka : LeadOk la) (okb : LeadOk lb) (hfar : far = 1 + max (runOf la : Int) (runOf lb)) (hIo : IntsAre vo (colsOf la (far + 22).toNat)) (hIt : IntsAre vt (colsOf lb (far + 22).toNat)) (hws : WsAt w.params led x1 (scan lb))
    (hE : PassesOwn (model prog w) A env E)
    (turn : ∀ (la lb : List Nat) (far : Int) (ta tb tf : Tok) (x1 lo lt : Addr) (vo vt : List Value) (ko kt i : Nat) (t : Tok) (o1 o2 o3 o4 o5 : Obj) (u : Str → Option Value) (h : Heap) (tk : Nat) (U : List (Addr × Obj)),
      LeadOk la → LeadOk lb → far = 1 + max (runOf la : Int) (runOf lb) → i < 3 →
      o1.data = .cell (some (.ref lo)) → o2.data = .cell (some (.ref lt)) → o3.data = .cell (some (.int (0 + (i : Nat)) t)) → (∃ v, o4.data = .cell v) → (∃ v, o5.data = .cell v) →
      (c1, o1) ∈ U → (c2, o2) ∈ U → (lo, listOf (List.toArray vo) ko) ∈ U → (lt, listOf (List.toArray vt) kt) ∈ U → IntsAre vo (colsOf la (far + 22).toNat) → IntsAre vt (colsOf lb (far + 22).toNat) → WsAt w.params U x1 (scan lb) →
      (∀ p ∈ U, p.1 ≠ c3) → (∀ p ∈ U, p.1 ≠ c4) → (∀ p ∈ U, p.1 ≠ c5) →
      Fr h₀ env.locals h (over stO u (lawMap r x1 far tf lb la tb ta)) → News h₀ env.locals h ((c3, o3) :: (c4, o4) :: (c5, o5) :: U) →
      wpAny (model prog w) A (execs body env) (MPost (LedO c4 c5) PO h₀ env.locals c3 stO (lawMap r x1 far tf lb la tb ta) U { s with heap := h, toks := tk }) E { s with heap := h, toks := tk })
    (done : ∀ (la lb : List Nat) (far : Int) (ta tb tf : Tok) (x1 : Addr) (u : Str → Option Value) (h : Heap) (tk : Nat), Fr h₀ env.locals h (over stO u (lawMap r x1 far tf lb la tb ta)) → News h₀ env.locals h [] → Q .next { s with heap := h, toks := tk }) :
    wpAny (model prog w) A (pyIter (.ref rg)) (fun it s₂ => LoopAtC prog w A h₀ env (Str.ofString "tabs") px body Q E it s₂) E s := by
  obtain ⟨h12, h23, h34, h45, h5o, hot⟩ := hcs
  have hledc : ∀ c o, (c, o) ∈ [(lt, listOf (List.toArray vt) kt), (lo, listOf (List.toArray vo) ko), (c5, o5), (c4, o4), (c3, o3), (c2, o2), (c1, o1)] → ∀ p ∈ led, p.1 ≠ c := fun c o hc p hp => Nat.ne_of_gt (hlt _ hc p hp)
  have hRne : ∀ c o, (c, o) ∈ [(lt, listOf (List.toArray vt) kt), (lo, listOf (List.toArray vo) ko), (c5, o5), (c4, o4), (c3, o3), (c2, o2), (c1, o1)] → @Ne Nat c1 c → @Ne Nat c2 c → @Ne Nat lo c → @Ne Nat lt c → ∀ p ∈ led ++ [(lt, listOf (List.toArray vt) kt), (lo, listOf (List.toArray vo) ko), (c2, o2), (c1, o1)], p.1 ≠ c := by
    intro c o hc n1 n2 n3 n4 p hp
    rcases List.mem_append.mp hp with h | h
    · exact hledc c o hc p h
    · simp only [List.mem_cons, List.not_mem_nil, or_false] at h
      rcases h with rfl | rfl | rfl | rfl
      · exact n4
      · exact n3
      · exact n2
      · exact n1
  have m3 := hRne c3 o3 (by simp) (by omega) (by omega) (by omega) (by omega)
  have m4 := hRne c4 o4 (by simp) (by omega) (by omega) (by omega) (by omega)
  have m5 := hRne c5 o5 (by simp) (by omega) (by omega) (by omega) (by omega)
  have n34 : @Ne Nat c4 c3 := by omega
  have n35 : @Ne Nat c5 c3 := by omega
  refine range_cellM (σ := Obj × Obj) (n := 3) (R := led ++ [(lt, listOf (List.toArray vt) kt), (lo, listOf (List.toArray vo) ko), (c2, o2), (c1, o1)]) (LedO c4 c5) PO (o4, o5) stO [c4, c5] ?_ hh hk hx hc hr (by decide) (by rfl) F (fun y _ => hm y) ?_ ho3 ?_ m3 ?_ ?_ ?_ ⟨ho4, ho5⟩ hE ?_ ?_
  · intro d p hp
    simp only [List.mem_cons, List.not_mem_nil, or_false] at hp
    rcases hp with rfl | rfl
    · exact .head _
    · exact .tail _ (.head _)
  · intro p hp
    refine N p ?_
    simp only [List.cons_append, List.nil_append, List.mem_cons, List.mem_append, List.not_mem_nil, or_false] at hp ⊢
    rcases hp with h | h | h | h | h | h | h | h
    · exact .inr (.inr (.inr (.inr (.inr (.inl h)))))
    · exact .inr (.inr (.inr (.inr (.inl h))))
    · exact .inr (.inr (.inr (.inl h)))
    · exact .inl h
    · exact .inr (.inl h)
    · exact .inr (.inr (.inl h))
    · exact .inr (.inr (.inr (.inr (.inr (.inr (.inl h))))))
    · exact .inr (.inr (.inr (.inr (.inr (.inr (.inr h))))))
  · intro a ha
    simp only [List.mem_cons, List.not_mem_nil, or_false] at ha
    rcases ha with rfl | rfl
    · exact n34
    · exact n35
  · intro p hp a ha
    simp only [List.mem_cons, List.not_mem_nil, or_false] at ha
    rcases ha with rfl | rfl
    · exact m4 p hp
    · exact m5 p hp
  · intro a ha
    simp only [List.mem_cons, List.not_mem_nil, or_false] at ha
    rcases ha with rfl | rfl
    · exact ⟨o4, .head _⟩
    · exact ⟨o5, .tail _ (.head _)⟩
  · intro d a ha
    simp only [List.mem_cons, List.not_mem_nil, or_false] at ha
    rcases ha with rfl | rfl
    · exact ⟨d.1, .head _⟩
    · exact ⟨d.2, .tail _ (.head _)⟩
  · rintro i t d u oc h tk U hi ⟨hd4, hd5⟩ hod hs hUc hUa F₁ N₁
    refine turn la lb far ta tb tf x1 lo lt vo vt ko kt i t o1 o2 oc d.1 d.2 u h tk U oka okb hfar hi ho1 ho2 hod hd4 hd5 (hs _ ?_) (hs _ ?_) (hs _ ?_) (hs _ ?_) hIo hIt (hws.mono fun p hp => hs p (List.mem_append_left _ hp)) hUc (fun p hp => hUa p hp c4 (.head _)) (fun p hp => hUa p hp c5 (.tail _ (.head _))) F₁ N₁
    · simp
    · simp
    · simp
    · simp
  · rintro d u oc h tk _ F₁ N₁
    exact done la lb far ta tb tf x1 u h tk F₁ (fun _ h => nomatch h)
end
end Mine
namespace Mine
/-- the sum of (i // t) * c[i] from place k on -/
def wsum (t : Int) : Int → List Int → Int
  | _, [] => 0
  | k, x :: r => (k / t) * x + wsum t (k + 1) r
theorem wsum_append (t : Int) : ∀ (l r : List Int) (k : Int), wsum t k (l ++ r) = wsum t k l + wsum t (k + l.length) r
  | [], r, k => by simp [wsum]
  | x :: l, r, k => by
    simp only [List.cons_append, wsum, List.length_cons, wsum_append t l r (k + 1)]
    rw [show k + 1 + (l.length : Int) = k + ((l.length + 1 : Nat) : Int) by omega]
    omega
theorem wsum_zeros (t : Int) : ∀ (n : Nat) (k : Int), wsum t k (List.replicate n 0) = 0
  | 0, _ => rfl
  | n + 1, k => by simp [List.replicate_succ, wsum, wsum_zeros t n]
theorem wsum_set (t : Int) : ∀ (l : List Int) (b : Nat) (k : Int), b < l.length → wsum t k (l.set b (l.getD b 0 + 1)) = wsum t k l + (k + b) / t
  | [], b, k, h => absurd h (by simp)
  | x :: l, 0, k, _ => by
    simp only [List.set_cons_zero, List.getD_cons_zero, wsum, Int.mul_add, Int.mul_one]
    rw [show k + ((0 : Nat) : Int) = k by omega]
    omega
  | x :: l, b + 1, k, h => by
    have := wsum_set t l b (k + 1) (by simpa using h)
    simp only [List.set_cons_succ, List.getD_cons_succ, wsum, this]
    rw [show k + 1 + (b : Int) = k + ((b + 1 : Nat) : Int) by omega]
    omega
theorem wsum_bump (t : Int) (c : List Int) (b : Nat) : wsum t 0 (bump c b) = wsum t 0 c + (b : Int) / t := by
  unfold bump
  dsimp only
  split
  · rename_i h
    rw [wsum_set t _ b 0 (by simp; omega), wsum_append, wsum_zeros]
    simp
  · rename_i h
    rw [wsum_set t _ b 0 (by omega)]
    simp
theorem ilTo_eq (c : List Int) (ts : Int) (h1 : 1 ≤ ts) : ∀ k : Nat, ts + k ≤ c.length → ilTo c ts k = wsum ts ts ((c.drop ts.toNat).take k)
  | 0, _ => by simp [ilTo, wsum]
  | k + 1, hk => by
    have ih := ilTo_eq c ts h1 k (by omega)
    have hlt : k < (c.drop ts.toNat).length := by rw [List.length_drop]; omega
    have e : (c.drop ts.toNat).take (k + 1) = (c.drop ts.toNat).take k ++ [(c.drop ts.toNat)[k]] := by
      rw [List.take_add_one, List.getElem?_eq_getElem hlt]; rfl
    have e2 : (c.drop ts.toNat)[k] = c.getD (ts + (k : Nat)).toNat 0 := by
      rw [List.getElem_drop]
      have : (ts + (k : Nat)).toNat = ts.toNat + k := by omega
      rw [this, List.getD_eq_getElem?_getD, List.getElem?_eq_getElem (by omega)]; rfl
    rw [e, wsum_append, ← ih, e2]
    simp only [wsum, ilTo, Int.add_zero]
    rw [Int.fdiv_eq_ediv_of_nonneg _ (by omega), List.length_take, Nat.min_eq_left (by omega)]
theorem wsum_small (t : Int) (ht : 1 ≤ t) : ∀ (l : List Int) (k : Int), 0 ≤ k → k + l.length ≤ t → wsum t k l = 0
  | [], _, _, _ => rfl
  | x :: l, k, h0, h => by
    have hl : ((x :: l).length : Int) = l.length + 1 := by simp
    rw [hl] at h
    have e : k / t = 0 := Int.ediv_eq_zero_of_lt h0 (by omega)
    rw [wsum, e, wsum_small t ht l (k + 1) (by omega) (by omega)]
    omega
theorem ilTo_full (c : List Int) (ts : Int) (h1 : 1 ≤ ts) : ilTo c ts ((c.length : Int) - ts).toNat = wsum ts 0 c := by
  by_cases h : ts ≤ c.length
  · rw [ilTo_eq c ts h1 _ (by omega)]
    have e : (c.drop ts.toNat).take ((c.length : Int) - ts).toNat = c.drop ts.toNat := List.take_of_length_le (by rw [List.length_drop]; omega)
    rw [e]
    have e2 := wsum_append ts (c.take ts.toNat) (c.drop ts.toNat) 0
    rw [List.take_append_drop] at e2
    rw [e2, wsum_small ts h1 _ 0 (by omega) (by rw [List.length_take]; omega), List.length_take, Nat.min_eq_left (by omega)]
    rw [show (0 : Int) + (ts.toNat : Int) = ts by omega]
    omega
  · rw [show ((c.length : Int) - ts).toNat = 0 by omega, wsum_small ts h1 c 0 (by omega) (by omega)]
    rfl
theorem indent_eq (S : Sc) (ts : Int) (h1 : 1 ≤ ts) : indent S ts = S.b + ts * (wsum ts 0 S.c + S.nt) := by
  unfold indent; rw [ilTo_full _ _ h1]
/-- the column sign by sign is the indent of the scan -/
theorem col_aux (t : Int) (ht : 1 ≤ t) : ∀ (l : List Nat) (S : Sc) (c : Int), c = S.b + t * (wsum t 0 S.c + S.nt) → l.foldl (colStep t) c = (l.foldl Sc.step S).b + t * (wsum t 0 (l.foldl Sc.step S).c + (l.foldl Sc.step S).nt)
  | [], S, c, h => h
  | x :: l, S, c, h => by
    rw [List.foldl_cons, List.foldl_cons]
    refine col_aux t ht l (S.step x) (colStep t c x) ?_
    unfold colStep Sc.step
    split
    · show c + 1 = ((S.b + 1 : Nat) : Int) + t * (wsum t 0 S.c + S.nt)
      omega
    · show c.fdiv t * t + t = ((0 : Nat) : Int) + t * (wsum t 0 (bump S.c S.b) + ((S.nt + 1 : Nat) : Int))
      rw [wsum_bump, Int.fdiv_eq_ediv_of_nonneg _ (by omega)]
      have e : c / t = (S.b : Int) / t + (wsum t 0 S.c + S.nt) := by
        rw [h, Int.add_mul_ediv_left _ _ (by omega)]
      rw [e, Int.mul_comm _ t, show (((S.nt + 1 : Nat) : Int)) = (S.nt : Int) + 1 by omega]
      simp only [Int.mul_add, Int.mul_one]
      omega
theorem col_eq (t : Int) (ht : 1 ≤ t) (l : List Nat) : colOf t l = indent (scan l) t := by
  rw [indent_eq _ _ ht]
  exact col_aux t ht l Sc.init 0 (by simp [Sc.init, wsum])
end Mine
namespace Mine
theorem run_aux : ∀ (l : List Nat) (S : Sc) (m k : Nat), l.all isWs = true → m = S.c.length - 1 → k = S.b →
    (l.foldl runStep (m, k)).1 = (l.foldl Sc.step S).c.length - 1 ∧ (l.foldl runStep (m, k)).2 = (l.foldl Sc.step S).b
  | [], S, m, k, _, h1, h2 => ⟨h1, h2⟩
  | x :: l, S, m, k, hw, h1, h2 => by
    simp only [List.all_cons, Bool.and_eq_true] at hw
    rw [List.foldl_cons, List.foldl_cons]
    have hx : x = 32 ∨ x = 9 := by
      have := hw.1
      unfold isWs at this
      simpa using this
    rcases hx with rfl | rfl
    · exact run_aux l _ _ _ hw.2 h1 (by show k + 1 = S.b + 1; omega)
    · refine run_aux l _ _ _ hw.2 ?_ rfl
      show max m k = (bump S.c S.b).length - 1
      rw [bump_len]
      split <;> omega
theorem run_eq {l : List Nat} (hw : l.all isWs = true) : (runOf l : Int) = lr (scan l) := by
  have h := run_aux l Sc.init 0 0 hw rfl rfl
  unfold runOf lr
  rw [h.1, h.2]
  show ((max ((scan l).c.length - 1) (scan l).b : Nat) : Int) = _
  omega
theorem one_aux : ∀ (l : List Nat) (c : Int), l.foldl (colStep 1) c = c + l.length
  | [], c => by simp
  | x :: l, c => by
    have e : colStep 1 c x = c + 1 := by
      unfold colStep
      split
      · rfl
      · rw [Int.fdiv_one, Int.mul_one]
    rw [List.foldl_cons, e, one_aux l (c + 1), List.length_cons]
    omega
theorem one_eq (l : List Nat) : indent (scan l) 1 = (scan l).n := by
  rw [← col_eq 1 (by decide) l, (scan_sizes l).2.1]
  unfold colOf
  rw [one_aux]; omega
theorem tabs_aux : ∀ (l : List Nat) (S : Sc), l.all isWs = true → ((l.foldl Sc.step S).nt : Int) = S.nt + cnt 9 l
  | [], S, _ => by simp [cnt_nil]
  | x :: l, S, hw => by
    simp only [List.all_cons, Bool.and_eq_true] at hw
    have hx : x = 32 ∨ x = 9 := by
      have := hw.1
      unfold isWs at this
      simpa using this
    rw [List.foldl_cons, tabs_aux l _ hw.2, cnt_cons]
    rcases hx with rfl | rfl
    · show (S.nt : Int) + cnt 9 l = S.nt + ((if (32 : Nat) = 9 then 1 else 0) + cnt 9 l)
      rw [if_neg (by decide)]; omega
    · show ((S.nt + 1 : Nat) : Int) + cnt 9 l = S.nt + ((if (9 : Nat) = 9 then 1 else 0) + cnt 9 l)
      rw [if_pos rfl]; omega
theorem tabs_eq {l : List Nat} (hw : l.all isWs = true) : Txt.count (strOf l) (Str.ofString "\t") = (scan l).nt := by
  have et : Str.ofString "\t" = ⟨#[9]⟩ := by decide +kernel
  rw [et, count_cnt]
  have := tabs_aux l Sc.init hw
  show cnt 9 l = _
  unfold scan
  rw [this]
  show cnt 9 l = ((0 : Nat) : Int) + cnt 9 l
  omega
/-- the column behind more tabs, behind more blanks -/
def baseOf (la : List Nat) (tabs : Nat) (t : Int) : Int := if 0 < tabs then (colOf t la / t + tabs) * t else colOf t la
def leadOf (la : List Nat) (tabs blanks : Nat) : List Nat := la ++ List.replicate tabs 9 ++ List.replicate blanks 32
theorem col_blanks (t : Int) (l : List Nat) : ∀ n : Nat, colOf t (l ++ List.replicate n 32) = colOf t l + n
  | 0 => by simp
  | n + 1 => by
    rw [List.replicate_succ', ← List.append_assoc, colOf_snoc, col_blanks t l n]
    unfold colStep
    rw [if_pos rfl]; omega
theorem col_tabs (t : Int) (ht : 1 ≤ t) (l : List Nat) : ∀ n : Nat, colOf t (l ++ List.replicate n 9) = baseOf l n t
  | 0 => by simp [baseOf]
  | n + 1 => by
    rw [List.replicate_succ', ← List.append_assoc, colOf_snoc, col_tabs t ht l n]
    have e1 : baseOf l (n + 1) t = (colOf t l / t + ((n + 1 : Nat) : Int)) * t := by unfold baseOf; rw [if_pos (by omega)]
    have e2 : baseOf l n t / t = colOf t l / t + n := by
      unfold baseOf
      split
      · rw [Int.mul_ediv_cancel _ (by omega)]
      · rename_i h
        obtain rfl : n = 0 := by omega
        simp
    unfold colStep
    rw [if_neg (by decide), Int.fdiv_eq_ediv_of_nonneg _ (by omega), e1, e2, show colOf t l / t + ((n + 1 : Nat) : Int) = (colOf t l / t + n) + 1 by omega, Int.add_mul _ 1, Int.one_mul]
theorem col_lead (t : Int) (ht : 1 ≤ t) (la : List Nat) (tabs blanks : Nat) : colOf t (leadOf la tabs blanks) = baseOf la tabs t + blanks := by
  unfold leadOf
  rw [col_blanks, col_tabs t ht]
theorem lead_ws {la : List Nat} (h : la.all isWs = true) (tabs blanks : Nat) : (leadOf la tabs blanks).all isWs = true := by
  unfold leadOf
  rw [List.all_append, List.all_append, h, Bool.true_and, Bool.and_eq_true]
  constructor
  · exact List.all_eq_true.mpr fun x hx => by rw [(List.mem_replicate.mp hx).2]; rfl
  · exact List.all_eq_true.mpr fun x hx => by rw [(List.mem_replicate.mp hx).2]; rfl
end Mine
namespace Mine
/-- what every scan is -/
structure Good (S : Sc) : Prop where
  pos : ∀ v ∈ S.c, 0 ≤ v
  last : ∀ h : S.c ≠ [], 0 < S.c.getLast h
  sum : S.c.sum = S.nt
theorem sum_set : ∀ (l : List Int) (b : Nat), b < l.length → (l.set b (l.getD b 0 + 1)).sum = l.sum + 1
  | [], b, h => absurd h (by simp)
  | x :: l, 0, _ => by simp only [List.set_cons_zero, List.getD_cons_zero, List.sum_cons]; omega
  | x :: l, b + 1, h => by
    have := sum_set l b (by simpa using h)
    simp only [List.set_cons_succ, List.getD_cons_succ, List.sum_cons, this]; omega
theorem bump_sum (c : List Int) (b : Nat) : (bump c b).sum = c.sum + 1 := by
  unfold bump
  dsimp only
  split
  · rw [sum_set _ _ (by simp; omega), List.sum_append]
    simp
  · rw [sum_set _ _ (by omega)]
theorem getD_nonneg {c : List Int} (h : ∀ v ∈ c, 0 ≤ v) (i : Nat) : 0 ≤ c.getD i 0 := by
  rw [List.getD_eq_getElem?_getD]
  cases e : c[i]? with
  | none => simp
  | some v => exact h v (List.mem_of_getElem? e)
theorem bump_good {c : List Int} {b : Nat} (h : ∀ v ∈ c, 0 ≤ v) (hl : ∀ h : c ≠ [], 0 < c.getLast h) : (∀ v ∈ bump c b, 0 ≤ v) ∧ ∀ h : bump c b ≠ [], 0 < (bump c b).getLast h := by
  have hc : ∀ v ∈ (if c.length ≤ b then c ++ List.replicate (b - c.length + 1) 0 else c), 0 ≤ v := by
    intro v hv
    split at hv
    · rcases List.mem_append.mp hv with h1 | h1
      · exact h v h1
      · rw [(List.mem_replicate.mp h1).2]; exact Int.le_refl _
    · exact h v hv
  constructor
  · intro v hv
    unfold bump at hv
    dsimp only at hv
    rcases List.mem_or_eq_of_mem_set hv with h1 | h1
    · exact hc v h1
    · have := getD_nonneg hc b
      omega
  · intro hne
    rw [List.getLast_eq_getElem]
    have hlen := bump_len c b
    have hcd := getD_nonneg hc b
    by_cases hb : c.length ≤ b
    · have e : (bump c b).length - 1 = b := by rw [hlen, if_pos hb]; omega
      have hlt : b < (bump c b).length := by rw [hlen, if_pos hb]; omega
      have : (bump c b)[(bump c b).length - 1]'(by omega) = (bump c b)[b] := by congr 1
      rw [this]
      simp only [if_pos hb] at hcd
      simp only [bump, if_pos hb, List.getElem_set_self]
      omega
    · have hcl : (bump c b).length = c.length := by rw [hlen, if_neg hb]
      have hcne : c ≠ [] := by intro e; rw [e] at hb; simp at hb
      have hl' := hl hcne
      rw [List.getLast_eq_getElem] at hl'
      have : (bump c b)[(bump c b).length - 1]'(by omega) = (bump c b)[c.length - 1]'(by omega) := by congr 1; omega
      rw [this]
      unfold bump
      simp only [if_neg hb]
      rw [List.getElem_set]
      split
      · rename_i e
        have := getD_nonneg h b
        omega
      · exact hl'
theorem good_aux : ∀ (l : List Nat) (S : Sc), Good S → Good (l.foldl Sc.step S)
  | [], _, h => h
  | x :: l, S, h => by
    rw [List.foldl_cons]
    refine good_aux l _ ?_
    unfold Sc.step
    split
    · exact ⟨h.pos, h.last, h.sum⟩
    · have hb := bump_good (b := S.b) h.pos h.last
      refine ⟨hb.1, hb.2, ?_⟩
      show (bump S.c S.b).sum = ((S.nt + 1 : Nat) : Int)
      rw [bump_sum, h.sum]; omega
theorem scan_good (l : List Nat) : Good (scan l) := good_aux l Sc.init ⟨fun _ h => (nomatch h), fun h => absurd rfl h, rfl⟩

/-- sums by a function -/
def wsumF (t : Int) (f : Nat → Int) : Nat → Int
  | 0 => 0
  | M + 1 => wsumF t f M + ((M : Int) / t) * f M
def sumF (f : Nat → Int) : Nat → Int
  | 0 => 0
  | M + 1 => sumF f M + f M
theorem wsumF_sub (t : Int) (f g : Nat → Int) : ∀ M, wsumF t (fun i => f i - g i) M = wsumF t f M - wsumF t g M
  | 0 => rfl
  | M + 1 => by simp only [wsumF, wsumF_sub t f g M, Int.mul_sub]; omega
theorem sumF_sub (f g : Nat → Int) : ∀ M, sumF (fun i => f i - g i) M = sumF f M - sumF g M
  | 0 => rfl
  | M + 1 => by simp only [sumF, sumF_sub f g M]; omega
theorem wsumF_small (t : Int) (f : Nat → Int) (_ : 1 ≤ t) : ∀ M : Nat, (M : Int) ≤ t → wsumF t f M = 0
  | 0, _ => rfl
  | M + 1, h => by
    have e : (M : Int) / t = 0 := Int.ediv_eq_zero_of_lt (by omega) (by omega)
    rw [wsumF, e, wsumF_small t f ‹_› M (by omega)]; omega
theorem wsumF_zero (f : Nat → Int) : ∀ M : Nat, (∀ t : Int, 1 ≤ t → t ≤ M → wsumF t f M = 0) → ∀ i, 1 ≤ i → i < M → f i = 0
  | 0, _, i, _, h => absurd h (by omega)
  | M + 1, h, i, h1, hi => by
    have hM : 1 ≤ M → f M = 0 := fun hM => by
      have h2 := h M (by omega) (by omega)
      rw [wsumF, wsumF_small M f (by omega) M (by omega), Int.ediv_self (by omega)] at h2
      omega
    by_cases e : i = M
    · subst e; exact hM h1
    · refine wsumF_zero f M (fun t ht htM => ?_) i h1 (by omega)
      have h2 := h t ht (by omega)
      rw [wsumF, hM (by omega)] at h2
      omega
theorem wsumF_list (t : Int) (c : List Int) : ∀ M : Nat, c.length ≤ M → wsumF t (fun i => c.getD i 0) M = wsum t 0 c := by
  have h1 : ∀ M, M ≤ c.length → wsumF t (fun i => c.getD i 0) M = wsum t 0 (c.take M) := by
    intro M
    induction M with
    | zero => intro _; rfl
    | succ M ih =>
      intro hM
      have hlt : M < c.length := by omega
      rw [wsumF, ih (by omega), List.take_add_one, List.getElem?_eq_getElem hlt, Option.toList_some, wsum_append]
      simp only [wsum, List.length_take, Int.add_zero]
      rw [Nat.min_eq_left (by omega), List.getD_eq_getElem?_getD, List.getElem?_eq_getElem hlt]
      simp
  intro M hM
  induction M with
  | zero => have := h1 0 (by omega); rw [this]; have : c = [] := List.length_eq_zero_iff.mp (by omega); rw [this]; rfl
  | succ M ih =>
    by_cases e : c.length ≤ M
    · rw [wsumF, ih e, List.getD_eq_getElem?_getD, List.getElem?_eq_none e]; simp
    · have := h1 (M + 1) (by omega)
      rw [this, List.take_of_length_le (by omega)]
theorem sumF_list (c : List Int) : ∀ M : Nat, c.length ≤ M → sumF (fun i => c.getD i 0) M = c.sum := by
  have h1 : ∀ M, M ≤ c.length → sumF (fun i => c.getD i 0) M = (c.take M).sum := by
    intro M
    induction M with
    | zero => intro _; rfl
    | succ M ih =>
      intro hM
      have hlt : M < c.length := by omega
      rw [sumF, ih (by omega), List.take_add_one, List.getElem?_eq_getElem hlt, Option.toList_some, List.sum_append]
      rw [List.getD_eq_getElem?_getD, List.getElem?_eq_getElem hlt]
      simp
  intro M hM
  induction M with
  | zero => have := h1 0 (by omega); rw [this]; have : c = [] := List.length_eq_zero_iff.mp (by omega); rw [this]; rfl
  | succ M ih =>
    by_cases e : c.length ≤ M
    · rw [sumF, ih e, List.getD_eq_getElem?_getD, List.getElem?_eq_none e]; simp
    · have := h1 (M + 1) (by omega)
      rw [this, List.take_of_length_le (by omega)]
theorem sumF_head (f : Nat → Int) : ∀ M, 1 ≤ M → (∀ i, 1 ≤ i → i < M → f i = 0) → sumF f M = f 0
  | 0, h, _ => absurd h (by omega)
  | 1, _, _ => by simp [sumF]
  | M + 2, _, hz => by
    rw [sumF, sumF_head f (M + 1) (by omega) (fun i h1 h2 => hz i h1 (by omega)), hz (M + 1) (by omega) (by omega)]; omega
theorem short_last {c c' : List Int} (hl : ∀ h : c' ≠ [], 0 < c'.getLast h) (he : ∀ i, c.getD i 0 = c'.getD i 0) : c'.length ≤ c.length := by
  by_cases h : c'.length ≤ c.length
  · exact h
  · exfalso
    have hne : c' ≠ [] := by intro e; rw [e] at h; simp at h
    have h1 := hl hne
    rw [List.getLast_eq_getElem] at h1
    have h2 := he (c'.length - 1)
    rw [List.getD_eq_getElem?_getD, List.getElem?_eq_none (by omega), List.getD_eq_getElem?_getD, List.getElem?_eq_getElem (by omega)] at h2
    simp at h2
    omega
theorem list_of_getD {c c' : List Int} (h1 : ∀ h : c ≠ [], 0 < c.getLast h) (h2 : ∀ h : c' ≠ [], 0 < c'.getLast h) (he : ∀ i, c.getD i 0 = c'.getD i 0) : c = c' := by
  have a := short_last h2 he
  have b := short_last h1 fun i => (he i).symm
  refine List.ext_getElem (by omega) fun i hi hi' => ?_
  have := he i
  rw [List.getD_eq_getElem?_getD, List.getElem?_eq_getElem hi, List.getD_eq_getElem?_getD, List.getElem?_eq_getElem hi'] at this
  simpa using this
end Mine
namespace Mine
theorem lr_facts (S : Sc) : 0 ≤ lr S ∧ (S.b : Int) ≤ lr S ∧ (S.c.length : Int) - 1 ≤ lr S := by unfold lr; omega
theorem ind_big {S : Sc} {t : Int} (ht : 1 ≤ t) (h : lr S < t) : indent S t = S.b + t * S.nt := by
  have := lr_facts S
  rw [indent_eq _ _ ht, wsum_small t ht S.c 0 (by omega) (by omega)]
  simp
theorem ind_simple {S : Sc} {t : Int} (ht : 1 ≤ t) (h : (S.c.length : Int) ≤ 1) : indent S t = S.b + t * S.nt := by
  rw [indent_eq _ _ ht, wsum_small t ht S.c 0 (by omega) (by omega)]
  simp
/-- a bigger factor wins -/
theorem mul_gap {N a b : Int} (hN : 0 < N) (h : a < b) : N * a + N ≤ N * b := by
  have := Int.mul_le_mul_of_nonneg_left (show a + 1 ≤ b by omega) (show 0 ≤ N by omega)
  rw [Int.mul_add, Int.mul_one] at this
  exact this
theorem less_iff {S S' : Sc} (h1 : indent S 1 = S.n) (h1' : indent S' 1 = S'.n) :
    lessB S S' = true ↔ ∀ j : Nat, j < (max (lr S) (lr S') + 1).toNat → indent S (1 + (j : Int)) < indent S' (1 + (j : Int)) := by
  have f := lr_facts S
  have f' := lr_facts S'
  unfold lessB
  by_cases hn : (S'.n : Int) ≤ S.n
  · rw [if_pos hn]
    constructor
    · intro h; cases h
    · intro h
      have := h 0 (by omega)
      simp only [Int.natCast_zero, Int.add_zero] at this
      omega
  · rw [if_neg hn]
    by_cases hs : (simple S && simple S') = true
    · rw [if_pos hs]
      simp only [simple, Bool.and_eq_true, decide_eq_true_eq] at hs
      rw [decide_eq_true_eq]
      constructor
      · intro hnt j _
        rw [ind_simple (by omega) hs.1, ind_simple (by omega) hs.2]
        rw [ind_simple (by omega) hs.1] at h1
        rw [ind_simple (by omega) hs.2] at h1'
        have := Int.mul_le_mul_of_nonneg_left hnt (show (0 : Int) ≤ (j : Int) by omega)
        rw [Int.add_mul, Int.add_mul, Int.one_mul, Int.one_mul]
        omega
      · intro h
        by_cases hc : (S.nt : Int) ≤ S'.nt
        · exact hc
        · exfalso
          have h2 := h (max (lr S) (lr S')).toNat (by omega)
          have e : (1 : Int) + ((max (lr S) (lr S')).toNat : Int) = max (lr S) (lr S') + 1 := by omega
          rw [e, ind_big (by omega) (by omega), ind_big (by omega) (by omega)] at h2
          have := mul_gap (show 0 < max (lr S) (lr S') + 1 by omega) (show (S'.nt : Int) < S.nt by omega)
          omega
    · rw [if_neg hs, decide_eq_true_eq]
      constructor
      · intro h j hj
        by_cases e : j = 0
        · subst e
          simp only [Int.natCast_zero, Int.add_zero]
          omega
        · have := h (j - 1) (by omega)
          rw [show (2 : Int) + ((j - 1 : Nat) : Int) = 1 + (j : Int) by omega] at this
          exact this
      · intro h j hj
        have := h (j + 1) (by omega)
        rw [show (1 : Int) + ((j + 1 : Nat) : Int) = 2 + (j : Int) by omega] at this
        exact this
theorem eq_iff {S S' : Sc} (g : Good S) (g' : Good S') :
    (S.c = S'.c ∧ S.b = S'.b) ↔ ∀ j : Nat, j < (max (lr S) (lr S') + 1).toNat → indent S (1 + (j : Int)) = indent S' (1 + (j : Int)) := by
  have f := lr_facts S
  have f' := lr_facts S'
  constructor
  · rintro ⟨hc, hb⟩ j _
    have hnt : (S.nt : Int) = S'.nt := by rw [← g.sum, ← g'.sum, hc]
    rw [indent_eq _ _ (by omega), indent_eq _ _ (by omega), hc, hb, hnt]
  · intro h
    have hN := h (max (lr S) (lr S')).toNat (by omega)
    have e : (1 : Int) + ((max (lr S) (lr S')).toNat : Int) = max (lr S) (lr S') + 1 := by omega
    rw [e, ind_big (by omega) (by omega), ind_big (by omega) (by omega)] at hN
    have hnt : (S.nt : Int) = S'.nt := by
      by_cases h1 : (S.nt : Int) < S'.nt
      · have := mul_gap (show 0 < max (lr S) (lr S') + 1 by omega) h1
        omega
      · by_cases h2 : (S'.nt : Int) < S.nt
        · have := mul_gap (show 0 < max (lr S) (lr S') + 1 by omega) h2
          omega
        · omega
    rw [hnt] at hN
    have hb : S.b = S'.b := by omega
    refine ⟨?_, hb⟩
    have hW : ∀ t : Int, 1 ≤ t → t ≤ max (lr S) (lr S') + 1 → wsum t 0 S.c = wsum t 0 S'.c := by
      intro t ht htN
      have := h (t - 1).toNat (by omega)
      rw [show (1 : Int) + ((t - 1).toNat : Int) = t by omega, indent_eq _ _ ht, indent_eq _ _ ht, hb, hnt] at this
      have h3 : t * (wsum t 0 S.c + S'.nt) = t * (wsum t 0 S'.c + S'.nt) := by omega
      have := Int.eq_of_mul_eq_mul_left (by omega) h3
      omega
    have hM1 : S.c.length ≤ (max (lr S) (lr S') + 1).toNat := by omega
    have hM2 : S'.c.length ≤ (max (lr S) (lr S') + 1).toNat := by omega
    have hz := wsumF_zero (fun i => S.c.getD i 0 - S'.c.getD i 0) (max (lr S) (lr S') + 1).toNat (fun t ht htM => by
      rw [wsumF_sub, wsumF_list t S.c _ hM1, wsumF_list t S'.c _ hM2, hW t ht (by omega)]; omega)
    have h0 := sumF_head (fun i => S.c.getD i 0 - S'.c.getD i 0) (max (lr S) (lr S') + 1).toNat (by omega) hz
    rw [sumF_sub, sumF_list _ _ hM1, sumF_list _ _ hM2, g.sum, g'.sum] at h0
    refine list_of_getD g.last g'.last fun i => ?_
    by_cases hi0 : i = 0
    · subst hi0; omega
    · by_cases hiM : i < (max (lr S) (lr S') + 1).toNat
      · have := hz i (by omega) hiM
        omega
      · rw [List.getD_eq_getElem?_getD, List.getElem?_eq_none (by omega), List.getD_eq_getElem?_getD, List.getElem?_eq_none (by omega)]
theorem run_mono_aux : ∀ (r : List Nat) (s : Nat × Nat), max s.1 s.2 ≤ max (r.foldl runStep s).1 (r.foldl runStep s).2
  | [], _ => Nat.le_refl _
  | x :: r, s => by
    rw [List.foldl_cons]
    refine Nat.le_trans ?_ (run_mono_aux r (runStep s x))
    unfold runStep
    split <;> dsimp only <;> omega
theorem run_mono (l r : List Nat) : runOf l ≤ runOf (l ++ r) := by
  unfold runOf
  rw [List.foldl_append]
  exact run_mono_aux r _
theorem cnt_rep (c x : Nat) : ∀ n : Nat, cnt c (List.replicate n x) = if x = c then (n : Int) else 0
  | 0 => by simp [cnt_nil]
  | n + 1 => by
    rw [List.replicate_succ, cnt_cons, cnt_rep c x n]
    split <;> omega
theorem lead_nt {la : List Nat} (h : la.all isWs = true) (tabs blanks : Nat) : ((scan (leadOf la tabs blanks)).nt : Int) = (scan la).nt + tabs := by
  have e1 := tabs_aux (leadOf la tabs blanks) Sc.init (lead_ws h tabs blanks)
  have e2 := tabs_aux la Sc.init h
  unfold scan
  rw [e1, e2]
  unfold leadOf
  rw [cnt_append, cnt_append, cnt_rep, cnt_rep, if_pos rfl, if_neg (by decide)]
  omega
theorem base_big {la : List Nat} {tabs : Nat} : ∃ β : Int, ∀ t : Int, 1 ≤ t → lr (scan la) < t → baseOf la tabs t = β + t * ((scan la).nt + tabs) := by
  have f := lr_facts (scan la)
  by_cases h : 0 < tabs
  · refine ⟨0, fun t ht hl => ?_⟩
    unfold baseOf
    rw [if_pos h, col_eq t ht, ind_big ht hl, Int.add_mul_ediv_left _ _ (by omega), Int.ediv_eq_zero_of_lt (by omega) (by omega), Int.mul_comm]
    simp
  · refine ⟨(scan la).b, fun t ht hl => ?_⟩
    unfold baseOf
    rw [if_neg h, col_eq t ht, ind_big ht hl]
    obtain rfl : tabs = 0 := by omega
    simp
end Mine
namespace Mine
theorem ind_col {l : List Nat} {t : Int} (ht : 1 ≤ t) : indent (scan l) t = colOf t l := (col_eq t ht l).symm
theorem idx_lt {t far N : Int} (h1 : 1 ≤ t) (h2 : t ≤ far) (h3 : far ≤ N) : (t - 1).toNat < N.toNat := by omega
theorem law_less {la lb : List Nat} (wa : la.all isWs = true) (wb : lb.all isWs = true) (tabs blanks : Nat) (need far : Int) (hfar : far = 1 + max (runOf la : Int) (runOf lb))
    (hmax : ¬ ((scan la).nt + (tabs : Int) < (scan lb).nt) → (∃ t, 1 ≤ t ∧ t ≤ far ∧ need = colOf t lb - baseOf la tabs t) ∧ ∀ t, 1 ≤ t → t ≤ far → colOf t lb - baseOf la tabs t ≤ need) :
    lessB (scan lb) (scan (leadOf la tabs blanks)) = true ↔ (¬ ((scan la).nt + (tabs : Int) < (scan lb).nt) ∧ need < blanks) := by
  have wl := lead_ws wa tabs blanks
  have hnt := lead_nt wa tabs blanks
  have ra := run_eq wa
  have rb := run_eq wb
  have rl := run_eq wl
  have hmono : runOf la ≤ runOf (leadOf la tabs blanks) := by
    unfold leadOf; rw [List.append_assoc]; exact run_mono _ _
  have fb := lr_facts (scan lb)
  have fl := lr_facts (scan (leadOf la tabs blanks))
  have fa := lr_facts (scan la)
  rw [less_iff (one_eq _) (one_eq _)]
  obtain ⟨β, hβ⟩ := @base_big la tabs
  have hcl : ∀ t : Int, 1 ≤ t → indent (scan (leadOf la tabs blanks)) t = baseOf la tabs t + blanks := fun t ht => by rw [ind_col ht, col_lead t ht]
  constructor
  · intro h
    have hnv : ¬ ((scan la).nt + (tabs : Int) < (scan lb).nt) := by
      intro hc
      have h2 := h (max (lr (scan lb)) (lr (scan (leadOf la tabs blanks)))).toNat (by omega)
      have e : (1 : Int) + ((max (lr (scan lb)) (lr (scan (leadOf la tabs blanks)))).toNat : Int) = max (lr (scan lb)) (lr (scan (leadOf la tabs blanks))) + 1 := by omega
      rw [e, ind_big (by omega) (by omega), ind_big (by omega) (by omega), hnt] at h2
      have := mul_gap (show 0 < max (lr (scan lb)) (lr (scan (leadOf la tabs blanks))) + 1 by omega) hc
      omega
    refine ⟨hnv, ?_⟩
    obtain ⟨⟨t, ht, htf, hneed⟩, _⟩ := hmax hnv
    clear hmax
    have hNf : far ≤ max (lr (scan lb)) (lr (scan (leadOf la tabs blanks))) + 1 := by omega
    have h2 := h (t - 1).toNat (idx_lt ht htf hNf)
    rw [show (1 : Int) + ((t - 1).toNat : Int) = t by omega, ind_col ht, hcl t ht] at h2
    omega
  · rintro ⟨hnv, hnd⟩ j hj
    obtain ⟨_, hle⟩ := hmax hnv
    clear hmax
    have ht : (1 : Int) ≤ 1 + (j : Int) := by omega
    rw [hcl _ ht]
    by_cases hj2 : 1 + (j : Int) ≤ far
    · rw [ind_col ht]
      have := hle _ ht hj2
      omega
    · have h3 := hle far (by omega) (by omega)
      rw [← ind_col (by omega), ind_big (by omega) (by omega), hβ far (by omega) (by omega)] at h3
      rw [ind_big ht (by omega), hβ _ ht (by omega)]
      have h4 := Int.mul_le_mul_of_nonneg_left (show ((scan lb).nt : Int) ≤ (scan la).nt + (tabs : Int) by omega) (show (0 : Int) ≤ 1 + (j : Int) - far by omega)
      rw [Int.sub_mul, Int.sub_mul] at h4
      omega
theorem wsum_nonneg (t : Int) (ht : 1 ≤ t) : ∀ (c : List Int) (k : Int), 0 ≤ k → (∀ v ∈ c, 0 ≤ v) → 0 ≤ wsum t k c
  | [], _, _, _ => Int.le_refl _
  | x :: c, k, hk, h => by
    have h1 := wsum_nonneg t ht c (k + 1) (by omega) fun v hv => h v (.tail _ hv)
    have h2 := Int.mul_nonneg (Int.ediv_nonneg hk (show 0 ≤ t by omega)) (h x (.head _))
    rw [wsum]; omega
theorem wsum_le (t : Int) (ht : 1 ≤ t) : ∀ (c : List Int) (k : Int), 0 ≤ k → (∀ v ∈ c, 0 ≤ v) → t * wsum t k c ≤ wsum 1 k c
  | [], _, _, _ => by simp [wsum]
  | x :: c, k, hk, h => by
    have h1 := wsum_le t ht c (k + 1) (by omega) fun v hv => h v (.tail _ hv)
    have h2 : t * (k / t) ≤ k := by rw [Int.mul_comm]; exact Int.ediv_mul_le k (by omega)
    have h3 := Int.mul_le_mul_of_nonneg_right h2 (h x (.head _))
    rw [wsum, wsum, Int.mul_add, Int.ediv_one, ← Int.mul_assoc]; omega
theorem col_le {l : List Nat} {t : Int} (ht : 1 ≤ t) : colOf t l ≤ l.length + t * (scan l).nt := by
  have g := scan_good l
  have h1 := wsum_le t ht (scan l).c 0 (by omega) g.pos
  have h2 := one_eq l
  have hs := (scan_sizes l).2.1
  rw [indent_eq _ _ (by omega), Int.one_mul] at h2
  rw [col_eq t ht, indent_eq _ _ ht, Int.mul_add]
  omega
theorem col_ge {l : List Nat} {t : Int} (ht : 1 ≤ t) : t * (scan l).nt ≤ colOf t l := by
  have g := scan_good l
  have h1 := Int.mul_nonneg (show 0 ≤ t by omega) (wsum_nonneg t ht (scan l).c 0 (by omega) g.pos)
  rw [col_eq t ht, indent_eq _ _ ht, Int.mul_add]
  omega
theorem base_ge {la : List Nat} {tabs : Nat} {t : Int} (ht : 1 ≤ t) : t * ((scan la).nt + (tabs : Int)) ≤ baseOf la tabs t := by
  have h1 := @col_ge la t ht
  unfold baseOf
  split
  · have h2 : ((scan la).nt : Int) ≤ colOf t la / t := by rw [Int.le_ediv_iff_mul_le (by omega), Int.mul_comm]; exact h1
    rw [Int.mul_comm]
    exact Int.mul_le_mul_of_nonneg_right (by omega) (by omega)
  · obtain rfl : tabs = 0 := by omega
    simpa using h1
theorem diff_le {la lb : List Nat} {tabs : Nat} {t : Int} (ht : 1 ≤ t) (h : ¬ ((scan la).nt + (tabs : Int) < (scan lb).nt)) : colOf t lb - baseOf la tabs t ≤ lb.length := by
  have h1 := @col_le lb t ht
  have h2 := @base_ge la tabs t ht
  have h3 := Int.mul_le_mul_of_nonneg_left (show ((scan lb).nt : Int) ≤ (scan la).nt + (tabs : Int) by omega) (show 0 ≤ t by omega)
  omega
theorem run_sp (l : List Nat) : ∀ n : Nat, runOf (l ++ List.replicate n 32) ≤ runOf l + n
  | 0 => by simp
  | n + 1 => by
    have ih := run_sp l n
    rw [List.replicate_succ', ← List.append_assoc]
    unfold runOf at ih ⊢
    rw [List.foldl_append, List.foldl_cons, List.foldl_nil]
    unfold runStep at ih ⊢
    rw [if_neg (by decide)]
    dsimp only
    omega
theorem run_tab (l : List Nat) : ∀ n : Nat, runOf (l ++ List.replicate n 9) ≤ runOf l
  | 0 => by simp
  | n + 1 => by
    have ih := run_tab l n
    rw [List.replicate_succ', ← List.append_assoc]
    unfold runOf at ih ⊢
    rw [List.foldl_append, List.foldl_cons, List.foldl_nil]
    unfold runStep at ih ⊢
    rw [if_pos rfl]
    dsimp only
    omega
theorem run_lead (la : List Nat) (tabs blanks : Nat) : runOf (leadOf la tabs blanks) ≤ runOf la + blanks := by
  unfold leadOf
  have h1 := run_sp (la ++ List.replicate tabs 9) blanks
  have h2 := run_tab la tabs
  omega
end Mine
namespace Mine
open PySem.Spec PyProof.V PySem.Calls
/-- a cut: the statement ends in Mid -/
def CutPost (Mid : Shared → Prop) (f : Flow) (s' : Shared) : Prop := f = .next ∧ Mid s'
theorem cutW {prog : Program} {w : World} {A : Around} {E : Value → Shared → Prop} {s : Shared} {t : Sem Flow} {Q : Flow → Shared → Prop} (Mid : Shared → Prop)
    (h1 : wpAny (model prog w) A t (CutPost Mid) E s) (h2 : ∀ s', Mid s' → Q .next s') : wpAny (model prog w) A t Q E s :=
  wpAny_mono h1 (fun _ s' p => p.1 ▸ h2 s' p.2) fun _ _ e => e
def basesOf (la : List Nat) (tabs n : Nat) : List Int := (List.range n).map fun (j : Nat) => baseOf la tabs (1 + (j : Int))
theorem basesOf_zero (la : List Nat) (n : Nat) : basesOf la 0 n = colsOf la n := by
  unfold basesOf colsOf baseOf
  simp
/-- behind the base: its list stands in the cell c4 -/
def MidBase (h₀ : Heap) (L c3 c4 c5 : Addr) (o3 o5 : Obj) (m : Str → Option Value) (U : List (Addr × Obj)) (la : List Nat) (tabs n : Nat) (s₀ s' : Shared) : Prop :=
  ∃ h' tk o4 bl vb kb U', s' = { s₀ with heap := h', toks := tk } ∧ Fr h₀ L h' m ∧ News h₀ L h' ((c3, o3) :: (c4, o4) :: (c5, o5) :: U') ∧ (∀ p ∈ U, p ∈ U') ∧
    (∀ p ∈ U', p.1 ≠ c3) ∧ (∀ p ∈ U', p.1 ≠ c4) ∧ (∀ p ∈ U', p.1 ≠ c5) ∧ o4.data = .cell (some (.ref bl)) ∧ (bl, listOf (List.toArray vb) kb) ∈ U' ∧ IntsAre vb (basesOf la tabs n)
theorem cutBase {prog : Program} {w : World} {A : Around} {E : Value → Shared → Prop} {s : Shared} {t : Sem Flow} {Q : Flow → Shared → Prop} {h₀ : Heap} {L c3 c4 c5 : Addr} {o3 o4 o5 : Obj} {m : Str → Option Value} {U : List (Addr × Obj)} (la : List Nat) (tabs n : Nat)
    (F₉ : Fr h₀ L s.heap m) (N₉ : News h₀ L s.heap ((c3, o3) :: (c4, o4) :: (c5, o5) :: U))
    (h1 : wpAny (model prog w) A t (CutPost (MidBase h₀ L c3 c4 c5 o3 o5 m U la tabs n s)) E s) (h2 : ∀ s', MidBase h₀ L c3 c4 c5 o3 o5 m U la tabs n s s' → Q .next s') : wpAny (model prog w) A t Q E s := cutW _ h1 h2
theorem midBase_same {h₀ : Heap} {L c3 c4 c5 : Addr} {o3 o4 o5 : Obj} {m : Str → Option Value} {U : List (Addr × Obj)} {la : List Nat} {tabs n : Nat} {s₀ : Shared} {h' : Heap} {tk kb : Nat} {bl : Addr} {vb : List Value}
    (F : Fr h₀ L h' m) (N : News h₀ L h' ((c3, o3) :: (c4, o4) :: (c5, o5) :: U)) (h3 : ∀ p ∈ U, p.1 ≠ c3) (h4 : ∀ p ∈ U, p.1 ≠ c4) (h5 : ∀ p ∈ U, p.1 ≠ c5) (hd : o4.data = .cell (some (.ref bl))) (hb : (bl, listOf (List.toArray vb) kb) ∈ U) (hI : IntsAre vb (basesOf la tabs n)) :
    CutPost (MidBase h₀ L c3 c4 c5 o3 o5 m U la tabs n s₀) .next { s₀ with heap := h', toks := tk } :=
  ⟨rfl, h', tk, o4, bl, vb, kb, U, rfl, F, N, fun _ h => h, h3, h4, h5, hd, hb, hI⟩
end Mine
namespace Mine
open PySem.Spec PyProof.V PySem.Calls
theorem basesOf_len (la : List Nat) (tabs n : Nat) : (basesOf la tabs n).length = n := by simp [basesOf]
theorem basesOf_succ (la : List Nat) (tabs n : Nat) : basesOf la tabs (n + 1) = basesOf la tabs n ++ [baseOf la tabs (1 + (n : Int))] := by simp [basesOf, List.range_succ]
theorem getD_cols (la : List Nat) (n : Nat) (i : Int) (h0 : 0 ≤ i) (h1 : i < n) : (colsOf la n).getD i.toNat 0 = colOf (1 + i) la := by
  have h2 : i.toNat < n := by omega
  have e : (1 : Int) + (i.toNat : Int) = 1 + i := by omega
  simp [colsOf, List.getD, h2, Int.toNat_of_nonneg h0]
theorem getD_bases (la : List Nat) (tabs n : Nat) (i : Int) (h0 : 0 ≤ i) (h1 : i < n) : (basesOf la tabs n).getD i.toNat 0 = baseOf la tabs (1 + i) := by
  have h2 : i.toNat < n := by omega
  simp [basesOf, List.getD, h2, Int.toNat_of_nonneg h0]
section
variable {prog : Program} {w : World} {A : Around} {E : Value → Shared → Prop} {s : Shared} {h₀ : Heap} {L l : Addr} {news : List (Addr × Obj)} {vs : List Value} {Q : Value → Shared → Prop} {u : Tok}
theorem item_cols {value slice : Expr} {k n : Nat} {i : Int} {la : List Nat} (N : News h₀ L s.heap news) (hm : (l, listOf (List.toArray vs) k) ∈ news) (hI : IntsAre vs (colsOf la n)) (hn : n ≤ 1000)
    (h0 : 0 ≤ i) (h1 : i < n) (h : ∀ t, Q (.int (colOf (1 + i) la) t) s)
    (hs : subscripted slice false (.ref l) (.int i u) = operate [.ref l, .int i u] (getItem (.ref l) (.int i u)) := by with_unfolding_all rfl) :
    wpAny (model prog w) A (subscriptTail value slice (.ref l) (.int i u)) Q E s :=
  list_item (k := n) N hm hI (by rw [colsOf_len]; exact Nat.le_refl _) hn h0 (by rw [colsOf_len]; exact h1) (fun t => by rw [getD_cols la n i h0 h1]; exact h t) hs
theorem item_bases {value slice : Expr} {k n tabs : Nat} {i : Int} {la : List Nat} (N : News h₀ L s.heap news) (hm : (l, listOf (List.toArray vs) k) ∈ news) (hI : IntsAre vs (basesOf la tabs n)) (hn : n ≤ 1000)
    (h0 : 0 ≤ i) (h1 : i < n) (h : ∀ t, Q (.int (baseOf la tabs (1 + i)) t) s)
    (hs : subscripted slice false (.ref l) (.int i u) = operate [.ref l, .int i u] (getItem (.ref l) (.int i u)) := by with_unfolding_all rfl) :
    wpAny (model prog w) A (subscriptTail value slice (.ref l) (.int i u)) Q E s :=
  list_item (k := n) N hm hI (by rw [basesOf_len]; exact Nat.le_refl _) hn h0 (by rw [basesOf_len]; exact h1) (fun t => by rw [getD_bases la tabs n i h0 h1]; exact h t) hs
end
theorem base_step {la : List Nat} {i j : Nat} {ys : List Value} {t : Tok} {v : Int} (hv : IntsAre ys (basesOf la i j)) (hi : 0 < i) (e : v = ((colOf (1 + (1 + (j : Int) - 1)) la).fdiv (1 + (j : Int)) + (0 + (i : Int))) * (1 + (j : Int))) :
    IntsAre (ys ++ [.int v t]) (basesOf la i (j + 1)) := by
  have e2 : v = baseOf la i (1 + (j : Int)) := by
    rw [e, show (1 : Int) + (1 + (j : Int) - 1) = 1 + (j : Int) by omega, Int.fdiv_eq_ediv_of_nonneg _ (by omega)]
    unfold baseOf
    rw [if_pos hi, Int.zero_add]
  rw [basesOf_succ, ← e2]
  exact ints_snoc hv
theorem ne_of_off1 {D : Addr} : ∀ {l : List (Addr × Obj)}, LCg.Off1 D l → ∀ p ∈ l, p.1 ≠ D
  | [], _, _, hp => nomatch hp
  | _ :: _, h, p, hp => by
    rcases List.mem_cons.mp hp with rfl | hp
    · exact h.1
    · exact ne_of_off1 h.2 p hp
theorem midBase_new {h₀ : Heap} {L c3 c4 c5 D : Addr} {o3 o4 o5 : Obj} {m : Str → Option Value} {U : List (Addr × Obj)} {la : List Nat} {tabs n : Nat} {s₀ : Shared} {h' : Heap} {tk : Nat} {ys : List Value}
    (F : Fr h₀ L h' m) (N : News h₀ L h' ((D, LCg.lst ys) :: (c3, o3) :: (c4, o4) :: (c5, o5) :: U)) (d3 : @Ne Nat c3 D) (d4 : @Ne Nat c4 D) (d5 : @Ne Nat c5 D) (h3 : ∀ p ∈ U, p.1 ≠ c3) (h4 : ∀ p ∈ U, p.1 ≠ c4) (h5 : ∀ p ∈ U, p.1 ≠ c5) (hd : o4.data = .cell (some (.ref D))) (hI : IntsAre ys (basesOf la tabs n)) :
    CutPost (MidBase h₀ L c3 c4 c5 o3 o5 m U la tabs n s₀) .next { s₀ with heap := h', toks := tk } := by
  refine ⟨rfl, h', tk, o4, D, ys, ys.length, (D, LCg.lst ys) :: U, rfl, F, ?_, fun _ h => .tail _ h, ?_, ?_, ?_, hd, .head _, hI⟩
  · intro p hp
    refine N p ?_
    simp only [List.mem_cons] at hp ⊢
    rcases hp with h | h | h | h | h
    · exact .inr (.inl h)
    · exact .inr (.inr (.inl h))
    · exact .inr (.inr (.inr (.inl h)))
    · exact .inl h
    · exact .inr (.inr (.inr (.inr h)))
  · intro p hp
    rcases List.mem_cons.mp hp with rfl | hp
    · exact d3.symm
    · exact h3 p hp
  · intro p hp
    rcases List.mem_cons.mp hp with rfl | hp
    · exact d4.symm
    · exact h4 p hp
  · intro p hp
    rcases List.mem_cons.mp hp with rfl | hp
    · exact d5.symm
    · exact h5 p hp
end Mine
namespace Mine
open PySem.Spec PyProof.V PySem.Calls
/-- no number of spaces does -/
def Never (la lb : List Nat) (i : Nat) : Prop := ((scan la).nt : Int) + (i : Int) < (scan lb).nt
/-- what need is -/
def NeedIs (la lb : List Nat) (i : Nat) (far need : Int) : Prop :=
  (Never la lb i → need = 3) ∧ (¬ Never la lb i → (∃ t, 1 ≤ t ∧ t ≤ far ∧ need = colOf t lb - baseOf la i t) ∧ ∀ t, 1 ≤ t → t ≤ far → colOf t lb - baseOf la i t ≤ need)
def needs (la lb : List Nat) (i n : Nat) : List Int := (List.range n).map fun (j : Nat) => colOf (1 + (j : Int)) lb - baseOf la i (1 + (j : Int))
theorem needs_succ (la lb : List Nat) (i n : Nat) : needs la lb i (n + 1) = needs la lb i n ++ [colOf (1 + (n : Int)) lb - baseOf la i (1 + (n : Int))] := by simp [needs, List.range_succ]
theorem needs_len (la lb : List Nat) (i n : Nat) : (needs la lb i n).length = n := by simp [needs]
theorem need_step {la lb : List Nat} {i j : Nat} {ys : List Value} {t : Tok} {v : Int} (hv : IntsAre ys (needs la lb i j)) (e : v = colOf (1 + (0 + (j : Int))) lb - baseOf la i (1 + (0 + (j : Int)))) :
    IntsAre (ys ++ [.int v t]) (needs la lb i (j + 1)) := by
  rw [needs_succ]
  rw [Int.zero_add] at e
  rw [← e]
  exact ints_snoc hv
theorem needs_of {la lb : List Nat} {i : Nat} {far M : Int} (hf : 1 ≤ far) (hn : ¬ Never la lb i) (h1 : M ∈ needs la lb i far.toNat) (h2 : ∀ x ∈ needs la lb i far.toNat, x ≤ M) : NeedIs la lb i far M := by
  refine ⟨fun h => absurd h hn, fun _ => ⟨?_, ?_⟩⟩
  · obtain ⟨j, hj, e⟩ := List.mem_map.mp h1
    have := List.mem_range.mp hj
    exact ⟨1 + (j : Int), by omega, by omega, e.symm⟩
  · intro t ht ht'
    have e : (1 : Int) + ((t - 1).toNat : Int) = t := by omega
    have := h2 (colOf t lb - baseOf la i t) (List.mem_map.mpr ⟨(t - 1).toNat, List.mem_range.mpr (by omega), by rw [e]⟩)
    exact this
theorem need_le {la lb : List Nat} {i : Nat} {far need : Int} (h : NeedIs la lb i far need) (hl : lb.length ≤ 20) : need ≤ 20 := by
  by_cases hn : Never la lb i
  · have := h.1 hn; omega
  · obtain ⟨⟨t, h1, h2, e⟩, _⟩ := h.2 hn
    have := diff_le (la := la) (lb := lb) (tabs := i) h1 hn
    omega
/-- behind need -/
def MidNeed (h₀ : Heap) (L : Addr) (m : Str → Option Value) (led : List (Addr × Obj)) (la lb : List Nat) (i : Nat) (far : Int) (s₀ s' : Shared) : Prop :=
  ∃ h' tk need tn, s' = { s₀ with heap := h', toks := tk } ∧ Fr h₀ L h' (fun z => if z = Str.ofString "need" then some (.int need tn) else m z) ∧ News h₀ L h' led ∧ NeedIs la lb i far need
theorem cutNeed {prog : Program} {w : World} {A : Around} {E : Value → Shared → Prop} {s : Shared} {t : Sem Flow} {Q : Flow → Shared → Prop} {h₀ : Heap} {L : Addr} {m : Str → Option Value} {led : List (Addr × Obj)} (la lb : List Nat) (i : Nat) (far : Int)
    (F₉ : Fr h₀ L s.heap m) (N₉ : News h₀ L s.heap led)
    (h1 : wpAny (model prog w) A t (CutPost (MidNeed h₀ L m led la lb i far s)) E s) (h2 : ∀ s', MidNeed h₀ L m led la lb i far s s' → Q .next s') : wpAny (model prog w) A t Q E s := cutW _ h1 h2
theorem midNeed {h₀ : Heap} {L : Addr} {m : Str → Option Value} {led : List (Addr × Obj)} {la lb : List Nat} {i : Nat} {far need : Int} {tn : Tok} {s₀ : Shared} {h' : Heap} {tk : Nat}
    (F : Fr h₀ L h' (fun z => if z = Str.ofString "need" then some (.int need tn) else m z)) (N : News h₀ L h' led) (hN : NeedIs la lb i far need) : CutPost (MidNeed h₀ L m led la lb i far s₀) .next { s₀ with heap := h', toks := tk } :=
  ⟨rfl, h', tk, need, tn, rfl, F, N, hN⟩
theorem never_of {la lb : List Nat} {i : Nat} (oka : LeadOk la) (okb : LeadOk lb) : (Txt.count (strOf la) (Str.ofString "\t") + (0 + (i : Int)) < Txt.count (strOf lb) (Str.ofString "\t")) ↔ Never la lb i := by
  rw [tabs_eq oka.ws, tabs_eq okb.ws, Int.zero_add]
  rfl
end Mine
namespace Mine
open PySem.Spec PyProof.V PySem.Calls
theorem fmod8 (n : Int) : 0 ≤ Int.fmod n 8 ∧ Int.fmod n 8 ≤ 21 := by
  rw [Int.fmod_eq_emod_of_nonneg _ (by decide)]
  omega
section
variable {prog : Program} {w : World} {A : Around} {E : Value → Shared → Prop} {s : Shared} {env : Env} {h₀ : Heap} {body : List Stmt} {Q : Flow → Shared → Prop}
abbrev InPost (h₀ : Heap) (L c5 : Addr) (m₀ : Str → Option Value) (V : List (Addr × Obj)) (s₁ : Shared) : Flow → Shared → Prop :=
  MPost (σ := Unit) (fun _ => []) (fun _ => True) h₀ L c5 stI m₀ V s₁
theorem in_next {L c5 : Addr} {m₀ m₂ : Str → Option Value} {V : List (Addr × Obj)} {s₁ : Shared} {h' : Heap} {tk : Nat} {oc : Obj}
    (F : Fr h₀ L h' m₂) (N : News h₀ L h' ((c5, oc) :: V)) (hm : ∀ y, stI.contains y = false → m₂ y = m₀ y) (hov : ∃ v', oc.data = .cell v') : InPost h₀ L c5 m₀ V s₁ .next { s₁ with heap := h', toks := tk } :=
  mnext () F hm N hov trivial
theorem law_inner {px : Pos} {l c3 c4 c5 : Addr} {a b c : Int} {ta tb tc : Tok} {k : Nat} {m₀ : Str → Option Value} {U : List (Addr × Obj)} {o3 o4 o5 : Obj}
    (hh : A.handled = none) (hk : env.scope.kind = .function) (hx : env.kindOf (Str.ofString "blanks") = some .cell) (hc : env.cells.lookup (Str.ofString "blanks") = some c5)
    (F : Fr h₀ env.locals s.heap m₀) (N : News h₀ env.locals s.heap ((l, listOf #[.int a ta, .int b tb, .int c tc] k) :: (c3, o3) :: (c4, o4) :: (c5, o5) :: U)) (ho5 : ∃ v, o5.data = .cell v)
    (l1 : c3 < l ∧ c4 < l ∧ c5 < l ∧ AllLt l U) (h35 : @Ne Nat c3 c5) (h45 : @Ne Nat c4 c5) (hn5 : ∀ p ∈ U, p.1 ≠ c5)
    (ha : 0 ≤ a ∧ a ≤ 21) (hb : 0 ≤ b ∧ b ≤ 21) (hcc : 0 ≤ c ∧ c ≤ 21)
    (hE : PassesOwn (model prog w) A env E)
    (turn : ∀ (b : Nat) (t : Tok) (u : Str → Option Value) (oc : Obj) (h : Heap) (tk : Nat) (V : List (Addr × Obj)), b ≤ 21 → oc.data = .cell (some (.int (b : Int) t)) → (c3, o3) ∈ V → (c4, o4) ∈ V → (∀ p ∈ U, p ∈ V) → Fr h₀ env.locals h (over stI u m₀) → News h₀ env.locals h ((c5, oc) :: V) →
      wpAny (model prog w) A (execs body env) (InPost h₀ env.locals c5 m₀ V { s with heap := h, toks := tk }) E { s with heap := h, toks := tk })
    (done : ∀ (u : Str → Option Value) (oc : Obj) (h : Heap) (tk : Nat), (∃ v', oc.data = .cell v') → Fr h₀ env.locals h (over stI u m₀) → News h₀ env.locals h ((c3, o3) :: (c4, o4) :: (c5, oc) :: U) → Q .next { s with heap := h, toks := tk }) :
    wpAny (model prog w) A (pyIter (.ref l)) (fun it s₂ => LoopAtC prog w A h₀ env (Str.ofString "blanks") px body Q E it s₂) E s := by
  have hI : IntsAre [.int a ta, .int b tb, .int c tc] [a, b, c] := .cons _ _ (.cons _ _ (.cons _ _ .nil))
  refine list_cellM (R := (c3, o3) :: (c4, o4) :: U) (k := k) (vs := [.int a ta, .int b tb, .int c tc]) stI hh hk hx hc hI F (fun _ _ => rfl) ?_ ho5 (Nat.ne_of_gt l1.2.2.1) ?_ ?_ hE ?_ ?_
  · intro p hp
    refine N p ?_
    simp only [List.mem_cons] at hp ⊢
    rcases hp with h | h | h | h | h
    · exact .inr (.inr (.inr (.inl h)))
    · exact .inl h
    · exact .inr (.inl h)
    · exact .inr (.inr (.inl h))
    · exact .inr (.inr (.inr (.inr h)))
  · intro p hp
    simp only [List.mem_cons] at hp
    rcases hp with rfl | rfl | hp
    · exact h35
    · exact h45
    · exact hn5 p hp
  · intro p hp
    simp only [List.mem_cons] at hp
    rcases hp with rfl | rfl | hp
    · exact Nat.ne_of_lt l1.1
    · exact Nat.ne_of_lt l1.2.1
    · exact ne_of_allLt l1.2.2.2 p hp
  · intro i v t u oc h tk V hv hod hs hVc F₁ N₁
    have hb : 0 ≤ v ∧ v ≤ 21 := by
      have hm := List.mem_of_getElem? hv
      simp only [List.mem_cons, List.not_mem_nil, or_false] at hm
      rcases hm with rfl | rfl | rfl
      · exact ha
      · exact hb
      · exact hcc
    have e : v = ((v.toNat : Nat) : Int) := by omega
    rw [e] at hod
    exact turn v.toNat t u oc h tk V (by omega) hod (hs _ (.head _)) (hs _ (.tail _ (.head _))) (fun p hp => hs p (.tail _ (.tail _ hp))) F₁ N₁
  · intro u oc h tk hov F₁ N₁
    refine done u oc h tk hov F₁ ?_
    intro p hp
    refine N₁ p ?_
    simp only [List.mem_cons] at hp ⊢
    rcases hp with h | h | h | h
    · exact .inr (.inl h)
    · exact .inr (.inr (.inl h))
    · exact .inl h
    · exact .inr (.inr (.inr h))
end
section
variable {prog : Program} {w : World} {A : Around} {E : Value → Shared → Prop} {s : Shared} {h₀ : Heap} {L l : Addr} {m : Str → Option Value} {news : List (Addr × Obj)} {Q : Value → Shared → Prop} {t u : Tok}
theorem mul_spN {n : Nat} (h1 : n ≤ 1000) (h : ∀ t' k, Q (.str (strOf (List.replicate n 32)) t') { s with toks := k }) : wpAny (model prog w) A (binaryOp .Mult (.str (Str.ofString " ") t) (.int (n : Int) u)) Q E s :=
  mul_sp (by omega) (by omega) fun t' k => by rw [Int.toNat_natCast]; exact h t' k
theorem mul_tabN {n : Nat} (h1 : n ≤ 1000) (h : ∀ t' k, Q (.str (strOf (List.replicate n 9)) t') { s with toks := k }) : wpAny (model prog w) A (binaryOp .Mult (.str (Str.ofString "\t") t) (.int (0 + (n : Int)) u)) Q E s :=
  mul_tab (by omega) (by omega) fun t' k => by rw [Int.zero_add, Int.toNat_natCast]; exact h t' k
theorem add_tabs {la : List Nat} {i : Nat} (h1 : la.length ≤ 900) (h2 : i ≤ 900) (h : ∀ t' tk, Q (.str (strOf (la ++ List.replicate i 9)) t') { s with toks := tk }) : wpAny (model prog w) A (binaryOp .Add (.str (strOf la) t) (.str (strOf (List.replicate i 9)) u)) Q E s :=
  add_of (by omega) (by rw [List.length_replicate]; omega) h
theorem add_lead {la : List Nat} {i b : Nat} (h1 : la.length ≤ 100) (h2 : i ≤ 100) (h3 : b ≤ 100) (h : ∀ t' tk, Q (.str (strOf (leadOf la i b)) t') { s with toks := tk }) : wpAny (model prog w) A (binaryOp .Add (.str (strOf (la ++ List.replicate i 9)) t) (.str (strOf (List.replicate b 32)) u)) Q E s :=
  add_of (by rw [List.length_append, List.length_replicate]; omega) (by rw [List.length_replicate]; omega) h
theorem leadOf_len (la : List Nat) (i b : Nat) : (leadOf la i b).length = la.length + i + b := by simp [leadOf, Nat.add_assoc]
/-- the call makes an object, on a new ledger -/
abbrev MakesWsU (P : Params) (news : List (Addr × Obj)) (S : Sc) (h₀ : Heap) (L : Addr) (m : Str → Option Value) (s : Shared) (Q : Value → Shared → Prop) : Prop :=
  ∀ (x : Addr) (W : List (Addr × Obj)) (h' : Heap) (tk' : Nat), Fr h₀ L h' m → News h₀ L h' W → (∀ p ∈ news, p ∈ W) → WsAt P W x S → Q (.ref x) { s with heap := h', toks := tk' }
theorem ws_in (w : World) (mean : ExcName → Option Value) (mg mb : Str → Option Value) (news : List (Addr × Obj)) (l : List Nat) (t : Tok) (hw : l.all isWs = true) (hx : l.length ≤ 900) :
    Does 2 w mean mg mb 76 news [.str (strOf (l ++ 120 :: [9])) t] (MakesWsU w.params news (scan l)) := by
  intro dp un gd cn cs a ccd cl outer A₀ base h₀ L m s Q E B F X N T hk hdp hun hret
  refine ws_of w mean mg mb news l [9] t hw (by simp only [List.length_append, List.length_cons, List.length_nil]; omega) dp un gd cn cs a ccd cl outer A₀ base h₀ L m s Q E B F X N T hk hdp hun ?_
  intro x led h' tk' F' N' _ hW
  exact hret x (led ++ news) h' tk' F' N' (fun p hp => List.mem_append_right _ hp) (hW.mono fun p hp => List.mem_append_left _ hp)
abbrev rangeObj (a b : Int) (t u v : Tok) : Obj := { cls := .type "range", dict := none, data := .fields #[.int a t, .int b u, .int 1 v], slots := #[] }
theorem range2_led {a b : Int} (F : Fr h₀ L s.heap m) (N : News h₀ L s.heap news)
    (h : ∀ r h' tk t₁ u₁ v₁, Fr h₀ L h' m → News h₀ L h' ((r, rangeObj a b t₁ u₁ v₁) :: news) → Q (.ref r) { s with heap := h', toks := tk }) :
    wpAny (model prog w) A (call (.type "range") [.int a t, .int b u]) Q E s := by
  refine range2_rows F N fun h' tk t₁ u₁ v₁ R F' N' _ => h _ h' tk t₁ u₁ v₁ F' fun p hp => ?_
  rcases List.mem_cons.mp hp with rfl | hp
  · exact ⟨R, Nat.ne_of_gt F.ns.lt, next_is_new F⟩
  · exact N' p hp
end
end Mine
namespace Mine
open PySem.Spec PyProof.V PySem.Calls
theorem stO_out {y : Str} (h : stO.contains y = false) : stI.contains y = false ∧ y ≠ Str.ofString "need" ∧ y ≠ Str.ofString "never" := by
  simp only [List.contains_cons, List.contains_nil, Bool.or_false, Bool.or_eq_false_iff, beq_eq_false_iff_ne] at h ⊢
  exact ⟨⟨h.2.2.1, h.2.2.2.1, h.2.2.2.2.1, h.2.2.2.2.2.1, h.2.2.2.2.2.2⟩, h.2.1, h.1⟩
theorem out_next {h₀ : Heap} {L c3 c4 c5 : Addr} {m₀ m₂ : Str → Option Value} {U U' : List (Addr × Obj)} {s₁ : Shared} {h' : Heap} {tk : Nat} {o3 o4 o5 : Obj}
    (F : Fr h₀ L h' m₂) (N : News h₀ L h' ((c3, o3) :: (c4, o4) :: (c5, o5) :: U')) (hs : ∀ p ∈ U, p ∈ U') (hm : ∀ y, stO.contains y = false → m₂ y = m₀ y) (h3 : ∃ v, o3.data = .cell v) (h4 : ∃ v, o4.data = .cell v) (h5 : ∃ v, o5.data = .cell v) :
    MPost (LedO c4 c5) PO h₀ L c3 stO m₀ U s₁ .next { s₁ with heap := h', toks := tk } := by
  refine mnext (o4, o5) F hm ?_ h3 ⟨h4, h5⟩
  intro p hp
  refine N p ?_
  simp only [LedO, List.cons_append, List.nil_append, List.mem_cons] at hp ⊢
  rcases hp with h | h | h | h
  · exact .inl h
  · exact .inr (.inl h)
  · exact .inr (.inr (.inl h))
  · exact .inr (.inr (.inr (hs p h)))
theorem over_out {u u2 : Str → Option Value} {need : Int} {tn : Tok} {nv : Value} {m : Str → Option Value} : ∀ y, stO.contains y = false →
    over stI u2 (fun z => if z = Str.ofString "need" then some (.int need tn) else (fun y => if y = Str.ofString "never" then some nv else if stO.contains y = true then u y else m y) z) y = m y := by
  intro y hy
  obtain ⟨a, b, c⟩ := stO_out hy
  unfold over
  simp only [a, b, c, hy, if_false, Bool.false_eq_true]
/-- behind a test: all stands as it stood -/
def MidIf (h₀ : Heap) (L : Addr) (m : Str → Option Value) (led : List (Addr × Obj)) (s₀ s' : Shared) : Prop :=
  ∃ h' tk, s' = { s₀ with heap := h', toks := tk } ∧ Fr h₀ L h' m ∧ News h₀ L h' led
theorem cutIf {prog : Program} {w : World} {A : Around} {E : Value → Shared → Prop} {s : Shared} {t : Sem Flow} {Q : Flow → Shared → Prop} {h₀ : Heap} {L : Addr} {m : Str → Option Value} {led : List (Addr × Obj)}
    (F₉ : Fr h₀ L s.heap m) (N₉ : News h₀ L s.heap led)
    (h1 : wpAny (model prog w) A t (CutPost (MidIf h₀ L m led s)) E s) (h2 : ∀ h' tk, Fr h₀ L h' m → News h₀ L h' led → Q .next { s with heap := h', toks := tk }) : wpAny (model prog w) A t Q E s :=
  cutW _ h1 fun s' ⟨h', tk, e, F', N'⟩ => e ▸ h2 h' tk F' N'
theorem midIf {h₀ : Heap} {L : Addr} {m : Str → Option Value} {led led' : List (Addr × Obj)} {s₀ : Shared} {h' : Heap} {tk : Nat} (F : Fr h₀ L h' m) (N : News h₀ L h' led') (hs : ∀ p ∈ led, p ∈ led') :
    CutPost (MidIf h₀ L m led s₀) .next { s₀ with heap := h', toks := tk } := ⟨rfl, h', tk, rfl, F, fun p hp => N p (hs p hp)⟩
theorem small_scan {l : List Nat} (h : l.length ≤ 900) : Small (scan l) := by
  have := scan_sizes l
  exact ⟨by omega, by omega⟩
end Mine
namespace Mine
open PySem.Spec PyProof.V PySem.Calls
theorem less_bad1 {c lss : Bool} (hl : lss = true → c = false) (h1 : c = true) (h2 : (lss != !c) = true) : False := by
  subst h1
  cases lss with
  | true => exact absurd (hl rfl) (by decide)
  | false => exact absurd h2 (by decide)
theorem bne_bad {x y : Bool} (h : x = true ↔ y = true) (h2 : (x != y) = true) : False := by
  cases x <;> cases y <;> simp_all
/-- the rows of the sizes up to n -/
def rowsOf (S S' : Sc) (n : Nat) : List Row3 := (List.range n).map (rowAt S S')
theorem rowsOf_succ (S S' : Sc) (n : Nat) : rowsOf S S' (n + 1) = rowsOf S S' n ++ [rowAt S S' n] := by simp [rowsOf, List.range_succ]
theorem rowsOf_len (S S' : Sc) (n : Nat) : (rowsOf S S' n).length = n := by simp [rowsOf]
theorem row_step {S S' : Sc} {j : Nat} {tl : List (Addr × Obj)} {ys : List Value} {D : Addr} {x y z : Int} {t u v : Tok} (h : RowsAt tl ys (rowsOf S S' j)) (e1 : x = 1 + (j : Int)) (e2 : y = indent S (1 + (j : Int))) (e3 : z = indent S' (1 + (j : Int))) :
    RowsAt ([(D, tup3 x y z t u v)] ++ tl) (ys ++ [.ref D]) (rowsOf S S' (j + 1)) := by
  rw [rowsOf_succ]
  have e : rowAt S S' j = (x, y, z) := by unfold rowAt; rw [e1, e2, e3]
  rw [e]
  exact (h.mono fun p hp => .tail _ hp).snoc (.head _)
theorem there_col {lb : List Nat} {j : Nat} : colOf (1 + (1 + (j : Int) - 1)) lb = indent (scan lb) (1 + (j : Int)) := by
  rw [show (1 : Int) + (1 + (j : Int) - 1) = 1 + (j : Int) by omega, col_eq _ (by omega)]
theorem lead_col {la : List Nat} {i b j : Nat} : baseOf la i (1 + (1 + (j : Int) - 1)) + (b : Int) = indent (scan (leadOf la i b)) (1 + (j : Int)) := by
  rw [show (1 : Int) + (1 + (j : Int) - 1) = 1 + (j : Int) by omega, ← col_lead _ (by omega), col_eq _ (by omega)]
/-- a list of rows is made and stored in x -/
def MidRows (h₀ : Heap) (L : Addr) (m : Str → Option Value) (led : List (Addr × Obj)) (x : Str) (rows : List Row3) (s₀ s' : Shared) : Prop :=
  ∃ h' tk D vs k W, s' = { s₀ with heap := h', toks := tk } ∧ Fr h₀ L h' (fun z => if z = x then some (.ref D) else m z) ∧ News h₀ L h' W ∧ (∀ p ∈ led, p ∈ W) ∧ (D, listOf (List.toArray vs) k) ∈ W ∧ RowsAt W vs rows
theorem cutRows {prog : Program} {w : World} {A : Around} {E : Value → Shared → Prop} {s : Shared} {t : Sem Flow} {Q : Flow → Shared → Prop} {h₀ : Heap} {L : Addr} {m : Str → Option Value} {led : List (Addr × Obj)} (x : Str) (rows : List Row3)
    (F₉ : Fr h₀ L s.heap m) (N₉ : News h₀ L s.heap led)
    (h1 : wpAny (model prog w) A t (CutPost (MidRows h₀ L m led x rows s)) E s)
    (h2 : ∀ (h' : Heap) (tk : Nat) (D : Addr) (vs : List Value) (k : Nat) (W : List (Addr × Obj)), Fr h₀ L h' (fun z => if z = x then some (.ref D) else m z) → News h₀ L h' W → (∀ p ∈ led, p ∈ W) → (D, listOf (List.toArray vs) k) ∈ W → RowsAt W vs rows → Q .next { s with heap := h', toks := tk }) : wpAny (model prog w) A t Q E s :=
  cutW _ h1 fun _ ⟨h', tk, D, vs, k, W, e, F', N', hs, hD, hR⟩ => e ▸ h2 h' tk D vs k W F' N' hs hD hR
theorem midRows {h₀ : Heap} {L D : Addr} {m : Str → Option Value} {led tl : List (Addr × Obj)} {x : Str} {rows : List Row3} {s₀ : Shared} {h' : Heap} {tk : Nat} {ys : List Value}
    (F : Fr h₀ L h' (fun z => if z = x then some (.ref D) else m z)) (N : News h₀ L h' ((D, LCg.lst ys) :: (tl ++ led))) (hR : RowsAt tl ys rows) : CutPost (MidRows h₀ L m led x rows s₀) .next { s₀ with heap := h', toks := tk } :=
  ⟨rfl, h', tk, D, ys, ys.length, _, rfl, F, N, fun _ hp => .tail _ (List.mem_append_right _ hp), .head _, hR.mono fun _ hp => .tail _ (List.mem_append_left _ hp)⟩
/-- the call makes a list of triples, on a new ledger -/
abbrev MakesRowsU (news : List (Addr × Obj)) (rows : List Row3) (h₀ : Heap) (L : Addr) (m : Str → Option Value) (s : Shared) (Q : Value → Shared → Prop) : Prop :=
  ∀ (l : Addr) (vs : List Value) (k : Nat) (X : List (Addr × Obj)) (h' : Heap) (tk' : Nat), Fr h₀ L h' m → News h₀ L h' X → (∀ p ∈ news, p ∈ X) → (l, listOf (List.toArray vs) k) ∈ X → RowsAt X vs rows → Q (.ref l) { s with heap := h', toks := tk' }
theorem nlw_in (w : World) (mean : ExcName → Option Value) (mg mb : Str → Option Value) (news : List (Addr × Obj)) (x x' : Addr) (S S' : Sc) (hS : WsAt w.params news x S) (hS' : WsAt w.params news x' S') (hc : Small S) (hc' : Small S') :
    Does 4 w mean mg mb 73 news [.ref x, .ref x'] (MakesRowsU news (geRows S S' (max (lr S) (lr S') + 1).toNat)) := by
  intro dp un gd cn cs a ccd cl outer A₀ base h₀ L m s Q E B F X N T hk hdp hun hret
  refine nlw_does w mean mg mb news x x' S S' hS hS' hc hc' dp un gd cn cs a ccd cl outer A₀ base h₀ L m s Q E B F X N T hk hdp hun ?_
  intro l vs k tl h' tk' F' N' _ hR
  exact hret l vs k _ h' tk' F' N' (fun p hp => .tail _ (List.mem_append_right _ hp)) (.head _) (hR.mono fun p hp => .tail _ (List.mem_append_left _ hp))
theorem new_in (w : World) (mean : ExcName → Option Value) (mg mb : Str → Option Value) (news : List (Addr × Obj)) (x x' : Addr) (S S' : Sc) (hS : WsAt w.params news x S) (hS' : WsAt w.params news x' S') (hc : Small S) (hc' : Small S') :
    Does 4 w mean mg mb 59 news [.ref x, .ref x'] (MakesRowsU news (neRows S S' (max (lr S) (lr S') + 1).toNat)) := by
  intro dp un gd cn cs a ccd cl outer A₀ base h₀ L m s Q E B F X N T hk hdp hun hret
  refine new_does w mean mg mb news x x' S S' hS hS' hc hc' dp un gd cn cs a ccd cl outer A₀ base h₀ L m s Q E B F X N T hk hdp hun ?_
  intro l vs k tl h' tk' F' N' _ hR
  exact hret l vs k _ h' tk' F' N' (fun p hp => .tail _ (List.mem_append_right _ hp)) (.head _) (hR.mono fun p hp => .tail _ (List.mem_append_left _ hp))
theorem RowsAt.get {W : List (Addr × Obj)} {vs : List Value} {rs : List Row3} (h : RowsAt W vs rs) : ∀ {i : Nat} {v : Value}, vs[i]? = some v → ∃ (a : Addr) (x y z : Int) (t u w : Tok), v = .ref a ∧ (a, tup3 x y z t u w) ∈ W ∧ rs[i]? = some (x, y, z) := by
  induction h with
  | nil => intro i v e; simp at e
  | cons hm _ ih =>
    intro i v e
    cases i with
    | zero => simp only [List.getElem?_cons_zero, Option.some.injEq] at e; exact ⟨_, _, _, _, _, _, _, e.symm, hm, rfl⟩
    | succ i => exact ih (by simpa using e)
theorem rows_at {W : List (Addr × Obj)} {vs : List Value} {rs : List Row3} (h : RowsAt W vs rs) {i : Nat} {v : Value} (hP : vs.toArray[i]? = some v) : ∃ (a : Addr) (x y z : Int) (t u w : Tok), v = .ref a ∧ (a, tup3 x y z t u w) ∈ W ∧ rs[i]? = some (x, y, z) :=
  h.get (by simpa using hP)
theorem filt_pos {X : List (Addr × Obj)} {ys : List Value} {rs : List Row3} {j : Nat} {p : Row3 → Bool} {a : Addr} {x y z : Int} {t u w : Tok} (h : RowsAt X ys ((rs.take j).filter p)) (hm : (a, tup3 x y z t u w) ∈ X) (he : rs[j]? = some (x, y, z)) (hp : p (x, y, z) = true) :
    RowsAt X (ys ++ [.ref a]) ((rs.take (j + 1)).filter p) := by
  rw [List.take_add_one, he, List.filter_append]
  simp only [Option.toList_some, List.filter_cons, hp, if_true, List.filter_nil]
  exact h.snoc hm
theorem filt_neg {X : List (Addr × Obj)} {ys : List Value} {rs : List Row3} {j : Nat} {p : Row3 → Bool} {x y z : Int} (h : RowsAt X ys ((rs.take j).filter p)) (he : rs[j]? = some (x, y, z)) (hp : p (x, y, z) = false) :
    RowsAt X ys ((rs.take (j + 1)).filter p) := by
  rw [List.take_add_one, he, List.filter_append]
  simp only [Option.toList_some, List.filter_cons, hp, Bool.false_eq_true, if_false, List.filter_nil, List.append_nil]
  exact h
section
variable {prog : Program} {w : World} {A : Around} {E : Value → Shared → Prop} {s : Shared} {h₀ : Heap} {L l l' : Addr} {news : List (Addr × Obj)} {vs vs' : List Value} {k k' : Nat} {rs rs' : List Row3} {Q : Value → Shared → Prop}
theorem rows_ne (N : News h₀ L s.heap news) (h1 : (l, listOf (List.toArray vs) k) ∈ news) (r1 : RowsAt news vs rs) (h2 : (l', listOf (List.toArray vs') k') ∈ news) (r2 : RowsAt news vs' rs') (hu : A.units + 64 < cLine) (h : Q (.bool (!decide (rs = rs'))) s) :
    wpAny (model prog w) A (compareOp .NotEq (.ref l) (.ref l')) Q E s := by
  refine dat_ne N (.list h1 r1.dat) (.list h2 r2.dat) (rows_ok _) (rows_ok _) hu ?_
  exact (congrArg (fun b => Q (.bool b) s) (congrArg Bool.not (decide_eq_decide.mpr rows_inj))).mpr h
theorem rows_nil (N : News h₀ L s.heap news) (h1 : (l, listOf (List.toArray vs) k) ∈ news) (r1 : RowsAt news vs rs) (h2 : (l', listOf (List.toArray []) k') ∈ news) (hu : A.units + 64 < cLine) (h : Q (.bool (decide (rs = []))) s) :
    wpAny (model prog w) A (compareOp .Eq (.ref l) (.ref l')) Q E s := by
  refine dat_eq N (.list h1 r1.dat) (.list h2 (RowsAt.nil (tl := news)).dat) (rows_ok _) (rows_ok _) hu ?_
  exact (congrArg (fun b => Q (.bool b) s) (decide_eq_decide.mpr rows_inj)).mpr h
end
theorem ge_nil {S S' : Sc} (h1 : indent S 1 = S.n) (h1' : indent S' 1 = S'.n) : lessB S S' = true ↔ decide (geRows S S' (max (lr S) (lr S') + 1).toNat = []) = true := by
  rw [less_iff h1 h1', decide_eq_true_eq]
  unfold geRows
  rw [List.filter_eq_nil_iff]
  constructor
  · intro h r hr
    obtain ⟨j, hj, e⟩ := List.mem_map.mp hr
    have := h j (List.mem_range.mp hj)
    subst e
    intro hh
    have hh' : indent S' (1 + (j : Int)) ≤ indent S (1 + (j : Int)) := of_decide_eq_true hh
    omega
  · intro h j hj
    have := h (rowAt S S' j) (List.mem_map.mpr ⟨j, List.mem_range.mpr hj, rfl⟩)
    have t2 : ¬ (indent S' (1 + (j : Int)) ≤ indent S (1 + (j : Int))) := fun hh => this (decide_eq_true hh)
    omega
theorem ne_nil {S S' : Sc} (g : Good S) (g' : Good S') : decide (S.c = S'.c ∧ S.b = S'.b) = true ↔ decide (neRows S S' (max (lr S) (lr S') + 1).toNat = []) = true := by
  rw [decide_eq_true_eq, eq_iff g g', decide_eq_true_eq]
  unfold neRows
  rw [List.filter_eq_nil_iff]
  constructor
  · intro h r hr
    obtain ⟨j, hj, e⟩ := List.mem_map.mp hr
    have := h j (List.mem_range.mp hj)
    subst e
    intro hh
    have hh' : indent S (1 + (j : Int)) ≠ indent S' (1 + (j : Int)) := of_decide_eq_true hh
    omega
  · intro h j hj
    have := h (rowAt S S' j) (List.mem_map.mpr ⟨j, List.mem_range.mpr hj, rfl⟩)
    have t2 : ¬ (indent S (1 + (j : Int)) ≠ indent S' (1 + (j : Int))) := fun hh => this (decide_eq_true hh)
    omega
end Mine
namespace Mine
open PySem.Spec PyProof.V PySem.Calls
theorem led_new {X : List (Addr × Obj)} {D : Addr} {ys : List Value} : ∃ Y : List (Addr × Obj), (∀ h₀ L h, News h₀ L h ((D, LCg.lst ys) :: ([] ++ X)) → News h₀ L h Y) ∧ (∀ p ∈ X, p ∈ Y) ∧ (D, listOf (List.toArray ys) ys.length) ∈ Y :=
  ⟨_, fun _ _ _ h => h, fun _ hp => .tail _ hp, .head _⟩
theorem in_out {u2 : Str → Option Value} {v1 v2 v3 v4 v5 : Value} {m : Str → Option Value} : ∀ y, stI.contains y = false →
    (if y = Str.ofString "back" then some v1 else if y = Str.ofString "there" then some v2 else if y = Str.ofString "sizes" then some v3 else if y = Str.ofString "second" then some v4 else if y = Str.ofString "lead" then some v5 else if stI.contains y = true then u2 y else m y) = m y := by
  intro y hy
  have h := hy
  simp only [List.contains_cons, List.contains_nil, Bool.or_false, Bool.or_eq_false_iff, beq_eq_false_iff_ne] at h
  obtain ⟨h1, h2, h3, h4, h5⟩ := h
  rw [if_neg h5, if_neg h4, if_neg h3, if_neg h2, if_neg h1, hy, if_neg (by decide)]
theorem ge_filt {S S' : Sc} {n : Nat} (h : n = (max (lr S) (lr S') + 1).toNat) : geRows S S' (max (lr S) (lr S') + 1).toNat = (rowsOf S S' n).filter fun r => decide (r.2.2 ≤ r.2.1) := by
  rw [h]; rfl
theorem ne_filt {S S' : Sc} {n : Nat} (h : n = (max (lr S) (lr S') + 1).toNat) : neRows S S' (max (lr S) (lr S') + 1).toNat = (rowsOf S S' n).filter fun r => decide (r.2.1 ≠ r.2.2) := by
  rw [h]; rfl
theorem eq_bad {α : Type} [DecidableEq α] {x y : α} (h : x = y) (h2 : (!decide (x = y)) = true) : False := by
  rw [decide_eq_true h] at h2
  exact absurd h2 (by decide)
theorem ge_bad {l r : List Nat} {n : Nat} (h : n = (max (lr (scan l)) (lr (scan r)) + 1).toNat) (h2 : (lessB (scan l) (scan r) != decide ((rowsOf (scan l) (scan r) n).filter (fun r => decide (r.2.2 ≤ r.2.1)) = [])) = true) : False := by
  rw [← ge_filt h] at h2
  exact bne_bad (ge_nil (one_eq l) (one_eq r)) h2
theorem ne_bad {l r : List Nat} {n : Nat} (h : n = (max (lr (scan l)) (lr (scan r)) + 1).toNat) (h2 : (decide ((scan l).c = (scan r).c ∧ (scan l).b = (scan r).b) != decide ((rowsOf (scan l) (scan r) n).filter (fun r => decide (r.2.1 ≠ r.2.2)) = [])) = true) : False := by
  rw [← ne_filt h] at h2
  exact bne_bad (ne_nil (scan_good l) (scan_good r)) h2
end Mine
namespace Mine
open PySem.Spec PyProof.V PySem.Calls
section
local macro_rules | `(tactic| walk_at "pyIter ref") => `(tactic| refine Stuck.out ?_)
local macro_rules | `(tactic| walk_at "exec For Name Call cons nil") => `(tactic| refine Stuck.out ?_)
local macro_rules | `(tactic| walk_at "exec Assign cons ListComp") => `(tactic| refine Stuck.out ?_)
local macro_rules | `(tactic| walk_at "eval ListComp") => `(tactic| refine Stuck.out ?_)
local macro_rules | `(tactic| walk_at "exec For Name List cons nil") => `(tactic| refine Stuck.out ?_)
local macro_rules | `(tactic| k_mem) => `(tactic| first | exact List.Mem.tail _ (List.Mem.tail _ (List.Mem.tail _ (by assumption))) | assumption | exact List.Mem.tail _ (by assumption) | exact List.Mem.tail _ (List.Mem.tail _ (by assumption)) | with_reducible exact List.Mem.head _ | with_reducible exact List.Mem.tail _ (List.Mem.head _) | with_reducible exact List.Mem.tail _ (List.Mem.tail _ (List.Mem.head _)))
local macro_rules | `(tactic| k_all) => `(tactic| first | assumption | exact ne_of_allLt (by assumption))
local macro_rules | `(tactic| walk_at "exec If") => `(tactic| ((fail_if_success (with_reducible show wpAny _ _ _ (CutPost _) _ _)); refine Stuck.out ?_))
local macro_rules | `(tactic| walk_at "exec Assign cons IfExp") => `(tactic| ((fail_if_success (with_reducible show wpAny _ _ _ (CutPost _) _ _)); refine Stuck.out ?_))
local macro_rules | `(tactic| walk_at "CompSrc") => `(tactic| refine Stuck.out ?_)
local macro_rules | `(tactic| walk_at "subscriptTail") => `(tactic| (k_here; (with_reducible show wpAny _ _ (subscriptTail _ _ (Value.ref _) (Value.int _ _)) _ _ _); k_dflt (first
  | (refine' item_cols ?k1 ?k2 ?k3 ?k4 ?k5 ?k6 ?_ ?k7; (case k1 => k_asm); (case k2 => assumption); (case k3 => assumption); (case k4 => omega); (case k5 => omega); (case k6 => omega); (case k7 => with_unfolding_all rfl); k_whole)
  | (refine' item_bases ?k1 ?k2 ?k3 ?k4 ?k5 ?k6 ?_ ?k7; (case k1 => k_asm); (case k2 => assumption); (case k3 => assumption); (case k4 => omega); (case k5 => omega); (case k6 => omega); (case k7 => with_unfolding_all rfl); k_whole)); intro t'))
local macro_rules | `(tactic| k_room) => `(tactic| ktr_room)
local macro_rules | `(tactic| walk_at "call builtin:sum") => `(tactic| (k_here; (with_reducible show wpAny _ _ (call (Value.builtin "sum") [Value.ref _]) _ _ _); k_dflt (first
  | (refine' sum_pick ?k1 ?k2 ?k3 ?k6 ?_; (case k1 => k_asm); (case k2 => k_asm); (case k3 => with_unfolding_all rfl); (case k6 => assumption); k_whole)
  | (refine' sum_some ?k1 ?k2 ?k3 ?k4 ?k6 ?_; (case k1 => k_asm); (case k2 => k_asm); (case k3 => with_unfolding_all rfl); (case k4 => first | assumption | exact Fr.lst (by k_asm) (by assumption)); (case k6 => assumption); k_whole)); intro S' h' tk' t' F' N'))
local macro_rules | `(tactic| walk_at "call builtin:max") => `(tactic| (k_here; (with_reducible show wpAny _ _ (call (Value.builtin _) [Value.int _ _, Value.int _ _]) _ _ _); k_dflt (refine' max_of ?k1 ?k2 ?k3 ?_; (case k1 => with_unfolding_all rfl); (case k2 => k_asm); (case k3 => k_asm); k_whole); intro h' tk' t' F' N'))
local macro_rules | `(tactic| walk_at "call builtin:max") => `(tactic| (k_here; (with_reducible show wpAny _ _ (call (Value.builtin _) [Value.ref _]) _ _ _); k_dflt (refine' kso_max ?k1 ?k2 ?k3 ?k4 ?k5 ?k6 ?_; (case k1 => k_asm); (case k2 => k_asm); (case k3 => exact News.isList (by k_asm) (.head _)); (case k4 => assumption); (case k5 => assumption); (case k6 => with_unfolding_all rfl); k_whole); intro h' M' t' k' F' N' a' b'))
local macro_rules | `(tactic| walk_at "binaryOp Add str str") => `(tactic| (k_here; (with_reducible show wpAny _ _ (binaryOp Operator.Add (Value.str (strOf _) _) (Value.str (Str.ofString "x \t") _)) _ _ _); k_dflt (refine' add_x1 ?k1 ?_; (case k1 => omega); k_whole); intro t' tk'))
local macro_rules | `(tactic| walk_at "binaryOp Add str str") => `(tactic| (k_here; (with_reducible show wpAny _ _ (binaryOp Operator.Add (Value.str (strOf _) _) (Value.str (Str.ofString "x\t") _)) _ _ _); k_dflt (refine' add_x2 ?k1 ?_; (case k1 => omega); k_whole); intro t' tk'))
local macro_rules | `(tactic| walk_at "binaryOp Add str str") => `(tactic| (k_here; (with_reducible show wpAny _ _ (binaryOp Operator.Add (Value.str (strOf _) _) (Value.str (strOf (List.replicate _ 9)) _)) _ _ _); k_dflt (refine' add_tabs ?k1 ?k2 ?_; (case k1 => omega); (case k2 => omega); k_whole); intro t' tk'))
local macro_rules | `(tactic| walk_at "binaryOp Add str str") => `(tactic| (k_here; (with_reducible show wpAny _ _ (binaryOp Operator.Add (Value.str (strOf (_ ++ List.replicate _ 9)) _) (Value.str (strOf (List.replicate _ 32)) _)) _ _ _); k_dflt (refine' add_lead ?k1 ?k2 ?k3 ?_; (case k1 => omega); (case k2 => omega); (case k3 => omega); k_whole); intro t' tk'))
local macro_rules | `(tactic| walk_at "binaryOp Mult str int") => `(tactic| (k_here; (with_reducible show wpAny _ _ (binaryOp Operator.Mult (Value.str (Str.ofString "\t") _) (Value.int (0 + _) _)) _ _ _); k_dflt (refine' mul_tabN ?k1 ?_; (case k1 => omega); k_whole); intro t' tk'))
local macro_rules | `(tactic| walk_at "binaryOp Mult str int") => `(tactic| (k_here; (with_reducible show wpAny _ _ (binaryOp Operator.Mult (Value.str (Str.ofString " ") _) (Value.int _ _)) _ _ _); k_dflt (refine' mul_spN ?k1 ?_; (case k1 => omega); k_whole); intro t' tk'))
local macro_rules | `(tactic| walk_at "call ref") => `(tactic| (k_here; (with_reducible show wpAny _ _ (call (Value.ref 87) _) _ _ _); k_dflt (refine' does_use (lead_some _ _ _ _ _ _ _) ?k1 ?k2 ?k3 ?k4 ?k5 ?kK ?kd ?ku ?_; (case k4 => k_asm); (case k1 => k_asm); (case k2 => k_asm); (case k3 => k_asm); (case k5 => k_asm); (case kK => exact rfl); (case kd => ktr_room); (case ku => ktr_units); k_whole); intro l9 t9 h9 tk9 ok9 F9 N9; (have len9 := LeadOk.len ok9); (have run9 := run_le l9); (try dsimp only); (try k_fold)))
local macro_rules | `(tactic| walk_at "call ref") => `(tactic| (k_here; (with_reducible show wpAny _ _ (call (Value.ref 99) _) _ _ _); k_dflt (refine' does_use (run_of _ _ _ _ _ _ _ ?kz) ?k1 ?k2 ?k3 ?k4 ?k5 ?kK ?kd ?ku ?_; (case kz => omega); (case k4 => k_asm); (case k1 => k_asm); (case k2 => k_asm); (case k3 => k_asm); (case k5 => k_asm); (case kK => exact rfl); (case kd => ktr_room); (case ku => ktr_units); k_whole); intro t9 h9 tk9 F9 N9; (try dsimp only); (try k_fold)))
local macro_rules | `(tactic| walk_at "call ref") => `(tactic| (k_here; (with_reducible show wpAny _ _ (call (Value.ref 94) _) _ _ _); k_dflt (refine' does_use (cols_of _ _ _ _ _ _ _ _ _ ?kz ?k0 ?kn) ?k1 ?k2 ?k3 ?k4 ?k5 ?kK ?kd ?ku ?_; (case kz => omega); (case k0 => omega); (case kn => omega); (case k4 => k_asm); (case k1 => k_asm); (case k2 => k_asm); (case k3 => k_asm); (case k5 => k_asm); (case kK => exact rfl); (case kd => ktr_room); (case ku => ktr_units); k_whole); intro l9 vs9 k9 h9 tk9 F9 N9 lt9 hI9; (try k_lt lt9); (try dsimp only); (try k_fold)))
local macro_rules | `(tactic| walk_at "call ref") => `(tactic| (k_here; (with_reducible show wpAny _ _ (call (Value.ref 76) _) _ _ _); k_dflt (refine' does_use (ws_of _ _ _ _ _ _ _ _ (LeadOk.ws ?kz) ?k0) ?k1 ?k2 ?k3 ?k4 ?k5 ?kK ?kd ?ku ?_; (case kz => assumption); (case k0 => (simp only [List.length_append, List.length_cons, List.length_nil]; omega)); (case k4 => k_asm); (case k1 => k_asm); (case k2 => k_asm); (case k3 => k_asm); (case k5 => k_asm); (case kK => exact rfl); (case kd => ktr_room); (case ku => ktr_units); k_whole); intro x9 led9 h9 tk9 F9 N9 lt9 ws9; (try dsimp only); (try k_fold)))
local macro_rules | `(tactic| walk_at "call ref") => `(tactic| (k_here; (with_reducible show wpAny _ _ (call (Value.ref 76) [Value.str (strOf (_ ++ 120 :: [9])) _]) _ _ _); k_dflt (refine' does_use (ws_in _ _ _ _ _ _ _ ?kz ?k0) ?k1 ?k2 ?k3 ?k4 ?k5 ?kK ?kd ?ku ?_; (case kz => assumption); (case k0 => omega); (case k4 => k_asm); (case k1 => k_asm); (case k2 => k_asm); (case k3 => k_asm); (case k5 => k_asm); (case kK => exact rfl); (case kd => ktr_room); (case ku => ktr_units); k_whole); intro x9 W9 h9 tk9 F9 N9 hs9 ws9; (try dsimp only); (try k_fold); refine Stuck.out ?_))
local macro_rules | `(tactic| walk_at "call ref") => `(tactic| (k_here; (with_reducible show wpAny _ _ (call (Value.ref 66) _) _ _ _); k_dflt (refine' does_use (less_does _ _ _ _ _ _ _ _ _ ?hS ?hS' ?hc ?hc') ?k1 ?k2 ?k3 ?k4 ?k5 ?kK ?kd ?ku ?_; (case k4 => k_asm); (case hS => assumption); (case hS' => assumption); (case hc => assumption); (case hc' => assumption); (case k1 => k_asm); (case k2 => k_asm); (case k3 => k_asm); (case k5 => k_asm); (case kK => exact rfl); (case kd => ktr_room); (case ku => ktr_units); k_whole); intro t9 h9 tk9 F9 N9; (try dsimp only); (try k_fold)))
local macro_rules | `(tactic| walk_at "call type:range") => `(tactic| (k_here; (with_reducible show wpAny _ _ (call (Value.type "range") [Value.int 1 _, Value.int (2 + max _ _) _]) _ _ _); k_dflt (refine' range2_led ?k1 ?k2 ?_; (case k1 => k_asm); (case k2 => k_asm); k_whole); intro r9 h9 tk9 t9 u9 v9 F9 N9; (try dsimp only); (try k_fold)))
local macro_rules | `(tactic| walk_at "call ref") => `(tactic| (k_here; (with_reducible show wpAny _ _ (call (Value.ref 73) _) _ _ _); k_dflt (refine' does_use (nlw_in _ _ _ _ _ _ _ _ _ ?hS ?hS' ?hc ?hc') ?k1 ?k2 ?k3 ?k4 ?k5 ?kK ?kd ?ku ?_; (case k4 => k_asm); (case hS => assumption); (case hS' => assumption); (case hc => assumption); (case hc' => assumption); (case k1 => k_asm); (case k2 => k_asm); (case k3 => k_asm); (case k5 => k_asm); (case kK => exact rfl); (case kd => ktr_room); (case ku => ktr_units); k_whole); intro l9 vs9 k9 X9 h9 tk9 F9 N9 hs9 hl9 hr9; (try dsimp only); (try k_fold)))
local macro_rules | `(tactic| walk_at "call ref") => `(tactic| (k_here; (with_reducible show wpAny _ _ (call (Value.ref 59) _) _ _ _); k_dflt (refine' does_use (new_in _ _ _ _ _ _ _ _ _ ?hS ?hS' ?hc ?hc') ?k1 ?k2 ?k3 ?k4 ?k5 ?kK ?kd ?ku ?_; (case k4 => k_asm); (case hS => assumption); (case hS' => assumption); (case hc => assumption); (case hc' => assumption); (case k1 => k_asm); (case k2 => k_asm); (case k3 => k_asm); (case k5 => k_asm); (case kK => exact rfl); (case kd => ktr_room); (case ku => ktr_units); k_whole); intro l9 vs9 k9 X9 h9 tk9 F9 N9 hs9 hl9 hr9; (try dsimp only); (try k_fold)))
local macro_rules | `(tactic| walk_at "call ref") => `(tactic| (k_here; (with_reducible show wpAny _ _ (call (Value.ref 52) _) _ _ _); k_dflt (refine' does_use (equal_does _ _ _ _ _ _ _ _ _ ?hS ?hS') ?k1 ?k2 ?k3 ?k4 ?k5 ?kK ?kd ?ku ?_; (case k4 => k_asm); (case hS => assumption); (case hS' => assumption); (case k1 => k_asm); (case k2 => k_asm); (case k3 => k_asm); (case k5 => k_asm); (case kK => exact rfl); (case kd => ktr_room); (case ku => ktr_units); k_whole); intro t9 h9 tk9 F9 N9; (try dsimp only); (try k_fold)))
local macro_rules | `(tactic| walk_at "CompSrcT") => `(tactic| refine Stuck.out ?_)
local macro_rules | `(tactic| walk_at "compareOp NotEq ref ref") => `(tactic| (k_here; (with_reducible show wpAny _ _ (compareOp CmpOp.NotEq (Value.ref _) (Value.ref _)) _ _ _); k_dflt (refine' rows_ne ?k1 ?k2 ?k3 ?k4 ?k5 ?k6 ?_; (case k1 => k_asm); (case k2 => assumption); (case k4 => assumption); (case k3 => assumption); (case k5 => assumption); (case k6 => ktr_units); k_whole)))
local macro_rules | `(tactic| walk_at "compareOp Eq ref ref") => `(tactic| (k_here; (with_reducible show wpAny _ _ (compareOp CmpOp.Eq (Value.ref _) (Value.ref _)) _ _ _); k_dflt (refine' rows_nil ?k1 ?k2 ?k3 ?k4 ?k6 ?_; (case k1 => k_asm); (case k2 => exact List.Mem.tail _ (by assumption)); (case k3 => exact RowsAt.mono (by assumption) (fun _ h => List.Mem.tail _ h)); (case k4 => exact List.Mem.head _); (case k6 => ktr_units); k_whole)))
theorem law_holds : PySem.Challenge.rw_mj0338_01.Holds := hd (by
  w_top off
  k_with_none
  w_strict (
    k_go0
    (all_goals try k_fold)
    k_steps
    unfold Stuck
    (rename Fr _ _ _ _ => lF0)
    (k_dflt refine For_cellF lF0 ?_)
    k_steps
    unfold Stuck
    (rename IsRange _ _ _ _ _ _ _ _ => rgX); (rename Fr _ _ _ _ => lF'); (rename News _ _ _ _ => lN'); (rename WsAt _ _ _ _ => hws)
    (k_dflt refine' law_outer ?hh ?hk ?hx ?hc rgX lF' ?hm lN' ?ho1 ?ho2 ?ho3 ?ho4 ?ho5 ?hlt ?hcs ?oka ?okb ?hfar ?hIo ?hIt hws ?hE ?turn ?done)
    (case hh => rfl)
    (case hk => rfl)
    (case hx => rfl)
    (case hc => rfl)
    (case hm => intro y; first | rfl | fail "hm")
    (case ho1 => assumption)
    (case ho2 => assumption)
    (case ho3 => exact ⟨_, by assumption⟩)
    (case ho4 => exact ⟨_, by assumption⟩)
    (case ho5 => exact ⟨_, by assumption⟩)
    (case hlt => assumption)
    (case hcs => refine ⟨?_, ?_, ?_, ?_, ?_, ?_⟩ <;> omega)
    (case oka => assumption)
    (case okb => assumption)
    (case hfar => rfl)
    (case hIo => assumption)
    (case hIt => assumption)
    (case hE => passes_own)
    (case turn =>
      clear hws lF' lN' rgX
      intro la lb far ta tb tf x1 lo lt vo vt ko kt i t o1 o2 o3 o4 o5 u h tk U oka okb hfar hi ho1 ho2 ho3 ho4 ho5 hU1 hU2 hUo hUt hIo hIt hws hn3 hn4 hn5 F3 N3
      have lenA := oka.len
      have lenB := okb.len
      have runA := run_le la
      have runB := run_le lb
      obtain ⟨v4, ho4⟩ := ho4
      obtain ⟨v5, ho5⟩ := ho5
      unfold over lawMap at F3
      k_steps
      unfold Stuck
      (rename Fr _ _ _ _ => F4); (rename News _ _ _ _ => N4)
      (k_dflt refine' cutBase la i (far + 22).toNat F4 N4 ?cut1 ?go1)
      (case cut1 =>
        k_steps
        · unfold Stuck
          (rename (0 : Int) < 0 + (i : Int) => hpos)
          (k_dflt refine wpAny_Assign_Name ?_ (by with_unfolding_all rfl))
          (k_dflt refine LCg.ListComp_U (F₀ := F4) (by with_unfolding_all rfl) (by decide) (by rfl) (by decide) (by rfl) ?_)
          k_steps
          unfold Stuck
          (rename IsRange _ _ _ _ _ _ _ _ => rgB); (rename Fr _ _ _ _ => F5); (rename News _ _ _ _ => N5)
          (k_dflt refine LCg.CompSrc.range (n := (far + 22).toNat) (by rfl) F5 N5 rgB ?hsmB ?hszB ?hlnB ?_)
          (case hsmB => exact small_one (by omega) (by omega) (by omega) (by omega))
          (case hszB => rw [rangeSize_nat]; omega)
          (case hlnB => rw [sizeLine_eq]; omega)
          intro g
          refine comp_gen (fun j ys tl => tl = [] ∧ IntsAre ys (basesOf la i j)) (fun _ => trivial) ?stepB ?finB ⟨rfl, .nil⟩
          (case stepB =>
            rintro j ys tl v C oC m₂ h tk E' U2 hj ⟨rfl, hv⟩ ⟨tv, rfl⟩ hC hxB hCU hn1 hn2 F6 N6
            have hc1 := hn2 _ (.tail _ (.tail _ (.tail _ hU1)))
            have hc3 := hn2 _ (.head _)
            have hlo := hn2 _ (.tail _ (.tail _ (.tail _ hUo)))
            clear hn2 hn1 N5 rgB
            k_steps
            exact cend0 F6 N6 ⟨rfl, base_step hv (by omega) rfl⟩)
          (case finB =>
            rintro ys tl ⟨rfl, hv⟩
            intro D2 h2 tk2 F7 N7 off7
            simp only [List.nil_append] at N7 off7
            obtain ⟨d3, d4, d5, offU⟩ := off7
            k_steps
            (rename Fr _ _ _ _ => F8); (rename News _ _ _ _ => N8)
            (rename _ = Data.cell (some (Value.ref D2)) => hd8)
            exact midBase_new F8 N8 d3 d4 d5 hn3 hn4 hn5 hd8 hv)
        · (rename ¬ (0 : Int) < 0 + (i : Int) => hpos)
          (rename _ = Data.cell (some (Value.ref lo)) => hd4)
          obtain rfl : i = 0 := by omega
          exact midBase_same F4 N4 hn3 hn4 hn5 hd4 hUo (by rw [basesOf_zero]; exact hIo))
      (case go1 =>
        rintro s' ⟨h', tk', o4', bl, vb, kb, U', rfl, F5, N5, hs5, hn3', hn4', hn5', ho4', hbl, hIb⟩
        have hU1' := hs5 _ hU1
        have hU2' := hs5 _ hU2
        have hUt' := hs5 _ hUt
        have hws' := hws.mono hs5
        k_steps
        unfold Stuck
        (rename Fr _ _ _ _ => F6); (rename News _ _ _ _ => N6)
        (k_dflt refine' cutNeed la lb i far F6 N6 ?cut2 ?go2)
        (case cut2 =>
          k_steps
          · (rename Fr _ _ _ _ => F7); (rename News _ _ _ _ => N7)
            (rename _ < Txt.count (strOf lb) _ => hnv)
            exact midNeed F7 N7 ⟨fun _ => rfl, fun h => absurd ((never_of oka okb).mp hnv) h⟩
          · unfold Stuck
            (rename ¬ (_ < Txt.count (strOf lb) _) => hnv)
            (k_dflt refine LCg.ListComp_U (F₀ := F6) (by with_unfolding_all rfl) (by decide) (by rfl) (by decide) (by rfl) ?_)
            k_steps
            unfold Stuck
            (rename IsRange _ _ _ _ _ _ _ _ => rgC); (rename Fr _ _ _ _ => F7); (rename News _ _ _ _ => N7)
            (k_dflt refine LCg.CompSrc.range (n := far.toNat) (by rfl) F7 N7 rgC ?hsmC ?hszC ?hlnC ?_)
            (case hsmC => exact small_one (by omega) (by omega) (by omega) (by omega))
            (case hszC => rw [rangeSize_nat]; omega)
            (case hlnC => rw [sizeLine_eq]; omega)
            intro g
            refine comp_gen (fun j ys tl => tl = [] ∧ IntsAre ys (needs la lb i j)) (fun _ => trivial) ?stepC ?finC ⟨rfl, .nil⟩
            (case stepC =>
              rintro j ys tl v C oC m₂ h tk E' U2 hj ⟨rfl, hv⟩ ⟨tv, rfl⟩ hC hxC hCU hn1 hn2 F8 N8
              have hc4 := hn2 _ (.tail _ (.head _))
              have hc2 := hn2 _ (.tail _ (.tail _ (.tail _ hU2')))
              have hlt := hn2 _ (.tail _ (.tail _ (.tail _ hUt')))
              have hlb := hn2 _ (.tail _ (.tail _ (.tail _ hbl)))
              clear hn2 hn1 N7 rgC
              k_steps
              exact cend0 F8 N8 ⟨rfl, need_step hv rfl⟩)
            (case finC =>
              rintro ys tl ⟨rfl, hv⟩
              intro D2 h2 tk2 F8 N8 off8
              have hne : 0 < (needs la lb i far.toNat).length := by rw [needs_len]; omega
              k_steps
              (rename _ ∈ needs _ _ _ _ => a9); (rename ∀ a ∈ needs _ _ _ _, a ≤ _ => b9)
              (rename Fr _ _ _ _ => F9); (rename News _ _ _ _ => N9)
              exact midNeed F9 (fun p hp => N9 p (.tail _ hp)) (needs_of (by omega) (fun h => hnv ((never_of oka okb).mpr h)) a9 b9)))
        (case go2 =>
          rintro s' ⟨h6, tk6, need, tn, rfl, F7, N7, hN⟩
          have hneed := need_le hN lenB
          clear F6 N6
          k_steps
          unfold Stuck
          (rename Fr _ _ _ _ => F8)
          (k_dflt refine For_cellF F8 ?_)
          k_steps
          unfold Stuck
          (rename Fr _ _ _ _ => F9); (rename News _ _ _ _ => N9); (rename _ < _ ∧ _ < _ ∧ _ < _ ∧ AllLt _ U' => l9)
          (k_dflt refine' law_inner ?hh2 ?hk2 ?hx2 ?hc2 F9 N9 ?ho52 l9 ?h35 ?h45 hn5' ?ha2 ?hb2 ?hcc2 ?hE2 ?turn2 ?done2)
          (case hh2 => rfl)
          (case hk2 => rfl)
          (case hx2 => rfl)
          (case hc2 => rfl)
          (case ho52 => exact ⟨_, ho5⟩)
          (case h35 => omega)
          (case h45 => omega)
          (case ha2 => exact fmod8 _)
          (case hb2 => omega)
          (case hcc2 => omega)
          (case hE2 => passes_own)
          (case turn2 =>
            clear F9 N9 l9
            intro b tb2 u2 oc h tk V hb21 hoc hV3 hV4 hsV F10 N10
            unfold over at F10
            have hV1 := hsV _ hU1'
            have hV2 := hsV _ hU2'
            have hVt := hsV _ hUt'
            have hVb := hsV _ hbl
            have hwsV := hws'.mono hsV
            have hlw := lead_ws oka.ws i b
            have hll := leadOf_len la i b
            k_steps
            unfold Stuck
            (rename WsAt _ _ _ (scan (leadOf la i b)) => ws2); (rename ∀ p, p ∈ (_, oc) :: V → p ∈ _ => hsW)
            have hW1 := hsW _ (.tail _ hV1)
            have hW2 := hsW _ (.tail _ hV2)
            have hW3 := hsW _ (.tail _ hV3)
            have hW4 := hsW _ (.tail _ hV4)
            have hW5 := hsW _ (.head _)
            have hWt := hsW _ (.tail _ hVt)
            have hWb := hsW _ (.tail _ hVb)
            have ws1 := hwsV.mono fun p hp => hsW p (.tail _ hp)
            have sm1 : Small (scan lb) := small_scan (by omega)
            have sm2 : Small (scan (leadOf la i b)) := small_scan (by omega)
            clear hwsV hV1 hV2 hV3 hV4 hVt hVb N10
            obtain ⟨d, na, ca, vs, raw, tr, k1, k2, k3, k4, k5, tn1, tnt, tb1, hm1, hm2, hm3, hm4, hI⟩ := id ws1
            obtain ⟨d', na', ca', vs', raw', tr', k1', k2', k3', k4', k5', tn1', tnt', tb1', hm1', hm2', hm3', hm4', hI'⟩ := id ws2
            k_steps
            unfold Stuck
            (rename Fr _ _ _ _ => F11); (rename News _ _ _ _ => N11)
            have hlaw := law_less oka.ws okb.ws i b need far hfar hN.2
            have hnvr := never_of (i := i) oka okb
            (k_dflt refine' cutIf F11 N11 ?if1 ?at2)
            (case if1 =>
              k_steps
              · (rename _ < Txt.count (strOf lb) _ => a1); (rename (lessB _ _ != _) = true => a2)
                exact (less_bad1 (fun hl => absurd (hnvr.mp a1) (hlaw.mp hl).1) (decide_eq_true a1) a2).elim
              · (rename Fr _ _ _ _ => F12); (rename News _ _ _ _ => N12)
                exact midIf F12 N12 fun _ h => h
              · (rename ¬ (_ < Txt.count (strOf lb) _) => a1); (rename (lessB _ _ != _) = true => a2)
                exact (bne_bad (hlaw.trans ⟨fun h => decide_eq_true h.2, fun h => ⟨fun h' => a1 (hnvr.mpr h'), of_decide_eq_true h⟩⟩) a2).elim
              · (rename Fr _ _ _ _ => F12); (rename News _ _ _ _ => N12)
                exact midIf F12 N12 fun _ h => h)
            (case at2 =>
              intro h12 tk12 F12 N12
              clear F11 N11
              have hr1 := run_eq okb.ws
              have hr2 := run_eq hlw
              have hrl := run_lead la i b
              obtain ⟨nr, hnr⟩ : ∃ nr, nr = (max (lr (scan lb)) (lr (scan (leadOf la i b))) + 1).toNat := ⟨_, rfl⟩
              k_steps
              unfold Stuck
              (rename Fr _ _ _ _ => F13); (rename News _ _ _ _ => N13)
              (k_dflt refine' cutRows (Str.ofString "there") (rowsOf (scan lb) (scan (leadOf la i b)) nr) F13 N13 ?cutT ?goT)
              (case cutT =>
                (k_dflt refine LCg.Assign_ListComp_U (F₀ := F13) (by rfl) (by with_unfolding_all rfl) (by with_unfolding_all rfl) (by decide) (by rfl) (by decide) (by rfl) (by rfl) (by rfl) ?_)
                k_steps
                unfold Stuck
                (rename Fr _ _ _ _ => F7T); (rename News _ _ _ _ => N7T)
                (k_dflt refine LCg.CompSrc.range (n := nr) (by rfl) F7T N7T (N7T _ (.head _)).1 ?hsmT ?hszT ?hlnT ?_)
                (case hsmT => exact small_one (by omega) (by omega) (by omega) (by omega))
                (case hszT => rw [rangeSize_nat]; omega)
                (case hlnT => rw [sizeLine_eq]; omega)
                intro g
                refine comp_gen (fun j ys tl => RowsAt tl ys (rowsOf (scan lb) (scan (leadOf la i b)) j)) (fun _ => trivial) ?stepT ?finT .nil
                (case stepT =>
                  rintro j ys tl v C oC m₂ h tk E' U2 hj hv ⟨tv, rfl⟩ hC hxC hCU hn1 hn2 F8 N8
                  have hc2 := hn2 _ (.tail _ hW2)
                  have hc4 := hn2 _ (.tail _ hW4)
                  have hc5 := hn2 _ (.tail _ hW5)
                  have hlt := hn2 _ (.tail _ hWt)
                  have hlb := hn2 _ (.tail _ hWb)
                  clear hn2 hn1 N7T
                  k_steps
                  (rename Fr _ _ _ _ => F9); (rename News _ _ _ _ => N9); (rename ∀ p ∈ U2, p.1 < _ => lt9)
                  exact cend1 F9 N9 lt9 (row_step hv rfl there_col lead_col))
                (case finT =>
                  rintro ys tl hv
                  intro D2 h2 tk2 F8 N8 off8
                  exact midRows F8 N8 hv))
              (case goT =>
                intro h14 tk14 D1 vs1 kk1 W1 F14 N14 hsT hD1 hR1
                clear F13 N13
                have hWr := hsT _ (.head _)
                replace hW2 := hsT _ (.tail _ hW2)
                replace hW4 := hsT _ (.tail _ hW4)
                replace hW5 := hsT _ (.tail _ hW5)
                replace hWt := hsT _ (.tail _ hWt)
                replace hWb := hsT _ (.tail _ hWb)
                k_steps
                unfold Stuck
                (rename Fr _ _ _ _ => F15); (rename News _ _ _ _ => N15)
                (k_dflt refine' cutRows (Str.ofString "back") (rowsOf (scan (leadOf la i b)) (scan lb) nr) F15 N15 ?cutB ?goB)
                (case cutB =>
                  (k_dflt refine LCg.Assign_ListComp_U (F₀ := F15) (by rfl) (by with_unfolding_all rfl) (by with_unfolding_all rfl) (by decide) (by rfl) (by decide) (by rfl) (by rfl) (by rfl) ?_)
                  k_steps
                  unfold Stuck
                  (rename Fr _ _ _ _ => F7B); (rename News _ _ _ _ => N7B)
                  (k_dflt refine LCg.CompSrc.range (n := nr) (by rfl) F7B N7B (N7B _ hWr).1 ?hsmB ?hszB ?hlnB ?_)
                  (case hsmB => exact small_one (by omega) (by omega) (by omega) (by omega))
                  (case hszB => rw [rangeSize_nat]; omega)
                  (case hlnB => rw [sizeLine_eq]; omega)
                  intro g
                  refine comp_gen (fun j ys tl => RowsAt tl ys (rowsOf (scan (leadOf la i b)) (scan lb) j)) (fun _ => trivial) ?stepB ?finB .nil
                  (case stepB =>
                    rintro j ys tl v C oC m₂ h tk E' U2 hj hv ⟨tv, rfl⟩ hC hxC hCU hn1 hn2 F8 N8
                    have hc2 := hn2 _ (hW2)
                    have hc4 := hn2 _ (hW4)
                    have hc5 := hn2 _ (hW5)
                    have hlt := hn2 _ (hWt)
                    have hlb := hn2 _ (hWb)
                    clear hn2 hn1 N7B
                    k_steps
                    (rename Fr _ _ _ _ => F9); (rename News _ _ _ _ => N9); (rename ∀ p ∈ U2, p.1 < _ => lt9)
                    exact cend1 F9 N9 lt9 (row_step hv rfl lead_col there_col))
                  (case finB =>
                    rintro ys tl hv
                    intro D2 h2 tk2 F8 N8 off8
                    exact midRows F8 N8 hv))
                (case goB =>
                  intro h16 tk16 D3 vs3 kk3 W3 F16 N16 hsB hD3 hR3
                  clear F15 N15
                  have hVW : ∀ p ∈ (_, oc) :: V, p ∈ W3 := fun p hp => hsB p (hsT p (.tail _ (hsW p hp)))
                  replace hD1 := hsB _ hD1
                  replace hR1 := hR1.mono hsB
                  replace ws1 := ws1.mono fun p hp => hsB p (hsT p (.tail _ hp))
                  replace ws2 := ws2.mono fun p hp => hsB p (hsT p (.tail _ hp))
                  have hnr2 : nr = (max (lr (scan (leadOf la i b))) (lr (scan lb)) + 1).toNat := by rw [hnr, Int.max_comm]
                  clear hm1 hm2 hm3 hm4 hm1' hm2' hm3' hm4' hI hI' hsT hsB hsW hW1 hW2 hW3 hW4 hW5 hWt hWb hWr
                  obtain ⟨d, na, ca, vs, raw, tr, k1, k2, k3, k4, k5, tn1, tnt, tb1, hm1, hm2, hm3, hm4, hI⟩ := id ws1
                  obtain ⟨d', na', ca', vs', raw', tr', k1', k2', k3', k4', k5', tn1', tnt', tb1', hm1', hm2', hm3', hm4', hI'⟩ := id ws2
                  k_steps
                  unfold Stuck
                  (rename Fr _ _ _ _ => Fi2); (rename News _ _ _ _ => Ni2)
                  (k_dflt refine' cutIf Fi2 Ni2 ?if2 ?at3)
                  (case if2 =>
                    k_steps
                    unfold Stuck
                    (rename List (Addr × Obj) => XP); (rename RowsAt XP _ (geRows _ _ _) => hRlP); (rename (_, listOf _ _) ∈ XP => hlXP); (rename ∀ p ∈ W3, p ∈ XP => hsXP)
                    (rename Fr _ _ _ _ => FaP); (rename News _ _ _ _ => NaP)
                    have hDXP := hsXP _ hD1
                    have hRXP := RowsAt.mono hR1 hsXP
                    (k_dflt refine LCt.ListComp_T (F₀ := FaP) (by with_unfolding_all rfl) (by decide) (by rfl) (by decide) (by rfl) ?_)
                    k_steps
                    unfold Stuck
                    (rename Fr _ _ _ _ => FbP); (rename News _ _ _ _ => NbP)
                    (k_dflt refine LCt.CompSrcT.ledger (by rfl) FbP NbP hDXP ?hszP ?_)
                    (case hszP => rw [sizeLine_eq, List.size_toArray, RowsAt.length hR1, rowsOf_len]; omega)
                    intro g
                    refine comp_genT (fun j ys tl => tl = [] ∧ RowsAt XP ys (((rowsOf (scan lb) (scan (leadOf la i b)) nr).take j).filter (fun r => decide (r.2.2 ≤ r.2.1)))) (src_app (.inr ⟨_, hDXP, rfl, _, rfl⟩)) ?stepP ?finP ⟨rfl, .nil⟩
                    (case stepP =>
                      rintro j ys tl v C oC m₂ h tk E' U2 hj ⟨rfl, hv⟩ hP hC hxC hCU hn1 hn2 Fc Nc
                      obtain ⟨ra, rx, ry, rz, t1, t2, t3, rfl, hmem, he⟩ := rows_at hRXP hP
                      have hmem2 := hn2 _ hmem
                      clear hn2 hn1 NbP
                      k_steps
                      · (rename rz ≤ ry => hge)
                        exact cend0 Fc Nc ⟨rfl, filt_pos hv hmem he (decide_eq_true hge)⟩
                      · (rename ¬ (rz ≤ ry) => hge)
                        exact cend0 Fc Nc ⟨rfl, filt_neg hv he (decide_eq_false hge)⟩)
                    (case finP =>
                      rintro ys tl ⟨rfl, hv⟩
                      intro D2 h2 tk2 Fd Nd off
                      obtain ⟨Y, toY, subY, hDY⟩ := led_new (X := XP) (D := D2) (ys := ys)
                      have NdY := toY _ _ _ Nd
                      clear Nd
                      rw [List.size_toArray, RowsAt.length hR1, List.take_length] at hv
                      have hvY := RowsAt.mono hv subY
                      clear hv
                      have hlY := subY _ hlXP
                      have hRlY := RowsAt.mono hRlP subY
                      k_steps
                      · (rename Fr _ _ _ _ => Fz); (rename News _ _ _ _ => Nz)
                        exact midIf Fz Nz fun p hp => subY p (hsXP p hp)
                      · (rename ¬ (geRows _ _ _ = _) => a2)
                        exact (a2 (ge_filt hnr)).elim))
                  (case at3 =>
                    intro hh2 tkk2 Fj2 Nj2
                    clear Fi2 Ni2
                    k_steps
                    unfold Stuck
                    (rename Fr _ _ _ _ => Fi3); (rename News _ _ _ _ => Ni3)
                    (k_dflt refine' cutIf Fi3 Ni3 ?if3 ?at4)
                    (case if3 =>
                      k_steps
                      unfold Stuck
                      (rename List (Addr × Obj) => XQ); (rename RowsAt XQ _ (geRows _ _ _) => hRlQ); (rename (_, listOf _ _) ∈ XQ => hlXQ); (rename ∀ p ∈ W3, p ∈ XQ => hsXQ)
                      (rename Fr _ _ _ _ => FaQ); (rename News _ _ _ _ => NaQ)
                      have hDXQ := hsXQ _ hD3
                      have hRXQ := RowsAt.mono hR3 hsXQ
                      (k_dflt refine LCt.ListComp_T (F₀ := FaQ) (by with_unfolding_all rfl) (by decide) (by rfl) (by decide) (by rfl) ?_)
                      k_steps
                      unfold Stuck
                      (rename Fr _ _ _ _ => FbQ); (rename News _ _ _ _ => NbQ)
                      (k_dflt refine LCt.CompSrcT.ledger (by rfl) FbQ NbQ hDXQ ?hszQ ?_)
                      (case hszQ => rw [sizeLine_eq, List.size_toArray, RowsAt.length hR3, rowsOf_len]; omega)
                      intro g
                      refine comp_genT (fun j ys tl => tl = [] ∧ RowsAt XQ ys (((rowsOf (scan (leadOf la i b)) (scan lb) nr).take j).filter (fun r => decide (r.2.2 ≤ r.2.1)))) (src_app (.inr ⟨_, hDXQ, rfl, _, rfl⟩)) ?stepQ ?finQ ⟨rfl, .nil⟩
                      (case stepQ =>
                        rintro j ys tl v C oC m₂ h tk E' U2 hj ⟨rfl, hv⟩ hP hC hxC hCU hn1 hn2 Fc Nc
                        obtain ⟨ra, rx, ry, rz, t1, t2, t3, rfl, hmem, he⟩ := rows_at hRXQ hP
                        have hmem2 := hn2 _ hmem
                        clear hn2 hn1 NbQ
                        k_steps
                        · (rename rz ≤ ry => hge)
                          exact cend0 Fc Nc ⟨rfl, filt_pos hv hmem he (decide_eq_true hge)⟩
                        · (rename ¬ (rz ≤ ry) => hge)
                          exact cend0 Fc Nc ⟨rfl, filt_neg hv he (decide_eq_false hge)⟩)
                      (case finQ =>
                        rintro ys tl ⟨rfl, hv⟩
                        intro D2 h2 tk2 Fd Nd off
                        obtain ⟨Y, toY, subY, hDY⟩ := led_new (X := XQ) (D := D2) (ys := ys)
                        have NdY := toY _ _ _ Nd
                        clear Nd
                        rw [List.size_toArray, RowsAt.length hR3, List.take_length] at hv
                        have hvY := RowsAt.mono hv subY
                        clear hv
                        have hlY := subY _ hlXQ
                        have hRlY := RowsAt.mono hRlQ subY
                        k_steps
                        · (rename Fr _ _ _ _ => Fz); (rename News _ _ _ _ => Nz)
                          exact midIf Fz Nz fun p hp => subY p (hsXQ p hp)
                        · (rename ¬ (geRows _ _ _ = _) => a2)
                          exact (a2 (ge_filt hnr2)).elim))
                    (case at4 =>
                      intro hh3 tkk3 Fj3 Nj3
                      clear Fi3 Ni3
                      k_steps
                      unfold Stuck
                      (rename Fr _ _ _ _ => Fi4); (rename News _ _ _ _ => Ni4)
                      (k_dflt refine' cutIf Fi4 Ni4 ?if4 ?at5)
                      (case if4 =>
                        k_steps
                        unfold Stuck
                        (rename List (Addr × Obj) => XR); (rename RowsAt XR _ (neRows _ _ _) => hRlR); (rename (_, listOf _ _) ∈ XR => hlXR); (rename ∀ p ∈ W3, p ∈ XR => hsXR)
                        (rename Fr _ _ _ _ => FaR); (rename News _ _ _ _ => NaR)
                        have hDXR := hsXR _ hD1
                        have hRXR := RowsAt.mono hR1 hsXR
                        (k_dflt refine LCt.ListComp_T (F₀ := FaR) (by with_unfolding_all rfl) (by decide) (by rfl) (by decide) (by rfl) ?_)
                        k_steps
                        unfold Stuck
                        (rename Fr _ _ _ _ => FbR); (rename News _ _ _ _ => NbR)
                        (k_dflt refine LCt.CompSrcT.ledger (by rfl) FbR NbR hDXR ?hszR ?_)
                        (case hszR => rw [sizeLine_eq, List.size_toArray, RowsAt.length hR1, rowsOf_len]; omega)
                        intro g
                        refine comp_genT (fun j ys tl => tl = [] ∧ RowsAt XR ys (((rowsOf (scan lb) (scan (leadOf la i b)) nr).take j).filter (fun r => decide (r.2.1 ≠ r.2.2)))) (src_app (.inr ⟨_, hDXR, rfl, _, rfl⟩)) ?stepR ?finR ⟨rfl, .nil⟩
                        (case stepR =>
                          rintro j ys tl v C oC m₂ h tk E' U2 hj ⟨rfl, hv⟩ hP hC hxC hCU hn1 hn2 Fc Nc
                          obtain ⟨ra, rx, ry, rz, t1, t2, t3, rfl, hmem, he⟩ := rows_at hRXR hP
                          have hmem2 := hn2 _ hmem
                          clear hn2 hn1 NbR
                          k_steps
                          · (rename ¬ (ry = rz) => hge)
                            exact cend0 Fc Nc ⟨rfl, filt_pos hv hmem he (decide_eq_true hge)⟩
                          · (rename ry = rz => hge)
                            exact cend0 Fc Nc ⟨rfl, filt_neg hv he (decide_eq_false fun h => h hge)⟩)
                        (case finR =>
                          rintro ys tl ⟨rfl, hv⟩
                          intro D2 h2 tk2 Fd Nd off
                          obtain ⟨Y, toY, subY, hDY⟩ := led_new (X := XR) (D := D2) (ys := ys)
                          have NdY := toY _ _ _ Nd
                          clear Nd
                          rw [List.size_toArray, RowsAt.length hR1, List.take_length] at hv
                          have hvY := RowsAt.mono hv subY
                          clear hv
                          have hlY := subY _ hlXR
                          have hRlY := RowsAt.mono hRlR subY
                          k_steps
                          · (rename Fr _ _ _ _ => Fz); (rename News _ _ _ _ => Nz)
                            exact midIf Fz Nz fun p hp => subY p (hsXR p hp)
                          · (rename ¬ (neRows _ _ _ = _) => a2)
                            exact (a2 (ne_filt hnr)).elim))
                      (case at5 =>
                        intro hh4 tkk4 Fj4 Nj4
                        clear Fi4 Ni4
                        k_steps
                        unfold Stuck
                        (rename Fr _ _ _ _ => Fi5); (rename News _ _ _ _ => Ni5)
                        (k_dflt refine' cutIf Fi5 Ni5 ?if5 ?at6)
                        (case if5 =>
                          k_steps
                          unfold Stuck
                          obtain ⟨XS, eXS⟩ : ∃ X, X = W3 := ⟨_, rfl⟩
                          have hsXS : ∀ p ∈ W3, p ∈ XS := fun p hp => eXS ▸ hp
                          subst eXS
                          (rename Fr _ _ _ _ => FaS); (rename News _ _ _ _ => NaS)
                          have hDXS := hsXS _ hD3
                          have hRXS := RowsAt.mono hR3 hsXS
                          (k_dflt refine LCt.ListComp_T (F₀ := FaS) (by with_unfolding_all rfl) (by decide) (by rfl) (by decide) (by rfl) ?_)
                          k_steps
                          unfold Stuck
                          (rename Fr _ _ _ _ => FbS); (rename News _ _ _ _ => NbS)
                          (k_dflt refine LCt.CompSrcT.ledger (by rfl) FbS NbS hDXS ?hszS ?_)
                          (case hszS => rw [sizeLine_eq, List.size_toArray, RowsAt.length hR3, rowsOf_len]; omega)
                          intro g
                          refine comp_genT (fun j ys tl => tl = [] ∧ RowsAt XS ys (((rowsOf (scan (leadOf la i b)) (scan lb) nr).take j).filter (fun r => decide (r.2.2 ≤ r.2.1)))) (src_app (.inr ⟨_, hDXS, rfl, _, rfl⟩)) ?stepS ?finS ⟨rfl, .nil⟩
                          (case stepS =>
                            rintro j ys tl v C oC m₂ h tk E' U2 hj ⟨rfl, hv⟩ hP hC hxC hCU hn1 hn2 Fc Nc
                            obtain ⟨ra, rx, ry, rz, t1, t2, t3, rfl, hmem, he⟩ := rows_at hRXS hP
                            have hmem2 := hn2 _ hmem
                            clear hn2 hn1 NbS
                            k_steps
                            · (rename rz ≤ ry => hge)
                              exact cend0 Fc Nc ⟨rfl, filt_pos hv hmem he (decide_eq_true hge)⟩
                            · (rename ¬ (rz ≤ ry) => hge)
                              exact cend0 Fc Nc ⟨rfl, filt_neg hv he (decide_eq_false hge)⟩)
                          (case finS =>
                            rintro ys tl ⟨rfl, hv⟩
                            intro D2 h2 tk2 Fd Nd off
                            obtain ⟨Y, toY, subY, hDY⟩ := led_new (X := XS) (D := D2) (ys := ys)
                            have NdY := toY _ _ _ Nd
                            clear Nd
                            rw [List.size_toArray, RowsAt.length hR3, List.take_length] at hv
                            have hvY := RowsAt.mono hv subY
                            clear hv
                            k_steps
                            · (rename (lessB _ _ != decide _) = true => a2)
                              exact (ge_bad hnr2 a2).elim
                            · (rename Fr _ _ _ _ => Fz); (rename News _ _ _ _ => Nz)
                              exact midIf Fz Nz fun p hp => .tail _ (subY p (hsXS p hp))))
                        (case at6 =>
                          intro hh5 tkk5 Fj5 Nj5
                          clear Fi5 Ni5
                          k_steps
                          unfold Stuck
                          (rename Fr _ _ _ _ => Fi6); (rename News _ _ _ _ => Ni6)
                          (k_dflt refine' cutIf Fi6 Ni6 ?if6 ?at7)
                          (case if6 =>
                            k_steps
                            unfold Stuck
                            obtain ⟨XV, eXV⟩ : ∃ X, X = W3 := ⟨_, rfl⟩
                            have hsXV : ∀ p ∈ W3, p ∈ XV := fun p hp => eXV ▸ hp
                            subst eXV
                            (rename Fr _ _ _ _ => FaV); (rename News _ _ _ _ => NaV)
                            have hDXV := hsXV _ hD1
                            have hRXV := RowsAt.mono hR1 hsXV
                            (k_dflt refine LCt.ListComp_T (F₀ := FaV) (by with_unfolding_all rfl) (by decide) (by rfl) (by decide) (by rfl) ?_)
                            k_steps
                            unfold Stuck
                            (rename Fr _ _ _ _ => FbV); (rename News _ _ _ _ => NbV)
                            (k_dflt refine LCt.CompSrcT.ledger (by rfl) FbV NbV hDXV ?hszV ?_)
                            (case hszV => rw [sizeLine_eq, List.size_toArray, RowsAt.length hR1, rowsOf_len]; omega)
                            intro g
                            refine comp_genT (fun j ys tl => tl = [] ∧ RowsAt XV ys (((rowsOf (scan lb) (scan (leadOf la i b)) nr).take j).filter (fun r => decide (r.2.1 ≠ r.2.2)))) (src_app (.inr ⟨_, hDXV, rfl, _, rfl⟩)) ?stepV ?finV ⟨rfl, .nil⟩
                            (case stepV =>
                              rintro j ys tl v C oC m₂ h tk E' U2 hj ⟨rfl, hv⟩ hP hC hxC hCU hn1 hn2 Fc Nc
                              obtain ⟨ra, rx, ry, rz, t1, t2, t3, rfl, hmem, he⟩ := rows_at hRXV hP
                              have hmem2 := hn2 _ hmem
                              clear hn2 hn1 NbV
                              k_steps
                              · (rename ¬ (ry = rz) => hge)
                                exact cend0 Fc Nc ⟨rfl, filt_pos hv hmem he (decide_eq_true hge)⟩
                              · (rename ry = rz => hge)
                                exact cend0 Fc Nc ⟨rfl, filt_neg hv he (decide_eq_false fun h => h hge)⟩)
                            (case finV =>
                              rintro ys tl ⟨rfl, hv⟩
                              intro D2 h2 tk2 Fd Nd off
                              obtain ⟨Y, toY, subY, hDY⟩ := led_new (X := XV) (D := D2) (ys := ys)
                              have NdY := toY _ _ _ Nd
                              clear Nd
                              rw [List.size_toArray, RowsAt.length hR1, List.take_length] at hv
                              have hvY := RowsAt.mono hv subY
                              clear hv
                              k_steps
                              · (rename (decide _ != decide _) = true => a2)
                                exact (ne_bad hnr a2).elim
                              · (rename Fr _ _ _ _ => Fz); (rename News _ _ _ _ => Nz)
                                exact midIf Fz Nz fun p hp => .tail _ (subY p (hsXV p hp))))
                          (case at7 =>
                            intro hh6 tkk6 Fj6 Nj6
                            clear Fi6 Ni6
                            k_steps
                            exact in_next Fj6 (fun p hp => Nj6 p (hVW p hp)) in_out ⟨_, hoc⟩)))))))))
          (case done2 =>
            intro u2 oc h tk hov F10 N10
            k_steps
            exact out_next F10 N10 hs5 over_out ⟨_, ho3⟩ ⟨_, ho4'⟩ hov))))
    (case done =>
      intro la lb far ta tb tf x1 u h tk F3 N3
      k_steps)))
end
end Mine
theorem PySem.Challenge.cw_mj0338_01_holds : PySem.Challenge.rw_mj0338_01.Holds :=
  Mine.law_holds
