import PyProof.Rows.All
import Wide.All
import OpenK.AllK
import Wide.FinOn
import Lean
import PySem.Challenge.RW_nk0004_01
set_option rowWalk.seconds 0
set_option Elab.async false
section
open PySem PySem.W PyProof.Rows
namespace Mine
set_option maxRecDepth 100000 in
set_option maxHeartbeats 8000000 in
open_top hd for PySem.Challenge.rw_nk0004_01
end Mine
end
section
open PySem PySem.W PyProof.Rows PySem.Calls
set_option maxRecDepth 100000
namespace Mine
/-- the law's own parts, read out of the row's program -/
def lawParts : Scope × List Stmt := match PySem.Challenge.pw_nk0004_01.main.body.getLast? with
  | some (.FunctionDef _ _ b _ _ _ sc _ _ _) => (sc, b)
  | _ => (default, [])
def lawScope : Scope := lawParts.1
def lawBody : List Stmt := lawParts.2
abbrev lawEnv (L fa cd : Addr) : Env := envOfC (Str.ofString "law") lawScope L fa (Value.ref cd)
abbrev prog : Program := PySem.Challenge.rw_nk0004_01.row.prog

theorem execs_app {env : Env} : ∀ (a b : List Stmt), execs (a ++ b) env = (do match ← execs a env with | .next => execs b env | f => pure f)
  | [], b => rfl
  | st :: a, b => by
    show execs (st :: (a ++ b)) env = _
    rw [execs_cons, execs_cons, bind_assoc]
    refine congrArg (fun k => exec st env >>= k) (funext fun f => ?_)
    cases f with
    | next => exact execs_app a b
    | brk => rfl
    | cont => rfl
    | ret v => rfl
section
variable {M : Model} {A : Around} {E : Value → Shared → Prop} {env : Env}
/-- a block in two: the first runs on to the next, and then P holds -/
theorem execs_two {Q : Flow → Shared → Prop} {P : Shared → Prop} {body : List Stmt} {s : Shared} (n : Nat)
    (h₁ : wpAny M A (execs (body.take n) env) (fun f s' => f = .next ∧ P s') E s)
    (h₂ : ∀ s', P s' → wpAny M A (execs (body.drop n) env) Q E s') : wpAny M A (execs body env) Q E s := by
  have e := execs_app (env := env) (body.take n) (body.drop n)
  rw [List.take_append_drop] at e
  rw [e]
  refine wpAny_bind (wpAny_mono h₁ (fun f s' h => ?_) fun _ _ h => h)
  obtain ⟨rfl, hp⟩ := h
  exact h₂ s' hp
end
/-- what a stage leaves: on to the next, the heap as P says, nothing else turned but the tokens -/
def Nxt (s : Shared) (P : Heap → Prop) (f : Flow) (s' : Shared) : Prop := f = .next ∧ ∃ h tk, s' = { s with heap := h, toks := tk } ∧ P h
theorem Nxt.intro {s : Shared} {P : Heap → Prop} {h : Heap} {tk : Nat} (hp : P h) : Nxt s P .next { s with heap := h, toks := tk } := ⟨rfl, h, tk, rfl, hp⟩
def never (_ : Value) (_ : Shared) : Prop := False

def nmAt (j : Nat) : Str := ([Str.ofString "LC_TIME", Str.ofString "LC_NUMERIC", Str.ofString "LANGUAGE", Str.ofString "LC_ALL", Str.ofString "LC_CTYPE", Str.ofString "LANG"] : List Str).getD j Str.empty
def txAt (p : Nat) : Str := ([Str.ofString "", Str.ofString "C", Str.ofString "POSIX.UTF-8", Str.ofString "de", Str.ofString "fr_ca.UTF-8", Str.ofString "it_IT@euro", Str.ofString "zh_hans_cn", Str.ofString "sv-SE", Str.ofString "not_a_locale", Str.ofString "de.UTF-8"] : List Str).getD p Str.empty
/-- the text of the j-th variable, its pick being p -/
def TextOk (j p : Nat) (x : Str) : Prop := x = txAt p ∨ (j = 2 ∧ ∃ q : Nat, q < 10 ∧ x = txAt p ++ (Str.ofString ":" ++ txAt q))
def EnvAt (p : Int) (j : Nat) (D : List (PyData × PyData)) : Prop :=
  (10 ≤ p → Spec.lookup (.str (nmAt j)) D = none) ∧ (p < 10 → ∃ x, Spec.lookup (.str (nmAt j)) D = some (.str x) ∧ TextOk j p.toNat x)
def EnvI (w : World) (ps : List Int) (i : Nat) (o : Obj) : Prop := ∃ (kvs : List (Str × Value)) (D : List (PyData × PyData)),
  o.IsDictOf (strKind PySem.Challenge.rw_nk0004_01.row.prog w) kvs ∧ PyProof.V.FlatPairs PyData.str kvs D ∧ D.length ≤ i ∧
  ∀ j : Nat, j < 6 → (j < i → EnvAt (ps.getD j 0) j D) ∧ (i ≤ j → Spec.lookup (.str (nmAt j)) D = none)
/-- what of the ground is asked -/
structure Gr (w : World) (mg mb : Str → Option Value) (loose : List Str) (mean : ExcName → Option Value) (base : Heap) : Prop where
  K : (hd.heap_39 w.params).In base
  T : Top hd.view_39 loose mean mg mb base
  B : Below callerA base [] base
end Mine
end
section
open PySem PySem.W PyProof.Rows PySem.Calls
set_option maxRecDepth 100000
namespace Mine
def S1 (base : Heap) (L l : Addr) (h : Heap) : Prop := ∃ (a : Int) (t : Tok) (D1 D2 : Addr) (ws ys : List Value) (ns ps : List Int) (o0 o1 o2 : Obj),
  Fr base L h (fun y => if y = Str.ofString "setting" then some (.int a t) else if y = Str.ofString "script" then some (.ref l) else none) ∧
  News base L h [(D2, LCg.lst ys), (D1, W.listOf ws.toArray 0), (L + 1 + 1 + 1, o2), (L + 1 + 1, o1), (L + 1, o0)] ∧
  o0.data = .cell (some (.ref D1)) ∧ o1.data = .cell (some (.ref D2)) ∧ o2.data = .cell none ∧ IntsAre ws ns ∧ IntsAre ys ps ∧ ps.length = 6 ∧ ns.length ≤ 63 ∧ L + 1 + 1 + 1 ≠ D2 ∧
  ∀ k : Nat, k < 6 → 0 ≤ ps.getD k 0 ∧ ps.getD k 0 ≤ 10 ∧ (ps.getD k 0 < 10 → k < ns.length)
theorem S1.intro {base h : Heap} {L l D1 D2 : Addr} {a : Int} {t : Tok} {ws ys : List Value} {ns ps : List Int} {o0 o1 o2 : Obj}
    (hF : Fr base L h (fun y => if y = Str.ofString "setting" then some (.int a t) else if y = Str.ofString "script" then some (.ref l) else none))
    (hN : News base L h [(D2, LCg.lst ys), (D1, W.listOf ws.toArray 0), (L + 1 + 1 + 1, o2), (L + 1 + 1, o1), (L + 1, o0)])
    (h0 : o0.data = .cell (some (.ref D1))) (h1 : o1.data = .cell (some (.ref D2))) (h2 : o2.data = .cell none) (hw : IntsAre ws ns) (hp : IntsAre ys ps) (l6 : ps.length = 6) (l63 : ns.length ≤ 63) (hne : L + 1 + 1 + 1 ≠ D2)
    (fit : ∀ k : Nat, k < 6 → 0 ≤ ps.getD k 0 ∧ ps.getD k 0 ≤ 10 ∧ (ps.getD k 0 < 10 → k < ns.length)) : S1 base L l h :=
  ⟨a, t, D1, D2, ws, ys, ns, ps, o0, o1, o2, hF, hN, h0, h1, h2, hw, hp, l6, l63, hne, fit⟩
theorem fmod11 (x : Int) : 0 ≤ x.fmod 11 ∧ x.fmod 11 ≤ 10 := by
  rw [Int.fmod_eq_emod_of_nonneg _ (by omega)]
  omega
theorem picks_fit (ns : List Int) (k : Nat) (hk : k < 6) :
    0 ≤ (List.map (fun k' : Int => if k' < (ns.length : Int) then (ns.getD k'.toNat 0).fmod 11 else 10) (rangeKs 0 (6 - 0 : Int).toNat)).getD k 0 ∧
    (List.map (fun k' : Int => if k' < (ns.length : Int) then (ns.getD k'.toNat 0).fmod 11 else 10) (rangeKs 0 (6 - 0 : Int).toNat)).getD k 0 ≤ 10 ∧
    ((List.map (fun k' : Int => if k' < (ns.length : Int) then (ns.getD k'.toNat 0).fmod 11 else 10) (rangeKs 0 (6 - 0 : Int).toNat)).getD k 0 < 10 → k < ns.length) := by
  have e : rangeKs 0 (6 - 0 : Int).toNat = [0, 1, 2, 3, 4, 5] := by decide
  rw [e]
  have one : ∀ j : Int, 0 ≤ (if j < (ns.length : Int) then (ns.getD j.toNat 0).fmod 11 else 10) ∧ (if j < (ns.length : Int) then (ns.getD j.toNat 0).fmod 11 else 10) ≤ 10 ∧
      ((if j < (ns.length : Int) then (ns.getD j.toNat 0).fmod 11 else 10) < 10 → j < (ns.length : Int)) := by
    intro j
    have := fmod11 (ns.getD j.toNat 0)
    split <;> refine ⟨by omega, by omega, fun h => ?_⟩ <;> omega
  rcases (show k = 0 ∨ k = 1 ∨ k = 2 ∨ k = 3 ∨ k = 4 ∨ k = 5 by omega) with rfl | rfl | rfl | rfl | rfl | rfl
  · have := one 0; exact ⟨this.1, this.2.1, fun h => by have := this.2.2 h; omega⟩
  · have := one 1; exact ⟨this.1, this.2.1, fun h => by have := this.2.2 h; omega⟩
  · have := one 2; exact ⟨this.1, this.2.1, fun h => by have := this.2.2 h; omega⟩
  · have := one 3; exact ⟨this.1, this.2.1, fun h => by have := this.2.2 h; omega⟩
  · have := one 4; exact ⟨this.1, this.2.1, fun h => by have := this.2.2 h; omega⟩
  · have := one 5; exact ⟨this.1, this.2.1, fun h => by have := this.2.2 h; omega⟩
theorem picks_fit0 (k : Nat) (hk : k < 6) :
    0 ≤ (List.map (fun k' : Int => (([7, 3, 8, 5, 4, 6] : List Int).getD k'.toNat 0).fmod 11) (rangeKs 0 (6 - 0 : Int).toNat)).getD k 0 ∧
    (List.map (fun k' : Int => (([7, 3, 8, 5, 4, 6] : List Int).getD k'.toNat 0).fmod 11) (rangeKs 0 (6 - 0 : Int).toNat)).getD k 0 ≤ 10 ∧
    ((List.map (fun k' : Int => (([7, 3, 8, 5, 4, 6] : List Int).getD k'.toNat 0).fmod 11) (rangeKs 0 (6 - 0 : Int).toNat)).getD k 0 < 10 → k < ([7, 3, 8, 5, 4, 6] : List Int).length) := by
  rcases (show k = 0 ∨ k = 1 ∨ k = 2 ∨ k = 3 ∨ k = 4 ∨ k = 5 by omega) with rfl | rfl | rfl | rfl | rfl | rfl <;> decide
set_option maxHeartbeats 4000000 in
theorem stage1 {w : World} {mg mb : Str → Option Value} {loose : List Str} {mean : ExcName → Option Value} {base : Heap} (G : Gr w mg mb loose mean base)
    {s : Shared} {L l fa cd : Addr} {vs : List Value} {ns : List Int} {c0 c1 c2 : Obj}
    (hL : base.IsList l vs.toArray) (hI : IntsAre vs ns) (hlen : ns.length ≤ 63)
    (F : Fr base L s.heap (fun y => if y = Str.ofString "script" then some (.ref l) else none))
    (N : News base L s.heap [(L + 1 + 1 + 1, c2), (L + 1 + 1, c1), (L + 1, c0)])
    (d0 : c0.data = .cell none) (d1 : c1.data = .cell none) (d2 : c2.data = .cell none) :
    wpAny (model prog w) (callerA.deeper (lawEnv L fa cd)) (execs (lawBody.take 3) (lawEnv L fa cd)) (Nxt s (S1 base L l)) (fun _ _ => False) s := by
  obtain ⟨KX, T, B⟩ := G
  revert KX
  change (hd.heap_39 w.params).In base → wpAny (model PySem.Challenge.rw_nk0004_01.row.prog w) _ _ _ _ _
  w_top off
  k_fill
  intro KX
  conv in (List.take 3 lawBody) => (whnf; arg 2; whnf; arg 2; whnf; arg 2; whnf)
  generalize hQ : Nxt s (S1 base L l) = Q
  k_steps
  all_goals subst hQ
  · refine' Nxt.intro (S1.intro ?hF ?hN ?h0 ?h1 d2 ?hw ?hp ?l6 ?l63 ?hne ?fit)
    case hF => assumption
    case hN => assumption
    case h0 => assumption
    case h1 => assumption
    case hw => assumption
    case hp => assumption
    case l6 => simp [rangeKs_length]
    case l63 => simp only [List.length_take, List.length_drop]; omega
    case hne => (rename _ ≠ _ ∧ _ ≠ _ ∧ _ ≠ _ ∧ _ ≠ _ => o1; exact o1.2.1)
    case fit => exact picks_fit _
  all_goals
    refine' Nxt.intro (S1.intro (ns := [7, 3, 8, 5, 4, 6]) ?hF ?hN ?h0 ?h1 d2 ?hw ?hp ?l6 ?l63 ?hne ?fit)
    case hF => assumption
    case hN => assumption
    case h0 => assumption
    case h1 => assumption
    case hw => repeat constructor
    case hp => assumption
    case l6 => simp [rangeKs_length]
    case l63 => decide
    case hne => (rename _ ≠ _ ∧ _ ≠ _ ∧ _ ≠ _ ∧ _ ≠ _ => o1; exact o1.2.1)
    case fit => exact picks_fit0
end Mine
end
section
open PySem PySem.W PyProof.Rows PySem.Calls
set_option maxRecDepth 100000
namespace Mine
/-- the loop's block -/
def envTurn : List Stmt := match lawBody.drop 4 with
  | .For _ _ b _ _ :: _ => b
  | _ => []
theorem nm_ne {i j : Nat} (hi : i < 6) (hj : j < 6) (h : nmAt j = nmAt i) : j = i := by
  have all : ∀ i : Fin 6, ∀ j : Fin 6, nmAt j.1 = nmAt i.1 → j.1 = i.1 := by decide +kernel
  exact all ⟨i, hi⟩ ⟨j, hj⟩ h
theorem no_text (x : Str) : x ++ Str.ofString "" = x := by
  have e : Str.ofString "" = Str.empty := by decide +kernel
  rw [e]; exact Str.append_empty x
theorem fmod10 (x : Int) : (x.fmod 10).toNat < 10 := by
  rw [Int.fmod_eq_emod_of_nonneg _ (by omega)]
  omega
theorem EnvI.skip {w : World} {ps : List Int} {i : Nat} {o : Obj} (h : EnvI w ps i o) (hp : ¬ ps.getD i 0 < 10) : EnvI w ps (i + 1) o := by
  obtain ⟨kvs, D, a, b, c, e⟩ := h
  refine ⟨kvs, D, a, b, Nat.le_succ_of_le c, fun j hj => ⟨fun hji => ?_, fun hij => (e j hj).2 (by omega)⟩⟩
  by_cases q : j < i
  · exact (e j hj).1 q
  · have : j = i := by omega
    subst this
    exact ⟨fun _ => (e j hj).2 (Nat.le_refl _), fun h => absurd h hp⟩
theorem EnvI.put {w : World} {ps : List Int} {i : Nat} {o' : Obj} {kvs : List (Str × Value)} {D : List (PyData × PyData)} {x : Str} {v : Value} (hi : i < 6)
    (hlen : D.length ≤ i) (e : ∀ j : Nat, j < 6 → (j < i → EnvAt (ps.getD j 0) j D) ∧ (i ≤ j → Spec.lookup (.str (nmAt j)) D = none))
    (hod : o'.IsDictOf (strKind PySem.Challenge.rw_nk0004_01.row.prog w) (stored kvs (nmAt i) v)) (hf : PyProof.V.FlatPairs PyData.str (stored kvs (nmAt i) v) (PyProof.V.putD (.str (nmAt i)) (.str x) D))
    (hp : ps.getD i 0 < 10) (hx : TextOk i (ps.getD i 0).toNat x) : EnvI w ps (i + 1) o' := by
  refine ⟨_, _, hod, hf, Nat.le_trans (PyProof.V.putD_length_le _ _ _) (Nat.succ_le_succ hlen), fun j hj => ⟨fun hji => ?_, fun hij => ?_⟩⟩
  · by_cases q : j < i
    · have := (e j hj).1 q
      have ne : ¬ nmAt j = nmAt i := fun z => by have := nm_ne hi hj z; omega
      refine ⟨fun h => ?_, fun h => ?_⟩
      · rw [lookup_putD_str, if_neg ne]; exact this.1 h
      · rw [lookup_putD_str, if_neg ne]; exact this.2 h
    · have : j = i := by omega
      subst this
      refine ⟨fun h => absurd hp (by omega), fun h => ⟨x, ?_, hx⟩⟩
      rw [lookup_putD_str, if_pos rfl]
  · have ne : ¬ nmAt j = nmAt i := fun z => by have := nm_ne hi hj z; omega
    rw [lookup_putD_str, if_neg ne]
    exact (e j hj).2 (by omega)
set_option maxHeartbeats 4000000 in
theorem turn2 {w : World} {mg mb : Str → Option Value} {loose : List Str} {mean : ExcName → Option Value} {base : Heap} (G : Gr w mg mb loose mean base)
    {s : Shared} {L l fa cd d D1 D2 I : Nat} {a : Int} {t t' : Tok} {ws ys : List Value} {ns ps : List Int} {o o0 o1 o2 it : Obj} {i : Nat}
    (hi : i < 6)
    (F : Fr base L s.heap (fun y => if y = Str.ofString "k" then some (.int (i : Int) t') else if y = Str.ofString "environ" then some (.ref d) else if y = Str.ofString "setting" then some (.int a t) else if y = Str.ofString "script" then some (.ref l) else none))
    (N : News base L s.heap [(I, it), (d, o), (D2, LCg.lst ys), (D1, W.listOf ws.toArray 0), (L + 1 + 1 + 1, o2), (L + 1 + 1, o1), (L + 1, o0)])
    (l1 : D2 < d ∧ D1 < d ∧ L + 1 + 1 + 1 < d ∧ d < I)
    (h0 : o0.data = .cell (some (.ref D1))) (h1 : o1.data = .cell (some (.ref D2))) (h2 : o2.data = .cell none) (hw : IntsAre ws ns) (hp : IntsAre ys ps) (l6 : ps.length = 6) (l63 : ns.length ≤ 63)
    (fit : 0 ≤ ps.getD i 0 ∧ ps.getD i 0 ≤ 10 ∧ (ps.getD i 0 < 10 → i < ns.length))
    (he : EnvI w ps i o) :
    wpAny (model PySem.Challenge.rw_nk0004_01.row.prog w) (callerA.deeper (lawEnv L fa cd)) (execs envTurn (lawEnv L fa cd))
      (Nxt s fun h => ∃ o', Fr base L h (fun y => if y = Str.ofString "k" then some (.int (i : Int) t') else if y = Str.ofString "environ" then some (.ref d) else if y = Str.ofString "setting" then some (.int a t) else if y = Str.ofString "script" then some (.ref l) else none) ∧
        News base L h [(I, it), (d, o'), (D2, LCg.lst ys), (D1, W.listOf ws.toArray 0), (L + 1 + 1 + 1, o2), (L + 1 + 1, o1), (L + 1, o0)] ∧ EnvI w ps (i + 1) o') (fun _ _ => False) s := by
  obtain ⟨KX, T, B⟩ := G
  revert KX
  w_top off
  k_fill
  intro KX
  have fit0 : 0 ≤ ps.getD (Int.toNat i) 0 := fit.1
  have fit1 : ps.getD (Int.toNat i) 0 ≤ 10 := fit.2.1
  have fit2 : ps.getD (Int.toNat i) 0 < 10 → (i : Int) < ns.length := fun h => by have := fit.2.2 h; omega
  have he' := he
  obtain ⟨kvs, D, hod, hf, hlen, hE⟩ := he
  conv in envTurn => whnf
  generalize hQ : Nxt s _ = Q
  (k_with "table" => skip)
  k_steps
  iterate 3
    focus
      refine' setItem_K PyProof.V.same_str (strKind_is _ _ _ _) (PyProof.V.Flat.str _ _) ?F ?N ?U hod hf ?_ ?z
      case F => assumption
      case N => assumption
      case U => k_updF
      case z => exact Nat.le_trans hlen (by rw [sizeLine_eq]; omega)
      intro h' o' F' N' hd' hf'
      try dsimp only at N'
      repeat refine wpAny_execs_nil ?_
      subst hQ
      refine Nxt.intro ⟨o', F', fun p hp => N' p (by first | exact .tail _ hp | exact .tail _ (.tail _ hp)), EnvI.put hi hlen hE hd' hf' (by assumption) ?_⟩
      first
        | exact Or.inl (no_text _)
        | exact Or.inr ⟨by omega, _, fmod10 _, rfl⟩
  subst hQ
  exact Nxt.intro ⟨o, F, N, he'.skip (by assumption)⟩
end Mine
end
section
open PySem PySem.W PyProof.Rows PySem.Calls
set_option maxRecDepth 100000
namespace Mine
def Hold (p : Prop) : Prop := p
theorem hold {p : Prop} (h : Hold p) : p := h
theorem rest_inv {prog : Program} {w : World} {A : Around} {E : Value → Shared → Prop} {s : Shared} {env : Env} {h₀ : Heap} {x : Str} {body : List Stmt} {Q : Flow → Shared → Prop} {I : Addr} {a : Int} {n : Nat}
    (J : Nat → (Str → Option Value) → List (Addr × Obj) → Prop)
    (turn : ∀ i m news t h tk, i < n → J i m news → Fr h₀ env.locals h (fun y => if y = x then some (.int (a + (i : Int)) t) else m y) →
      News h₀ env.locals h ((I, itR (a + ((i + 1 : Nat) : Int)) ((n : Int) - ((i + 1 : Nat) : Int))) :: news) →
      wpAny (model prog w) A (execs body env) (Nxt { s with heap := h, toks := tk } fun h' => ∃ m' news', Fr h₀ env.locals h' m' ∧
        News h₀ env.locals h' ((I, itR (a + ((i + 1 : Nat) : Int)) ((n : Int) - ((i + 1 : Nat) : Int))) :: news') ∧ (∀ p ∈ news', p.1 ≠ I) ∧ J (i + 1) m' news') E { s with heap := h, toks := tk })
    (done : ∀ m news h tk, J n m news → Fr h₀ env.locals h m → News h₀ env.locals h news → Q .next { s with heap := h, toks := tk }) :
    ∀ k i m news, i + k = n → J i m news → RangeRest prog w A E h₀ env x body Q s I a n k i m news
  | 0, i, m, news, e, hj => RangeRest.zero fun h tk F N => done m news h tk (by have : i = n := e; rw [← this]; exact hj) F N
  | k + 1, i, m, news, e, hj => RangeRest.succ fun t h tk F N =>
      wpAny_mono (turn i m news t h tk (by omega) hj F N) (fun f s₂ hn => by
        obtain ⟨rfl, h', tk', e', m', news', F', N', off, hj'⟩ := hn
        exact ⟨h', tk', m', news', e', F', N', off, rest_inv J turn done k (i + 1) m' news' (by omega) hj'⟩) fun _ _ q => q
def S2 (w : World) (base : Heap) (L l : Addr) (h : Heap) : Prop := ∃ (a : Int) (t : Tok) (d D2 : Addr) (ys : List Value) (ps : List Int) (o o1 o2 : Obj) (u : Str → Option Value),
  Fr base L h (fun y => if y = Str.ofString "k" then u y else if y = Str.ofString "environ" then some (.ref d) else if y = Str.ofString "setting" then some (.int a t) else if y = Str.ofString "script" then some (.ref l) else none) ∧
  News base L h [(d, o), (D2, LCg.lst ys), (L + 1 + 1 + 1, o2), (L + 1 + 1, o1)] ∧ (d == sysModules) = false ∧
  o1.data = .cell (some (.ref D2)) ∧ o2.data = .cell none ∧ IntsAre ys ps ∧ ps.length = 6 ∧
  (∀ k : Nat, k < 6 → 0 ≤ ps.getD k 0 ∧ ps.getD k 0 ≤ 10) ∧ EnvI w ps 6 o ∧ D2 < d ∧ L + 1 + 1 + 1 < d ∧ L + 1 + 1 + 1 ≠ D2
section
local macro_rules | `(tactic| walk_at "RangeRest") => `(tactic| refine Mine.hold ?_)
set_option maxHeartbeats 4000000 in
theorem stage2 {w : World} {mg mb : Str → Option Value} {loose : List Str} {mean : ExcName → Option Value} {base : Heap} (G : Gr w mg mb loose mean base)
    {s : Shared} {L l fa cd : Addr} (H : S1 base L l s.heap) :
    wpAny (model PySem.Challenge.rw_nk0004_01.row.prog w) (callerA.deeper (lawEnv L fa cd)) (execs ((lawBody.drop 3).take 2) (lawEnv L fa cd)) (Nxt s (S2 w base L l)) (fun _ _ => False) s := by
  obtain ⟨a, t, D1, D2, ws, ys, ns, ps, o0, o1, o2, F, N, h0, h1, h2, hw, hp, l6, l63, hne, fit⟩ := H
  have G' := G
  obtain ⟨KX, T, B⟩ := G
  revert KX
  w_top off
  k_fill
  intro KX
  conv in (List.take 2 (List.drop 3 lawBody)) => (whnf; arg 2; whnf; arg 2; whnf)
  generalize hQ : Nxt s (S2 w base L l) = Q
  k_steps
  rename_i d hh o' lo hs fs hi' fi' l1 h2' F2 N2 h3 tk t₁ u₁ v₁ ra ka I l1'
  have G' : Gr w mg mb loose mean base := ⟨KX, T, B⟩
  refine rest_inv (fun i m news => (∃ o, news = [(d, o), (D2, LCg.lst ys), (D1, W.listOf ws.toArray 0), (L + 1 + 1 + 1, o2), (L + 1 + 1, o1), (L + 1, o0)] ∧ EnvI w ps i o) ∧
    ∀ y, y ≠ Str.ofString "k" → m y = (fun y => if y = Str.ofString "environ" then some (.ref d) else if y = Str.ofString "setting" then some (.int a t) else if y = Str.ofString "script" then some (.ref l) else none) y)
    ?turn ?done 6 0 _ _ rfl ⟨⟨o', rfl, _, _, hs, fs, Nat.le_refl _, fun j hj => ⟨fun h => absurd h (Nat.not_lt_zero _), fun _ => rfl⟩⟩, fun _ _ => rfl⟩
  case turn =>
    rintro i m news t' h tk hi ⟨⟨o, rfl, he⟩, hm⟩ F N
    rw [map_none hm, Int.zero_add] at F
    refine wpAny_mono (turn2 G' hi F N ⟨l1.1, l1.2.1, l1.2.2.1, l1'.1⟩ h0 h1 h2 hw hp l6 l63 (fit i hi) he) (fun f s₂ hn => ?_) (fun _ _ q => q)
    obtain ⟨rfl, h', tk', e', o', F', N', he'⟩ := hn
    refine ⟨rfl, h', tk', e', _, _, F', N', ?_, ⟨o', rfl, he'⟩, fun y hy => if_neg hy⟩
    k_all
  case done =>
    rintro m news h tk ⟨⟨o, rfl, he⟩, hm⟩ F N
    rw [← done_none hm] at F
    refine wpAny_execs_nil ?_
    subst hQ
    refine Nxt.intro ⟨a, t, d, D2, ys, ps, o, o1, o2, m, F, fun p hp => N p ?_, lo, h1, h2, hp, l6, fun k hk => ⟨(fit k hk).1, (fit k hk).2.1⟩, he, l1.1, l1.2.2.1, hne⟩
    simp only [List.mem_cons, List.not_mem_nil, or_false] at hp ⊢
    rcases hp with h | h | h | h <;> simp [h]
end
end Mine
end
section
open PySem PySem.W PyProof.Rows PySem.Calls
set_option maxRecDepth 100000
namespace Mine
/-- the aliases' three ways: the package's, two of the law's own, none -/
def AlOk (b : Int) (av : Value) : Prop := (b = 0 ∧ av = .ref 15) ∨ (b = 1 ∧ av = .ref 62) ∨ (b = 2 ∧ av = .none)
def S3 (w : World) (base : Heap) (L l : Addr) (h : Heap) : Prop := ∃ (a b : Int) (t tb : Tok) (av : Value) (d D2 : Addr) (ys : List Value) (ps : List Int) (o o1 o2 : Obj) (u : Str → Option Value),
  Fr base L h (fun y => if y = Str.ofString "aliases" then some av else if y = Str.ofString "which" then some (.int b tb) else if y = Str.ofString "k" then u y else if y = Str.ofString "environ" then some (.ref d) else if y = Str.ofString "setting" then some (.int a t) else if y = Str.ofString "script" then some (.ref l) else none) ∧
  News base L h [(d, o), (D2, LCg.lst ys), (L + 1 + 1 + 1, o2), (L + 1 + 1, o1)] ∧ (d == sysModules) = false ∧
  o1.data = .cell (some (.ref D2)) ∧ o2.data = .cell none ∧ IntsAre ys ps ∧ ps.length = 6 ∧
  (∀ k : Nat, k < 6 → 0 ≤ ps.getD k 0 ∧ ps.getD k 0 ≤ 10) ∧ EnvI w ps 6 o ∧ D2 < d ∧ L + 1 + 1 + 1 < d ∧ L + 1 + 1 + 1 ≠ D2 ∧ AlOk b av
theorem S3.intro {w : World} {base h : Heap} {L l : Addr} {a b : Int} {t tb : Tok} {av : Value} {d D2 : Addr} {ys : List Value} {ps : List Int} {o o1 o2 : Obj} {u : Str → Option Value} {lx : Addr} {ox : Obj}
    (F : Fr base L h (fun y => if y = Str.ofString "aliases" then some av else if y = Str.ofString "which" then some (.int b tb) else if y = Str.ofString "k" then u y else if y = Str.ofString "environ" then some (.ref d) else if y = Str.ofString "setting" then some (.int a t) else if y = Str.ofString "script" then some (.ref l) else none))
    (N : News base L h [(lx, ox), (d, o), (D2, LCg.lst ys), (L + 1 + 1 + 1, o2), (L + 1 + 1, o1)]) (lo : (d == sysModules) = false)
    (h1 : o1.data = .cell (some (.ref D2))) (h2 : o2.data = .cell none) (hp : IntsAre ys ps) (l6 : ps.length = 6)
    (fit : ∀ k : Nat, k < 6 → 0 ≤ ps.getD k 0 ∧ ps.getD k 0 ≤ 10) (he : EnvI w ps 6 o) (l1 : D2 < d) (l2 : L + 1 + 1 + 1 < d) (hne : L + 1 + 1 + 1 ≠ D2) (ha : AlOk b av) : S3 w base L l h :=
  ⟨a, b, t, tb, av, d, D2, ys, ps, o, o1, o2, u, F, fun p hp => N p (.tail _ hp), lo, h1, h2, hp, l6, fit, he, l1, l2, hne, ha⟩
set_option maxHeartbeats 4000000 in
theorem stage3 {w : World} {mg mb : Str → Option Value} {loose : List Str} {mean : ExcName → Option Value} {base : Heap} (G : Gr w mg mb loose mean base)
    {s : Shared} {L l fa cd : Addr} (H : S2 w base L l s.heap) :
    wpAny (model PySem.Challenge.rw_nk0004_01.row.prog w) (callerA.deeper (lawEnv L fa cd)) (execs ((lawBody.drop 5).take 2) (lawEnv L fa cd)) (Nxt s (S3 w base L l)) (fun _ _ => False) s := by
  obtain ⟨a, t, d, D2, ys, ps, o, o1, o2, u, F, N, lo, h1, h2, hp, l6, fit, he, l1, l2, hne⟩ := H
  obtain ⟨KX, T, B⟩ := G
  revert KX
  w_top off
  k_fill
  intro KX
  conv in (List.take 2 (List.drop 5 lawBody)) => (whnf; arg 2; whnf; arg 2; whnf)
  generalize hQ : Nxt s (S3 w base L l) = Q
  k_steps
  all_goals
    subst hQ
    refine' Nxt.intro (S3.intro ?hF ?hN lo h1 h2 hp l6 fit he l1 l2 hne ?ha)
    case hF => assumption
    case hN => assumption
    case ha => first | exact .inl ⟨by assumption, rfl⟩ | exact .inr (.inl ⟨by assumption, rfl⟩) | exact .inr (.inr ⟨by assumption, rfl⟩)
end Mine
end
section
open PySem PySem.W PyProof.Rows PySem.Calls
set_option maxRecDepth 100000
namespace Mine
/-- what each pick means -/
def meansOf (b : Int) : List Str := [Str.ofString "", Str.ofString "en_US_POSIX", Str.ofString "en_US_POSIX", ([Str.ofString "de_DE", Str.ofString "de", Str.ofString "de"] : List Str).getD b.toNat Str.empty, Str.ofString "fr_CA",
  ([Str.ofString "it_IT@euro", Str.ofString "it_CH", Str.ofString "it_IT@euro"] : List Str).getD b.toNat Str.empty, Str.ofString "zh_Hans_CN", Str.ofString "", Str.ofString "", Str.ofString "de", Str.ofString ""]
def S4 (w : World) (base : Heap) (L l : Addr) (h : Heap) : Prop := ∃ (a b : Int) (t tb : Tok) (av : Value) (d D2 Dm : Addr) (ys ms : List Value) (ps : List Int) (o o1 o2 : Obj) (u : Str → Option Value),
  Fr base L h (fun y => if y = Str.ofString "aliases" then some av else if y = Str.ofString "which" then some (.int b tb) else if y = Str.ofString "k" then u y else if y = Str.ofString "environ" then some (.ref d) else if y = Str.ofString "setting" then some (.int a t) else if y = Str.ofString "script" then some (.ref l) else none) ∧
  News base L h [(Dm, W.listOf ms.toArray 0), (d, o), (D2, LCg.lst ys), (L + 1 + 1 + 1, o2), (L + 1 + 1, o1)] ∧ (d == sysModules) = false ∧
  o1.data = .cell (some (.ref D2)) ∧ o2.data = .cell (some (.ref Dm)) ∧ IntsAre ys ps ∧ ps.length = 6 ∧
  (∀ k : Nat, k < 6 → 0 ≤ ps.getD k 0 ∧ ps.getD k 0 ≤ 10) ∧ EnvI w ps 6 o ∧ AlOk b av ∧ StrsAre ms (meansOf b)
theorem S4.intro {w : World} {base h : Heap} {L l : Addr} {a b : Int} {t tb : Tok} {av : Value} {d D2 Dm x1 x2 : Addr} {ys ms : List Value} {ps : List Int} {o o1 o2 y1 y2 : Obj} {u : Str → Option Value}
    (F : Fr base L h (fun y => if y = Str.ofString "aliases" then some av else if y = Str.ofString "which" then some (.int b tb) else if y = Str.ofString "k" then u y else if y = Str.ofString "environ" then some (.ref d) else if y = Str.ofString "setting" then some (.int a t) else if y = Str.ofString "script" then some (.ref l) else none))
    (N : News base L h [(Dm, W.listOf ms.toArray 0), (x1, y1), (x2, y2), (d, o), (D2, LCg.lst ys), (L + 1 + 1 + 1, o2), (L + 1 + 1, o1)]) (lo : (d == sysModules) = false)
    (h1 : o1.data = .cell (some (.ref D2))) (h2 : o2.data = .cell (some (.ref Dm))) (hp : IntsAre ys ps) (l6 : ps.length = 6)
    (fit : ∀ k : Nat, k < 6 → 0 ≤ ps.getD k 0 ∧ ps.getD k 0 ≤ 10) (he : EnvI w ps 6 o) (ha : AlOk b av) (hm : StrsAre ms (meansOf b)) : S4 w base L l h :=
  ⟨a, b, t, tb, av, d, D2, Dm, ys, ms, ps, o, o1, o2, u, F, fun p hp => N p (by
    simp only [List.mem_cons, List.not_mem_nil, or_false] at hp ⊢
    rcases hp with h | h | h | h | h <;> simp [h]), lo, h1, h2, hp, l6, fit, he, ha, hm⟩
set_option maxHeartbeats 4000000 in
theorem stage4 {w : World} {mg mb : Str → Option Value} {loose : List Str} {mean : ExcName → Option Value} {base : Heap} (G : Gr w mg mb loose mean base)
    {s : Shared} {L l fa cd : Addr} (H : S3 w base L l s.heap) :
    wpAny (model PySem.Challenge.rw_nk0004_01.row.prog w) (callerA.deeper (lawEnv L fa cd)) (execs ((lawBody.drop 7).take 1) (lawEnv L fa cd)) (Nxt s (S4 w base L l)) (fun _ _ => False) s := by
  obtain ⟨a, b, t, tb, av, d, D2, ys, ps, o, o1, o2, u, F, N, lo, h1, h2, hp, l6, fit, he, l1, l2, hne, ha⟩ := H
  have hb : 0 ≤ b ∧ b < 3 := by rcases ha with h | h | h <;> omega
  obtain ⟨hb0, hb1⟩ := hb
  replace hne := neN hne
  replace l1 := ltN l1
  replace l2 := ltN l2
  obtain ⟨KX, T, B⟩ := G
  revert KX
  w_top off
  k_fill
  intro KX
  conv in (List.take 1 (List.drop 7 lawBody)) => (whnf; arg 2; whnf)
  generalize hQ : Nxt s (S4 w base L l) = Q
  (k_with "table" => skip)
  k_steps
  subst hQ
  refine' Nxt.intro (S4.intro ?hF ?hN lo h1 ?h2 hp l6 fit he ha ?hm)
  case hF => assumption
  case hN => assumption
  case h2 => assumption
  case hm => repeat constructor
end Mine
end
section
open PySem PySem.W PyProof.Rows PySem.Calls
set_option maxRecDepth 100000
namespace Mine
/-- the variables that are asked, in their order, by what the category is -/
def idxs : Nat → List Nat
  | 0 => [2, 3, 4, 5]
  | 1 => [0, 2, 3, 4, 5]
  | 2 => [1, 0, 2, 3, 4, 5]
  | _ => [1, 2, 3, 4, 5]
def meant (b : Int) (ps : List Int) (k : Nat) : Str := (meansOf b).getD (ps.getD k 0).toNat Str.empty
def rowOf (b : Int) (ps : List Int) (j : Nat) : List Str := (idxs j).map (meant b ps)
def S5 (w : World) (base : Heap) (L l : Addr) (h : Heap) : Prop := ∃ (a b : Int) (t tb : Tok) (av : Value) (d Dr : Addr) (rs : List Value) (ps : List Int) (o : Obj) (u : Str → Option Value) (j : Nat),
  Fr base L h (fun y => if y = Str.ofString "row" then some (.ref Dr) else if y = Str.ofString "aliases" then some av else if y = Str.ofString "which" then some (.int b tb) else if y = Str.ofString "k" then u y else if y = Str.ofString "environ" then some (.ref d) else if y = Str.ofString "setting" then some (.int a t) else if y = Str.ofString "script" then some (.ref l) else none) ∧
  News base L h [(Dr, LCg.lst rs), (d, o)] ∧ (d == sysModules) = false ∧
  (∀ k : Nat, k < 6 → 0 ≤ ps.getD k 0 ∧ ps.getD k 0 ≤ 10) ∧ EnvI w ps 6 o ∧ AlOk b av ∧ (a.fmod 5).fmod 4 = (j : Int) ∧ j < 4 ∧ StrsAre rs (rowOf b ps j)
theorem S5.intro {w : World} {base h : Heap} {L l : Addr} {a b : Int} {t tb : Tok} {av : Value} {d Dr x1 x2 x3 x4 x5 x6 : Addr} {rs : List Value} {ps : List Int} {o y1 y2 y3 y4 y5 y6 : Obj} {u : Str → Option Value} (j : Nat)
    (F : Fr base L h (fun y => if y = Str.ofString "row" then some (.ref Dr) else if y = Str.ofString "aliases" then some av else if y = Str.ofString "which" then some (.int b tb) else if y = Str.ofString "k" then u y else if y = Str.ofString "environ" then some (.ref d) else if y = Str.ofString "setting" then some (.int a t) else if y = Str.ofString "script" then some (.ref l) else none))
    (N : News base L h [(Dr, LCg.lst rs), (x1, y1), (x2, y2), (x3, y3), (d, o), (x4, y4), (x5, y5), (x6, y6)]) (lo : (d == sysModules) = false)
    (fit : ∀ k : Nat, k < 6 → 0 ≤ ps.getD k 0 ∧ ps.getD k 0 ≤ 10) (he : EnvI w ps 6 o) (ha : AlOk b av) (hj : (a.fmod 5).fmod 4 = (j : Int)) (hj4 : j < 4) (hr : StrsAre rs (rowOf b ps j)) : S5 w base L l h :=
  ⟨a, b, t, tb, av, d, Dr, rs, ps, o, u, j, F, fun p hp => N p (by
    simp only [List.mem_cons, List.not_mem_nil, or_false] at hp ⊢
    rcases hp with h | h <;> simp [h]), lo, fit, he, ha, hj, hj4, hr⟩
theorem at_idx {prog : Program} {w : World} {A : Around} {E : Value → Shared → Prop} {s : Shared} {value slice : PySem.Expr} {o : Value} {k j : Int} {u : Tok} {Q : Value → Shared → Prop} (e : k = j)
    (h : wpAny (model prog w) A (subscriptTail value slice o (.int j u)) Q E s) : wpAny (model prog w) A (subscriptTail value slice o (.int k u)) Q E s := by
  rw [e]; exact h
theorem index_str {prog : Program} {w : World} {A : Around} {E : Value → Shared → Prop} {s : Shared} {l : Addr} {vs : List Value} {ys : List Str} {x : Str} {t : Tok} {Q : Value → Shared → Prop} (j : Nat) (k : Int) (hk : k = (j : Int))
    (hl : s.heap.IsList l vs.toArray) (hi : StrsAre vs ys) (hj : j < vs.toArray.size) (hs : (j : Int) < 2 ^ 63 - 1) (hit : isStrOf x vs.toArray[j] = true)
    (hno : ∀ m (hm : m < vs.toArray.size), m < j → isStrOf x vs.toArray[m] = false)
    (h : Q (.int k s.toks) { s with toks := s.toks + 1 }) : wpAny (model prog w) A (call (.builtin "list.index") [.ref l, .str x t]) Q E s := by
  subst hk
  obtain ⟨⟨cls, dd, data, sl⟩, ho, hc, n, hd⟩ := id hl
  simp only at hc hd
  subst hc hd
  exact call_meets PySem.F.slot_list_index ⟨_, ho, rfl⟩ PySem.F.entry_list_index (PySem.F.args_list_index_2 _ _)
    (PySem.SeqAt.list_indexAt l vs.toArray n dd sl (.str x t) (isStrOf x) j hj hs hit hno) ⟨ho, fun y hy => (eq_isStrOf x t hi y (by simpa using hy)).at _ _, h⟩
theorem topMethod {prog : Program} {w : World} {A : Around} {E : Value → Shared → Prop} {s : Shared} {h₀ : Heap} {L : Addr} {m : Str → Option Value} {K : Frag} {l : Addr} {items : Array Value} {n : Nat} {sl : Array (Option Value)} {pl : Sem Bool} {Q : Value × List Value → Shared → Prop}
    (F : Fr h₀ L s.heap m) (X : K.In h₀) (ho : K.lookup l = some ⟨.type "list", none, .seq items n, sl⟩) (h : Q (.builtin "list.index", [.ref l]) s) : wpAny (model prog w) A (getMethod (.ref l) (Str.ofString "index") pl) Q E s :=
  getMethod_list_of PySem.F.slot_list_index PySem.F.type_list_index (listIn X F ho) ⟨_, F.keep _ _ (X _ _ ho), rfl⟩ h
theorem compEnd_same {h₀ : Heap} {L I C D : Addr} {m : Str → Option Value} {s₁ : Shared} {oI oC oD : Obj} {S : List (Addr × Obj) → Prop} {rest : Value → List (Addr × Obj) → Prop} {y : Value} {h' : Heap} {tk : Nat} {news : List (Addr × Obj)}
    (F : Fr h₀ L h' m) (N : News h₀ L h' ((I, oI) :: (C, oC) :: (D, oD) :: news)) (off : LCg.Off3 I C D news) (hS : S news) (r : rest y news) :
    LCg.CompEnd h₀ L m s₁ I oI C oC D oD S rest y { s₁ with heap := h', toks := tk } := ⟨h', tk, news, rfl, F, N, off, hS, r⟩
theorem mean_at {b : Int} {ps : List Int} (fit : ∀ k : Nat, k < 6 → 0 ≤ ps.getD k 0 ∧ ps.getD k 0 ≤ 10) (k : Nat) (hk : k < 6) :
    0 ≤ ps.getD k 0 ∧ ps.getD k 0 < ((meansOf b).length : Int) ∧ ps.getD k 0 < 2 ^ 63 := by
  have h := fit k hk
  have e : (meansOf b).length = 11 := rfl
  rw [e]
  omega
section
local macro_rules | `(tactic| walk_at "subscriptTail Name Subscript ref int") => `(tactic| (k_here; k_dflt (refine' KTb.item_list (ws := meansOf _) ?l ?w ?h0 ?h1 ?hf ?_; (case l => exact News.isList (by k_asm) (by k_mem)); (case w => assumption); (case h0 => exact (mean_at (b := 0) (by assumption) _ (by decide)).1); (case h1 => exact (mean_at (by assumption) _ (by decide)).2.1); (case hf => exact (mean_at (b := 0) (by assumption) _ (by decide)).2.2)); intro t9 _))
local macro_rules | `(tactic| walk_at "getMethod ref") => `(tactic| (k_here; k_dflt (refine' topMethod ?F ?X ?l ?_; (case F => k_asm); (case X => k_asm); (case l => k_is); k_whole)))
local macro_rules | `(tactic| walk_at "call builtin:list.index") => `(tactic| (k_here; k_dflt (first
  | (refine' index_str 0 0 rfl ?l ?i ?a ?b ?c ?d ?_; (case l => exact listIn (by k_asm) (by k_asm) (by k_is)); (case i => repeat constructor); (case a => decide); (case b => decide); (case c => decide +kernel); (case d => decide +kernel))
  | (refine' index_str 1 1 rfl ?l ?i ?a ?b ?c ?d ?_; (case l => exact listIn (by k_asm) (by k_asm) (by k_is)); (case i => repeat constructor); (case a => decide); (case b => decide); (case c => decide +kernel); (case d => decide +kernel))
  | (refine' index_str 2 2 rfl ?l ?i ?a ?b ?c ?d ?_; (case l => exact listIn (by k_asm) (by k_asm) (by k_is)); (case i => repeat constructor); (case a => decide); (case b => decide); (case c => decide +kernel); (case d => decide +kernel))
  | (refine' index_str 3 3 rfl ?l ?i ?a ?b ?c ?d ?_; (case l => exact listIn (by k_asm) (by k_asm) (by k_is)); (case i => repeat constructor); (case a => decide); (case b => decide); (case c => decide +kernel); (case d => decide +kernel))
  | (refine' index_str 4 4 rfl ?l ?i ?a ?b ?c ?d ?_; (case l => exact listIn (by k_asm) (by k_asm) (by k_is)); (case i => repeat constructor); (case a => decide); (case b => decide); (case c => decide +kernel); (case d => decide +kernel))
  | (refine' index_str 5 5 rfl ?l ?i ?a ?b ?c ?d ?_; (case l => exact listIn (by k_asm) (by k_asm) (by k_is)); (case i => repeat constructor); (case a => decide); (case b => decide); (case c => decide +kernel); (case d => decide +kernel)))))
local macro_rules | `(tactic| walk_at "subscriptTail Name BinOp ref int") => `(tactic| (refine at_idx (by assumption) ?_; k_dflt (refine' topList_K ?F ?X ?l ?a ?b ?d ?_; (case F => k_asm); (case X => k_asm); (case l => k_is); (case a => decide); (case b => decide); (case d => rfl); k_whole)))
local macro_rules | `(tactic| kmk_list) => `(tactic| exact listIn (by k_asm) (by k_asm) (by k_is))
local macro_rules | `(tactic| walk_at "exec Assign cons ListComp") => `(tactic| (k_here; k_dflt (refine LCt.Assign_ListComp_T (F₀ := by k_asm) (by rfl) (by with_unfolding_all rfl) (by with_unfolding_all rfl) (by decide) (by rfl) (by decide) (by rfl) (by rfl) (by rfl) ?_)))
local macro_rules | `(tactic| walk_at "CompRestT") => `(tactic| (with_unfolding_all first
  | (refine LCt.CompRestT.succ ?_; intro v' I' oI' C' oC' D' m' h' tk' E' hv' hC' hx' F' N' off' ne'; lcg_open hv')
  | refine LCt.CompRestT.zero ?_))
local macro_rules | `(tactic| walk_at "CompEnd") => `(tactic| (k_dflt (refine' compEnd_same ?F ?N ?o ?S ?_; (case F => assumption); (case N => assumption); (case o => assumption); (case S => exact Or.inr ⟨_, by k_mem, rfl, _, rfl⟩))))
local macro_rules | `(tactic| walk_at "CompSrcT") => `(tactic| (k_here; k_dflt (refine LCt.CompSrcT.ledger (by rfl) (by k_asm) (by k_asm) (by k_mem) (by exact Nat.le_of_ble_eq_true rfl) ?_); intro g9; (try dsimp only)))
set_option maxHeartbeats 4000000 in
theorem stage5 {w : World} {mg mb : Str → Option Value} {loose : List Str} {mean : ExcName → Option Value} {base : Heap} (G : Gr w mg mb loose mean base)
    {s : Shared} {L l fa cd : Addr} (H : S4 w base L l s.heap) :
    wpAny (model PySem.Challenge.rw_nk0004_01.row.prog w) (callerA.deeper (lawEnv L fa cd)) (execs ((lawBody.drop 8).take 1) (lawEnv L fa cd)) (Nxt s (S5 w base L l)) (fun _ _ => False) s := by
  obtain ⟨a, b, t, tb, av, d, D2, Dm, ys, ms, ps, o, o1, o2, u, F, N, lo, h1, h2, hp, l6, fit, he, ha, hm⟩ := H
  obtain ⟨KX, T, B⟩ := G
  revert KX
  w_top off
  k_fill
  intro KX
  conv in (List.take 1 (List.drop 8 lawBody)) => (whnf; arg 2; whnf)
  generalize hQ : Nxt s (S5 w base L l) = Q
  have hj : (a.fmod 5).fmod 4 = 0 ∨ (a.fmod 5).fmod 4 = 1 ∨ (a.fmod 5).fmod 4 = 2 ∨ (a.fmod 5).fmod 4 = 3 := by
    rw [Int.fmod_eq_emod_of_nonneg _ (by omega : (0:Int) ≤ 4)]
    omega
  rcases hj with hj | hj | hj | hj
  · k_steps
    subst hQ
    refine' Nxt.intro (S5.intro 0 ?hF ?hN lo fit he ha hj (by decide) ?hr)
    case hF => assumption
    case hN => assumption
    case hr => repeat constructor
  · k_steps
    subst hQ
    refine' Nxt.intro (S5.intro 1 ?hF ?hN lo fit he ha hj (by decide) ?hr)
    case hF => assumption
    case hN => assumption
    case hr => repeat constructor
  · k_steps
    subst hQ
    refine' Nxt.intro (S5.intro 2 ?hF ?hN lo fit he ha hj (by decide) ?hr)
    case hF => assumption
    case hN => assumption
    case hr => repeat constructor
  · k_steps
    subst hQ
    refine' Nxt.intro (S5.intro 3 ?hF ?hN lo fit he ha hj (by decide) ?hr)
    case hF => assumption
    case hN => assumption
    case hr => repeat constructor
end
end Mine
end
section
open PySem PySem.W PyProof.Rows PySem.Calls
set_option maxRecDepth 100000
namespace Mine
theorem CompEnd.mono {h₀ : Heap} {L I C D : Addr} {m : Str → Option Value} {s₁ s₂ : Shared} {oI oC oD : Obj} {S : List (Addr × Obj) → Prop} {rest rest' : Value → List (Addr × Obj) → Prop} {y : Value}
    (h : LCg.CompEnd h₀ L m s₁ I oI C oC D oD S rest y s₂) (k : ∀ n, rest y n → rest' y n) : LCg.CompEnd h₀ L m s₁ I oI C oC D oD S rest' y s₂ := by
  obtain ⟨h', tk, news', e, F, N, off, hS, r⟩ := h
  exact ⟨h', tk, news', e, F, N, off, hS, k _ r⟩
theorem comp_inv {prog : Program} {w : World} {A : Around} {h₀ : Heap} {L : Addr} {m : Str → Option Value} {env : Env} {ct elt : PySem.Expr} {x : Str} {scope : Scope} {cl : List (Str × Addr)} {s : Shared} {S : List (Addr × Obj) → Prop} {P : Nat → Value → Prop}
    {Fin : List Value → List (Addr × Obj) → Prop} {news : List (Addr × Obj)} {n : Nat} (J : Nat → List Value → Prop)
    (turn : ∀ i v I oI C oC D ys m₂ h tk (E' : Value → Shared → Prop), i < n → J i ys → P i v → LCg.NsObj oC m₂ → m₂ x = some v → Fr h₀ L h m → News h₀ L h ((I, oI) :: (C, oC) :: (D, LCg.lst ys) :: news) → LCg.Off3 I C D news → ((@Ne Nat I C) ∧ (@Ne Nat I D) ∧ (@Ne Nat C D)) →
      wpAny (model prog w) A (isTrue ct (compEnvC scope cl C env) (eval ct (compEnvC scope cl C env))) (fun ok s' => if ok = true then
        wpAny (model prog w) A (eval elt (compEnvC scope cl C env)) (LCg.CompEnd h₀ L m { s with heap := h, toks := tk } I oI C oC D (LCg.lst ys) S (fun y news' => news' = news ∧ J (i + 1) (ys ++ [y]))) E' s'
        else LCg.CompEnd h₀ L m { s with heap := h, toks := tk } I oI C oC D (LCg.lst ys) S (fun _ news' => news' = news ∧ J (i + 1) ys) Value.none s') E' { s with heap := h, toks := tk })
    (done : ∀ ys, J n ys → Fin ys news) : ∀ k i ys, i + k = n → J i ys → LCt.CompRestT prog w A h₀ L m env ct elt x scope cl s S P Fin k i ys news
  | 0, i, ys, e, hj => LCt.CompRestT.zero (done ys (by have : i = n := e; rw [← this]; exact hj))
  | k + 1, i, ys, e, hj => LCt.CompRestT.succ fun v I oI C oC D m₂ h tk E' hP hC hx F N off ne =>
      wpAny_mono (turn i v I oI C oC D ys m₂ h tk E' (by omega) hj hP hC hx F N off ne) (fun ok s' h => by
        cases ok with
        | true =>
          simp only [if_true] at h ⊢
          exact wpAny_mono h (fun y s'' hy => CompEnd.mono hy fun n' r => by
            obtain ⟨rfl, hj'⟩ := r
            exact comp_inv J turn done k (i + 1) _ (by omega) hj') fun _ _ q => q
        | false =>
          simp only [Bool.false_eq_true, if_false] at h ⊢
          exact CompEnd.mono h fun n' r => by
            obtain ⟨rfl, hj'⟩ := r
            exact comp_inv J turn done k (i + 1) _ (by omega) hj') fun _ _ q => q
def kept (R : List Str) : List Str := R.filter fun x => !(x == Str.ofString "")
theorem StrsAre.length {vs : List Value} {ys : List Str} (h : StrsAre vs ys) : vs.length = ys.length := by
  induction h with
  | nil => rfl
  | cons y t r ih => simp [ih]
theorem StrsAre.nth {vs : List Value} {ys : List Str} (h : StrsAre vs ys) : ∀ {i : Nat} {v : Value}, vs[i]? = some v → ∃ y t, v = .str y t ∧ ys[i]? = some y := by
  induction h with
  | nil => intro i v h; simp at h
  | cons y t r ih =>
    intro i v h
    cases i with
    | zero => exact ⟨y, t, by simpa using h.symm, rfl⟩
    | succ i => exact ih (by simpa using h)
theorem StrsAre.snoc {vs : List Value} {ys : List Str} (h : StrsAre vs ys) (y : Str) (t : Tok) : StrsAre (vs ++ [.str y t]) (ys ++ [y]) := by
  induction h with
  | nil => exact .cons y t .nil
  | cons z u r ih => exact .cons z u ih
theorem kept_step {R : List Str} {i : Nat} {y : Str} (h : R[i]? = some y) : kept (R.take (i + 1)) = kept (R.take i) ++ (if (y == Str.ofString "") = true then [] else [y]) := by
  unfold kept
  rw [List.take_add_one, h, List.filter_append]
  congr 1
  cases q : y == Str.ofString "" <;> simp [q]
theorem twice {x : Str} {u v : Option Value} {g : Str → Option Value} : (fun z => if z = x then u else (fun y => if y = x then v else g y) z) = fun z => if z = x then u else g z := by
  funext z
  by_cases h : z = x <;> simp [h]
def S6 (w : World) (base : Heap) (L l : Addr) (h : Heap) : Prop := ∃ (a b : Int) (t tb : Tok) (av : Value) (d Dr : Addr) (rs : List Value) (ps : List Int) (o : Obj) (u : Str → Option Value) (j : Nat),
  Fr base L h (fun y => if y = Str.ofString "row" then some (.ref Dr) else if y = Str.ofString "aliases" then some av else if y = Str.ofString "which" then some (.int b tb) else if y = Str.ofString "k" then u y else if y = Str.ofString "environ" then some (.ref d) else if y = Str.ofString "setting" then some (.int a t) else if y = Str.ofString "script" then some (.ref l) else none) ∧
  News base L h [(Dr, LCg.lst rs), (d, o)] ∧ (d == sysModules) = false ∧
  (∀ k : Nat, k < 6 → 0 ≤ ps.getD k 0 ∧ ps.getD k 0 ≤ 10) ∧ EnvI w ps 6 o ∧ AlOk b av ∧ (a.fmod 5).fmod 4 = (j : Int) ∧ j < 4 ∧ StrsAre rs (kept (rowOf b ps j))
theorem S6.intro {w : World} {base h : Heap} {L l : Addr} {a b : Int} {t tb : Tok} {av : Value} {d Dr x1 : Addr} {rs : List Value} {ps : List Int} {o y1 : Obj} {u : Str → Option Value} {j : Nat} {n : Nat} {v : Option Value}
    (F : Fr base L h (fun z => if z = Str.ofString "row" then some (.ref Dr) else (fun y => if y = Str.ofString "row" then v else if y = Str.ofString "aliases" then some av else if y = Str.ofString "which" then some (.int b tb) else if y = Str.ofString "k" then u y else if y = Str.ofString "environ" then some (.ref d) else if y = Str.ofString "setting" then some (.int a t) else if y = Str.ofString "script" then some (.ref l) else none) z))
    (N : News base L h [(Dr, LCg.lst rs), (x1, y1), (d, o)]) (lo : (d == sysModules) = false)
    (fit : ∀ k : Nat, k < 6 → 0 ≤ ps.getD k 0 ∧ ps.getD k 0 ≤ 10) (he : EnvI w ps 6 o) (ha : AlOk b av) (hj : (a.fmod 5).fmod 4 = (j : Int)) (hj4 : j < 4) (hn : (rowOf b ps j).length ≤ n) (hr : StrsAre rs (kept ((rowOf b ps j).take n))) : S6 w base L l h := by
  rw [twice] at F
  rw [List.take_of_length_le hn] at hr
  exact ⟨a, b, t, tb, av, d, Dr, rs, ps, o, u, j, F, fun p hp => N p (by
    simp only [List.mem_cons, List.not_mem_nil, or_false] at hp ⊢
    rcases hp with h | h <;> simp [h]), lo, fit, he, ha, hj, hj4, hr⟩
theorem row_len (b : Int) (ps : List Int) (j : Nat) : (rowOf b ps j).length ≤ 6 := by
  unfold rowOf
  rw [List.length_map]
  unfold idxs
  split <;> decide
section
local macro_rules | `(tactic| walk_at "exec Assign cons ListComp") => `(tactic| (k_here; k_dflt (refine LCt.Assign_ListComp_T (F₀ := by k_asm) (by rfl) (by with_unfolding_all rfl) (by with_unfolding_all rfl) (by decide) (by rfl) (by decide) (by rfl) (by rfl) (by rfl) ?_)))
local macro_rules | `(tactic| walk_at "CompSrcT") => `(tactic| refine Mine.hold ?_)
local macro_rules | `(tactic| walk_at "CompEnd") => `(tactic| (k_dflt (refine' compEnd_same ?F ?N ?o ?S ?_; (case F => assumption); (case N => assumption); (case o => assumption); (case S => exact Or.inr ⟨_, by k_mem, rfl, _, rfl⟩))))
set_option maxHeartbeats 4000000 in
theorem stage6 {w : World} {mg mb : Str → Option Value} {loose : List Str} {mean : ExcName → Option Value} {base : Heap} (G : Gr w mg mb loose mean base)
    {s : Shared} {L l fa cd : Addr} (H : S5 w base L l s.heap) :
    wpAny (model PySem.Challenge.rw_nk0004_01.row.prog w) (callerA.deeper (lawEnv L fa cd)) (execs ((lawBody.drop 9).take 1) (lawEnv L fa cd)) (Nxt s (S6 w base L l)) (fun _ _ => False) s := by
  obtain ⟨a, b, t, tb, av, d, Dr, rs, ps, o, u, j, F, N, lo, fit, he, ha, hj, hj4, hr⟩ := H
  obtain ⟨KX, T, B⟩ := G
  revert KX
  w_top off
  k_fill
  intro KX
  conv in (List.take 1 (List.drop 9 lawBody)) => (whnf; arg 2; whnf)
  generalize hQ : Nxt s (S6 w base L l) = Q
  k_steps
  have hlen := StrsAre.length hr
  k_dflt (refine LCt.CompSrcT.ledger (its := rs.toArray) (k := rs.length) (by rfl) (by k_asm) (by k_asm) (by k_mem) ?_ ?_)
  · rw [List.size_toArray, hlen, sizeLine_eq]
    exact Nat.le_trans (row_len _ _ _) (by omega)
  intro g9
  try dsimp only
  refine comp_inv (fun i ys => StrsAre ys (kept ((rowOf b ps j).take i))) ?turn ?done _ 0 [] (Nat.zero_add _) .nil
  case turn =>
    intro i v I oI C oC D ys m₂ h tk E' hi hJ hP hC hx F N off ne
    obtain ⟨y, ty, rfl, hy⟩ := StrsAre.nth hr (i := i) (v := v) (by simpa using hP)
    k_steps
    · have q : (y == Str.ofString "") = false := by
        have q : (y != Str.ofString "") = true := by assumption
        simpa [bne] using q
      rw [kept_step hy, if_neg (by rw [q]; exact Bool.false_ne_true)]
      exact StrsAre.snoc hJ _ _
    · have q : (y == Str.ofString "") = true := by
        have q : (y != Str.ofString "") = false := by assumption
        simpa [bne] using q
      rw [kept_step hy, if_pos q, List.append_nil]
      exact hJ
  case done =>
    intro ys hys
    k_steps
    subst hQ
    refine' Nxt.intro (S6.intro ?hF ?hN lo fit he ha hj hj4 ?hn hys)
    case hF => assumption
    case hN => assumption
    case hn => rw [List.size_toArray, hlen]; exact Nat.le_refl _
end
end Mine
end
section
open PySem PySem.W PyProof.Rows PySem.Calls
set_option maxRecDepth 100000
namespace Mine
/-- the answer that is due: the first text that means something -/
def DueOk (R : List Str) (dv : Value) : Prop := (R = [] ∧ dv = .none) ∨ ∃ x r t, R = x :: r ∧ dv = .str x t
def S7 (w : World) (base : Heap) (L l : Addr) (h : Heap) : Prop := ∃ (a b : Int) (t tb : Tok) (av dv : Value) (d Dr : Addr) (ps : List Int) (o : Obj) (u : Str → Option Value) (j : Nat),
  Fr base L h (fun y => if y = Str.ofString "due" then some dv else if y = Str.ofString "row" then some (.ref Dr) else if y = Str.ofString "aliases" then some av else if y = Str.ofString "which" then some (.int b tb) else if y = Str.ofString "k" then u y else if y = Str.ofString "environ" then some (.ref d) else if y = Str.ofString "setting" then some (.int a t) else if y = Str.ofString "script" then some (.ref l) else none) ∧
  News base L h [(d, o)] ∧ (d == sysModules) = false ∧
  (∀ k : Nat, k < 6 → 0 ≤ ps.getD k 0 ∧ ps.getD k 0 ≤ 10) ∧ EnvI w ps 6 o ∧ AlOk b av ∧ (a.fmod 5).fmod 4 = (j : Int) ∧ j < 4 ∧ DueOk (kept (rowOf b ps j)) dv
theorem S7.intro {w : World} {base h : Heap} {L l : Addr} {a b : Int} {t tb : Tok} {av dv : Value} {d Dr x1 x2 : Addr} {ps : List Int} {o y1 y2 : Obj} {u : Str → Option Value} {j : Nat}
    (F : Fr base L h (fun y => if y = Str.ofString "due" then some dv else if y = Str.ofString "row" then some (.ref Dr) else if y = Str.ofString "aliases" then some av else if y = Str.ofString "which" then some (.int b tb) else if y = Str.ofString "k" then u y else if y = Str.ofString "environ" then some (.ref d) else if y = Str.ofString "setting" then some (.int a t) else if y = Str.ofString "script" then some (.ref l) else none))
    (N : News base L h [(x1, y1), (x2, y2), (d, o)]) (lo : (d == sysModules) = false)
    (fit : ∀ k : Nat, k < 6 → 0 ≤ ps.getD k 0 ∧ ps.getD k 0 ≤ 10) (he : EnvI w ps 6 o) (ha : AlOk b av) (hj : (a.fmod 5).fmod 4 = (j : Int)) (hj4 : j < 4) (hd : DueOk (kept (rowOf b ps j)) dv) : S7 w base L l h :=
  ⟨a, b, t, tb, av, dv, d, Dr, ps, o, u, j, F, fun p hp => N p (.tail _ (.tail _ hp)), lo, fit, he, ha, hj, hj4, hd⟩
section
local macro_rules | `(tactic| walk_at "compareOp NotEq ref ref") => `(tactic| (k_here; k_dflt (refine' EqBoolInt.of_rcne (SeqAt.RcNeAt.lists_lengths ?xa ?xb ?xc ?xd) ?_; (case xa => exact News.isList (by k_asm) (by k_mem)); (case xb => exact News.isList (by k_asm) (by k_mem)); (case xc => simp); (case xd => k_units))))
set_option maxHeartbeats 4000000 in
theorem stage7 {w : World} {mg mb : Str → Option Value} {loose : List Str} {mean : ExcName → Option Value} {base : Heap} (G : Gr w mg mb loose mean base)
    {s : Shared} {L l fa cd : Addr} (H : S6 w base L l s.heap) :
    wpAny (model PySem.Challenge.rw_nk0004_01.row.prog w) (callerA.deeper (lawEnv L fa cd)) (execs ((lawBody.drop 10).take 1) (lawEnv L fa cd)) (Nxt s (S7 w base L l)) (fun _ _ => False) s := by
  obtain ⟨a, b, t, tb, av, d, Dr, rs, ps, o, u, j, F, N, lo, fit, he, ha, hj, hj4, hr⟩ := H
  obtain ⟨KX, T, B⟩ := G
  revert KX
  w_top off
  k_fill
  intro KX
  conv in (List.take 1 (List.drop 10 lawBody)) => (whnf; arg 2; whnf)
  generalize hQ : Nxt s (S7 w base L l) = Q
  generalize hR : kept (rowOf b ps j) = R at hr
  cases hr with
  | nil =>
    k_steps
    subst hQ
    refine' Nxt.intro (S7.intro ?hF ?hN lo fit he ha hj hj4 (.inl ⟨hR, rfl⟩))
    case hF => assumption
    case hN => assumption
  | cons y ty hr' =>
    k_steps
    subst hQ
    refine' Nxt.intro (S7.intro ?hF ?hN lo fit he ha hj hj4 (.inr ⟨_, _, _, hR, rfl⟩))
    case hF => assumption
    case hN => assumption
end
/-- the category's five ways -/
def CatOk (c : Int) (cv : Value) (lc tc : Addr) : Prop :=
  (c = 0 ∧ cv = .none) ∨ (c = 1 ∧ ∃ t, cv = .str (Str.ofString "LC_TIME") t) ∨ (c = 2 ∧ cv = .ref lc) ∨ (c = 3 ∧ cv = .ref tc) ∨ (c = 4 ∧ ∃ t, cv = .int 7 t)
def S8 (w : World) (base : Heap) (L l : Addr) (h : Heap) : Prop := ∃ (a b : Int) (t tb t1 t2 t3 t4 : Tok) (av dv cv : Value) (d Dr lc tc : Addr) (ps : List Int) (o : Obj) (u : Str → Option Value) (j : Nat),
  Fr base L h (fun y => if y = Str.ofString "category" then some cv else if y = Str.ofString "due" then some dv else if y = Str.ofString "row" then some (.ref Dr) else if y = Str.ofString "aliases" then some av else if y = Str.ofString "which" then some (.int b tb) else if y = Str.ofString "k" then u y else if y = Str.ofString "environ" then some (.ref d) else if y = Str.ofString "setting" then some (.int a t) else if y = Str.ofString "script" then some (.ref l) else none) ∧
  News base L h [(tc, { cls := Value.type "tuple", data := Data.seq #[Value.str (Str.ofString "") t1, Value.str (Str.ofString "LC_NUMERIC") t2] }), (lc, W.listOf #[Value.str (Str.ofString "LC_NUMERIC") t3, Value.str (Str.ofString "LC_TIME") t4] 0), (d, o)] ∧ (d == sysModules) = false ∧
  (∀ k : Nat, k < 6 → 0 ≤ ps.getD k 0 ∧ ps.getD k 0 ≤ 10) ∧ EnvI w ps 6 o ∧ AlOk b av ∧ (a.fmod 5).fmod 4 = (j : Int) ∧ j < 4 ∧ DueOk (kept (rowOf b ps j)) dv ∧ CatOk (a.fmod 5) cv lc tc
theorem S8.intro {w : World} {base h : Heap} {L l : Addr} {a b : Int} {t tb t1 t2 t3 t4 : Tok} {av dv cv : Value} {d Dr lc tc x1 : Addr} {ps : List Int} {o y1 : Obj} {u : Str → Option Value} {j : Nat}
    (F : Fr base L h (fun y => if y = Str.ofString "category" then some cv else if y = Str.ofString "due" then some dv else if y = Str.ofString "row" then some (.ref Dr) else if y = Str.ofString "aliases" then some av else if y = Str.ofString "which" then some (.int b tb) else if y = Str.ofString "k" then u y else if y = Str.ofString "environ" then some (.ref d) else if y = Str.ofString "setting" then some (.int a t) else if y = Str.ofString "script" then some (.ref l) else none))
    (N : News base L h [(x1, y1), (tc, { cls := Value.type "tuple", data := Data.seq #[Value.str (Str.ofString "") t1, Value.str (Str.ofString "LC_NUMERIC") t2] }), (lc, W.listOf #[Value.str (Str.ofString "LC_NUMERIC") t3, Value.str (Str.ofString "LC_TIME") t4] 0), (d, o)]) (lo : (d == sysModules) = false)
    (fit : ∀ k : Nat, k < 6 → 0 ≤ ps.getD k 0 ∧ ps.getD k 0 ≤ 10) (he : EnvI w ps 6 o) (ha : AlOk b av) (hj : (a.fmod 5).fmod 4 = (j : Int)) (hj4 : j < 4) (hd : DueOk (kept (rowOf b ps j)) dv) (hc : CatOk (a.fmod 5) cv lc tc) : S8 w base L l h :=
  ⟨a, b, t, tb, t1, t2, t3, t4, av, dv, cv, d, Dr, lc, tc, ps, o, u, j, F, fun p hp => N p (.tail _ hp), lo, fit, he, ha, hj, hj4, hd, hc⟩
set_option maxHeartbeats 4000000 in
theorem stage8 {w : World} {mg mb : Str → Option Value} {loose : List Str} {mean : ExcName → Option Value} {base : Heap} (G : Gr w mg mb loose mean base)
    {s : Shared} {L l fa cd : Addr} (H : S7 w base L l s.heap) :
    wpAny (model PySem.Challenge.rw_nk0004_01.row.prog w) (callerA.deeper (lawEnv L fa cd)) (execs ((lawBody.drop 11).take 1) (lawEnv L fa cd)) (Nxt s (S8 w base L l)) (fun _ _ => False) s := by
  obtain ⟨a, b, t, tb, av, dv, d, Dr, ps, o, u, j, F, N, lo, fit, he, ha, hj, hj4, hd⟩ := H
  obtain ⟨KX, T, B⟩ := G
  revert KX
  w_top off
  k_fill
  intro KX
  conv in (List.take 1 (List.drop 11 lawBody)) => (whnf; arg 2; whnf)
  generalize hQ : Nxt s (S8 w base L l) = Q
  k_steps
  all_goals
    subst hQ
    refine' Nxt.intro (S8.intro ?hF ?hN lo fit he ha hj hj4 hd ?hc)
    case hF => assumption
    case hN => assumption
    case hc => first | exact .inl ⟨by assumption, rfl⟩ | exact .inr (.inl ⟨by assumption, _, rfl⟩) | exact .inr (.inr (.inl ⟨by assumption, rfl⟩)) | exact .inr (.inr (.inr (.inl ⟨by assumption, rfl⟩))) | exact .inr (.inr (.inr (.inr ⟨by assumption, _, rfl⟩)))
end Mine
end
section
open PySem PySem.W PyProof.Rows PySem.Calls
set_option maxRecDepth 100000
namespace Mine
theorem below_law {A₀ A : Around} {env : Env} {base h : Heap} {L : Addr} {m : Str → Option Value} (B : Below A₀ base [] base) (F : Fr base L h m) (hA : A.frames = some [env]) (hf : env.frame = some L) (hke : env.scope.kind = .function) : Below A base [env] h := by
  refine ⟨hA, F.keep, .cons (by rw [hke]; decide) hf F.ns ?_ trivial⟩
  cases q : base.get? L with
  | none => rfl
  | some o => exact absurd (Nat.lt_of_lt_of_le (Heap.lt_size q) F.above) (Nat.lt_irrefl _)
/-- a def called from the law's own frame, which has cells; a raise within may turn the slots of that frame -/
theorem enter_def {prog : Program} {w : World} {A₀ A : Around} {env : Env} {s : Shared} {base : Heap} {L f : Addr} {m : Str → Option Value} {news : List (Addr × Obj)} {K : Frag} {p : Program} {loose : List Str} {mean : ExcName → Option Value} {mg mb : Str → Option Value}
    {R : Result → Shared → Prop} {name qual : Str} {params : Arguments} {body : List Stmt} {scope : Scope} {dV kV doc pm cdv ct oc : Value} {an od : Option Addr} {osl : Array (Option Value)} {args : Args} {binds : List (Str × Value)}
    (B : Below A₀ base [] base) (F : Fr base L s.heap m) (X₀ : K.In base) (N : News base L s.heap news) (T : Top p loose mean mg mb base) (hA : A.frames = some [env]) (hf : env.frame = some L) (hke : env.scope.kind = .function)
    (ho : K.lookup f = some ⟨oc, od, .func (fnOf name qual params body scope dV kV doc pm an cdv ct), osl⟩) (hcd : codeIn K cdv qual = true) (hroom : A.depth < recursionLimit)
    (hbind : BindsTo s (fnOf name qual params body scope dV kV doc pm an cdv ct) args binds) (hloc : ∀ y ∈ binds, scope.names.lookup y.1 = some .local)
    (h : ∀ g L' h₁, Fr g L' h₁ (fun y => binds.reverse.lookup y) → News g L' h₁ news → Below A base [env] g → K.In g → Top p loose mean mg mb g → KtsDicts ([env].filterMap (·.frame)) g → Fr base L g m →
      wpAny (model prog w) (A.deeper (envOf qual scope L' f cdv)) (execs body (envOf qual scope L' f cdv))
        (fun fl s' => LeaveS0 ([env].filterMap (·.frame)) base L m g R (match fl with | .ret v => v | _ => .none) s')
        (fun e s' => wpAny (model prog w) (A.deeper (envOf qual scope L' f cdv)) (leaving (envOf qual scope L' f cdv) e) (fun _ s'' => R (.error e) s'') (fun e' s'' => R (.error e') s'') s')
        { s with heap := h₁, toks := s.toks + binds.length })
    (hco : scope.isCoroutine = false) (hgen : scope.isGenerator = false) (hk : scope.kind = .function)
    (hcell : ∀ x ∈ scope.names, x.2 ≠ .cell) : codeAny (model prog w) A (.call (.ref f) args) R s := by
  have X := X₀.keeps F.keep
  have efm : [env].filterMap (·.frame) = [L] := by simp [hf]
  have nL : base.get? L = none := by
    cases q : base.get? L with
    | none => rfl
    | some o => exact absurd (Nat.lt_of_lt_of_le (Heap.lt_size q) F.above) (Nat.lt_irrefl _)
  have off : L ∉ news.map (·.1) := fun q => by
    obtain ⟨p, hp, e⟩ := List.mem_map.mp q
    exact (N p hp).2.1 e
  have old : ∀ b o, base.get? b = some o → (hideAll s.heap (news.map (·.1))).get? b = some o := fun b o e => hideAll_get _ (F.keep b o e) fun q => by
    obtain ⟨p, hp, rfl⟩ := List.mem_map.mp q
    rw [(N p hp).2.2] at e; cases e
  obtain ⟨oL, es, ep, hL, hLd, hLk, hLf⟩ := F.ns
  have hLg : (hideAll s.heap (news.map (·.1))).get? L = some oL := hideAll_get _ hL off
  have Fg : Fr base L (hideAll s.heap (news.map (·.1))) m := ⟨⟨oL, es, ep, hLg, hLd, hLk, hLf⟩, old, F.above⟩
  refine codeAny_call_def (fd := fnOf name qual params body scope dV kV doc pm an cdv ct) (body := body) (binds := binds) hroom (X _ _ ho) rfl (T.nolimit.keeps F.keep) (codeRec_of X hcd) rfl hbind hcell hloc (fun h₁ hns hk₁ => ?_) hco hgen hk
  refine wpAny_mono (h _ s.heap.objs.size h₁ ⟨hns, fun b o e => hk₁ b o (of_hideAll _ e), Nat.le_of_eq (hideAll_size _ _)⟩
    (fun p hp => ⟨hk₁ _ _ (N p hp).1, Nat.ne_of_lt (Heap.lt_size (N p hp).1), hideAll_none _ (List.mem_map_of_mem hp)⟩) (below_law B Fg hA hf hke) (X₀.keeps old) (T.keeps old) (fun b hb => by
      rw [efm] at hb
      rw [List.mem_singleton.mp hb]
      exact ⟨oL, es, ep, hLg, hLd⟩) Fg) (fun fl s' hl => ?_) fun _ _ y => y
  obtain ⟨g', L', m', news', T', F', N', k⟩ := hl
  obtain ⟨sl, hs⟩ := T'.up hLg
  refine k ⟨⟨_, es, ep, F'.keep _ _ hs, hLd, hLk, hLf⟩, fun b o e => F'.keep b o (T'.other b o (old b o e) fun q => by
    rw [efm] at q
    rw [List.mem_singleton.mp q, nL] at e
    cases e), F.above⟩ fun p hp => ⟨(N' p hp).1, fun q => ?_, ?_⟩
  · have := (N' p hp).2.2
    rw [q, hs] at this
    cases this
  · cases q : base.get? p.1 with
    | none => rfl
    | some o =>
      obtain ⟨sl', hs'⟩ := T'.up (old _ _ q)
      have := (N' p hp).2.2
      rw [hs'] at this
      cases this
end Mine
end
section
open PySem PySem.W PyProof.Rows PySem.Calls
set_option maxRecDepth 100000
namespace Mine
/-- the ground of a def that the law calls: a raise may have turned the slots of the frames below -/
structure Gnd (w : World) (mg mb : Str → Option Value) (loose : List Str) (mean : ExcName → Option Value) (base : Heap) (A₀ : Around) (outer : List Env) (g₀ g : Heap) : Prop where
  T0 : KtsTurn (outer.filterMap (·.frame)) g₀ g
  B : Below A₀ base outer g
  K : (hd.heap_39 w.params).In g
  T : Top hd.view_39 loose mean mg mb g
  D : KtsDicts (outer.filterMap (·.frame)) g
abbrev tupObj (vs : List Value) (n : Nat) : Obj := { cls := .type "tuple", data := .seq vs.toArray n }
section
variable {prog : Program} {w : World} {mg mb : Str → Option Value} {loose : List Str} {mean : ExcName → Option Value} {base g₀ : Heap} {A₀ A : Around} {outer : List Env} {env : Env} {x y : Str} {px py pos : Pos} {body : List Stmt} {s : Shared} {vs : List Value} {n v : Nat} {news : List (Addr × Obj)} {Q : Flow → Shared → Prop}
/-- how a turn ends: on to the next, on a ground that may be another -/
def TurnEnds (w : World) (mg mb : Str → Option Value) (loose : List Str) (mean : ExcName → Option Value) (base : Heap) (A₀ : Around) (outer : List Env) (g₀ : Heap) (L : Addr) (s : Shared) (led : List (Addr × Obj)) (J : (Str → Option Value) → Prop) (Q : Flow → Shared → Prop) (f : Flow) (s' : Shared) : Prop :=
  ((f = .next ∨ f = .cont) ∧ ∃ g h tk m, s' = { s with heap := h, toks := tk } ∧ Gnd w mg mb loose mean base A₀ outer g₀ g ∧ Fr g L h m ∧ News g L h led ∧ J m) ∨ ∃ r, f = .ret r ∧ Q (.ret r) s'
theorem For_names {g : Heap} {m₀ : Str → Option Value} (hh : A.handled = none) (hx : env.kindOf x = some .local)
    (hp : (env.scope.kind == .class || (env.scope.kind == .module && env.locals != env.globals)) = false)
    (Gn : Gnd w mg mb loose mean base A₀ outer g₀ g) (F : Fr g env.locals s.heap m₀) (N : News g env.locals s.heap ((v, tupObj vs n) :: news))
    (hv : ∀ Q' : Value → Shared → Prop, Q' (.ref v) s → wpAny (model prog w) A (eval (.Name y py) env) Q' (fun _ _ => False) s)
    (J : Nat → (Str → Option Value) → Prop) (hj : J 0 m₀)
    (turn : ∀ i u g m h tk I it, vs[i]? = some u → J i m → Gnd w mg mb loose mean base A₀ outer g₀ g → Fr g env.locals h (fun z => if z = x then some u else m z) → News g env.locals h ((I, it) :: (v, tupObj vs n) :: news) →
      wpAny (model prog w) A (execs body env) (TurnEnds w mg mb loose mean base A₀ outer g₀ env.locals s ((I, it) :: (v, tupObj vs n) :: news) (J (i + 1)) Q) (fun _ _ => False) { s with heap := h, toks := tk })
    (done : ∀ g m h tk, J vs.length m → Gnd w mg mb loose mean base A₀ outer g₀ g → Fr g env.locals h m → News g env.locals h ((v, tupObj vs n) :: news) → Q .next { s with heap := h, toks := tk }) :
    wpAny (model prog w) A (exec (.For (.Name x px) (.Name y py) body [] pos) env) Q (fun _ _ => False) s := by
  refine wpAny_For (hv _ ?_)
  have htup : s.heap.IsTuple v vs.toArray := ⟨_, N.get (.head _), rfl, n, rfl⟩
  refine wpAny_pyIter_tuple htup ?_
  have hvlt : v < s.heap.objs.size := Heap.lt_size (N.get (.head _))
  have hvI : v ≠ s.heap.objs.size := Nat.ne_of_lt hvlt
  have hLI : env.locals ≠ s.heap.objs.size := Nat.ne_of_lt F.ns.lt
  have hnI : ∀ p ∈ (v, tupObj vs n) :: news, p.1 ≠ s.heap.objs.size := fun p hp => Nat.ne_of_lt (Heap.lt_size (N p hp).1)
  have hgI : g.get? s.heap.objs.size = none := next_is_new F
  generalize hI : s.heap.objs.size = I at *
  have W := Walks.tuple (prog := prog) (w := w) (A := A) hh I v hvI vs.toArray
  refine codeAny_forLoop (fun k s' => ∃ i g h tk m, s' = { s with heap := h, toks := tk } ∧ k = vs.length + 1 - i ∧ i ≤ vs.length ∧ Gnd w mg mb loose mean base A₀ outer g₀ g ∧ Fr g env.locals h m ∧
      News g env.locals h ((v, tupObj vs n) :: news) ∧ h.IsTupleIter I v i ∧ g.get? I = none ∧ J i m) ?_ (vs.length + 1)
    ⟨0, g, _, s.toks, m₀, rfl, rfl, Nat.zero_le _, Gn, F.push _, fun p hp => ⟨Heap.get?_push_of_some _ (N p hp).1, (N p hp).2⟩, ⟨_, by rw [← hI]; exact Heap.get?_push_size _ rfl, rfl, rfl⟩, hgI, hj⟩
  rintro k s' ⟨i, g, h, tk, m, rfl, rfl, hi, Gn, F, N, hit, hgI, hJ⟩
  have next : ∀ h₁ : Heap, (∀ b o, b ∉ [I] → h.get? b = some o → h₁.get? b = some o) → Fr g env.locals h₁ m ∧ News g env.locals h₁ ((v, tupObj vs n) :: news) := fun h₁ hk₁ =>
    ⟨⟨F.ns.at' fun o e => hk₁ _ o (fun q => hLI (List.mem_singleton.mp q)) e, fun b o e => hk₁ b o (fun q => by rw [List.mem_singleton.mp q, hgI] at e; cases e) (F.keep b o e), F.above⟩,
      fun p hp => ⟨hk₁ _ _ (fun q => hnI p hp (List.mem_singleton.mp q)) (N p hp).1, (N p hp).2⟩⟩
  have htup : h.IsTuple v vs.toArray := ⟨_, N.get (.head _), rfl, n, rfl⟩
  by_cases hlt : i < vs.length
  · refine W.item i _ _ _ (by simpa using hlt) ⟨hit, htup⟩ fun u h₁ tk₁ hP hst₁ hk₁ => ?_
    obtain ⟨F₁, N₁⟩ := next h₁ hk₁
    refine wpAny_assign_Name (wpAny_storeName_local hx F₁.ns (fun h₂ hn₂ hs₂ => ?_) hp)
    have F₂ := F₁.set hn₂ hs₂
    have N₂ := N₁.set hs₂
    obtain ⟨it, hit₁, hc₁, hd₁⟩ := hst₁.1
    have hit₂ : h₂.get? I = some it := (hs₂.2 I (Ne.symm hLI)).trans hit₁
    have N₃ : News g env.locals h₂ ((I, it) :: (v, tupObj vs n) :: news) := fun p hp => by
      rcases List.mem_cons.mp hp with rfl | hp
      · exact ⟨hit₂, Ne.symm hLI, hgI⟩
      · exact N₂ p hp
    refine wpAny_mono (turn i u g m h₂ _ I it (by simpa using hP) hJ Gn F₂ N₃) (fun f s₃ h₃ => ?_) fun _ _ e => e.elim
    rcases h₃ with ⟨hf, g', h', tk', m', rfl, Gn', F', N', hJ'⟩ | ⟨r, rfl, hq⟩
    · have goal : ∃ k', k' < vs.length + 1 - i ∧ ∃ i g h tk m, ({ s with heap := h', toks := tk' } : Shared) = { s with heap := h, toks := tk } ∧ k' = vs.length + 1 - i ∧ i ≤ vs.length ∧ Gnd w mg mb loose mean base A₀ outer g₀ g ∧ Fr g env.locals h m ∧
          News g env.locals h ((v, tupObj vs n) :: news) ∧ h.IsTupleIter I v i ∧ g.get? I = none ∧ J i m :=
        ⟨vs.length + 1 - (i + 1), by omega, i + 1, g', h', tk', m', rfl, rfl, hlt, Gn', F', fun p hp => N' p (.tail _ hp), ⟨it, N'.get (.head _), hc₁, hd₁⟩, N'.fresh (.head _), hJ'⟩
      rcases hf with rfl | rfl <;> exact goal
    · exact hq
  · have hin : i = vs.length := by omega
    subst hin
    refine W.done _ _ _ (by simpa using (⟨hit, htup⟩ : h.IsTupleIter I v vs.length ∧ h.IsTuple v vs.toArray)) fun h₁ tk₁ hk₁ => wpAny_execs_nil ?_
    obtain ⟨F₁, N₁⟩ := next h₁ hk₁
    exact done g m h₁ tk₁ hJ Gn F₁ N₁
end
end Mine
end
section
open PySem PySem.W PyProof.Rows PySem.Calls
set_option maxRecDepth 100000
namespace Mine
section
variable {prog : Program} {w : World} {A : Around} {E : Value → Shared → Prop} {s : Shared}
theorem applied_upto {sl : Addr} {n : Nat} {k : Int} {u : Tok} {Q : Int × Int × Nat → Shared → Prop} (hs : s.heap.IsSliceOf sl .none (.int k u) .none) (hk : (n : Int) ≤ k) (h : Q (0, 1, n) s) :
    wpAny (model prog w) A (Builtin.Slice.sliceApplied (.ref sl) (pure (n : Int))) Q E s := by
  obtain ⟨os, hos, hcs, hds⟩ := id hs
  unfold Builtin.Slice.sliceApplied Builtin.Slice.sliceFields
  refine wpAny_bind (wpAny_bind (wpAny_field hos hds (x := .none) rfl (wpAny_bind (wpAny_field hos hds (x := .int k u) rfl (wpAny_bind (wpAny_field hos hds (x := .none) rfl (wpAny_pure ?_)))))))
  refine wpAny_bind (slicePart_none ?_)
  show wpAny _ _ (if ((1 : Int) == 0) = true then _ else _) _ _ s
  rw [if_neg (by decide)]
  refine wpAny_bind (slicePart_none (wpAny_bind (slicePart_int (wpAny_bind (wpAny_pure ?_)))))
  show wpAny _ _ (match Builtin.Slice.sliceAdjust none (some k) 1 (n : Int) with | (lo, hi) => pure (lo, (1 : Int), Builtin.Slice.slicePlaces lo hi 1)) _ _ s
  have e : Builtin.Slice.sliceAdjust none (some k) 1 (n : Int) = (0, (n : Int)) := by
    unfold Builtin.Slice.sliceAdjust
    have h1 : ¬ ((1 : Int) < 0) := by omega
    have h2 : ¬ (k < 0) := by omega
    simp only [h1, h2, if_false]
    congr 1
    omega
  rw [e]
  show wpAny _ _ (pure ((0 : Int), (1 : Int), Builtin.Slice.slicePlaces 0 (n : Int) 1)) _ _ s
  have e2 : Builtin.Slice.slicePlaces 0 (n : Int) 1 = n := by
    unfold Builtin.Slice.slicePlaces
    have h1 : (1 : Int) > 0 := by omega
    simp only [h1, if_true, Int.ediv_one]
    split <;> omega
  rw [e2]
  exact wpAny_pure h
theorem getItem_whole {t sl : Addr} {items : Array Value} {k : Int} {u : Tok} {Q : Value → Shared → Prop} (ht : IsTup s.heap t items) (hs : s.heap.IsSliceOf sl .none (.int k u) .none) (hk : (items.size : Int) ≤ k)
    (h : Q (.ref t) s) : wpAny (model prog w) A (getItem (.ref t) (.ref sl)) Q E s := by
  obtain ⟨os, hos, hcs, hds⟩ := id hs
  have hTs : s.TypeIs (.ref sl) "slice" := ⟨os, hos, hcs⟩
  unfold getItem
  try with_reducible refine wpAny_holding ?_
  first | refine wpAny_bind (wpAny_pure ?_) | skip
  refine wpAny_bind (wpAny_sequenceKey ht.typeIs (by decide) ?_)
  refine wpAny_bind (wpAny_callSpecial?_slot (name := Str.ofString "__getitem__") ht.typeIs slot_tuple_getitem
    (wpAny_call_entry slot_tuple_getitem ht.typeIs entry_tuple_getitem ?_ (args_tuple_getitem _ _)))
  show wpAny _ _ (Builtin.Tuple.tupleItemsOf (.ref t) >>= _) _ _ s
  refine wpAny_bind (tupleItemsOf_ ht ?_)
  refine wpAny_bind (wpAny_typeOf hTs ?_)
  rw [if_pos (by decide)]
  refine wpAny_bind (applied_upto hs hk ?_)
  have hyes : (((0 : Int) == 0 && (1 : Int) == 1 && items.size == items.size) = true) := by simp
  show wpAny _ _ (if ((0 : Int) == 0 && (1 : Int) == 1 && items.size == items.size) = true then _ else _) _ _ s
  rw [if_pos hyes]
  refine wpAny_bind (wpAny_bind (wpAny_typeOf ht.typeIs (wpAny_pure ?_)))
  show wpAny _ _ (if ((Value.type "tuple" == Value.type "tuple") = true) then _ else _) _ _ s
  rw [if_pos (by decide)]
  refine wpAny_bind (wpAny_rule (wpAny_bind (wpAny_pure ?_)))
  first
    | exact wpAny_pure ⟨_, rfl, wpAny_pure h⟩
    | exact ⟨_, rfl, wpAny_pure h⟩
    | exact ⟨_, rfl, h⟩
end
section
variable {prog : Program} {w : World} {A : Around} {E : Value → Shared → Prop} {s : Shared} {h₀ : Heap} {L : Addr} {m : Str → Option Value} {news : List (Addr × Obj)}
theorem slice_whole {value slice : PySem.Expr} {t : Addr} {items : Array Value} {k : Int} {u : Tok} {Q : Value → Shared → Prop}
    (F : Fr h₀ L s.heap m) (N : News h₀ L s.heap news) (ht : IsTup s.heap t items) (hk : (items.size : Int) ≤ k)
    (h : ∀ h', Fr h₀ L h' m → News h₀ L h' news → Q (.ref t) { s with heap := h' })
    (hs : subscripted slice false (.ref t) (.ref s.heap.objs.size) = operate [.ref s.heap.objs.size, .ref t] (getItem (.ref t) (.ref s.heap.objs.size)))
    (hg : ∀ r, letTemporaryGo value (.ref t) r = pure ()) :
    wpAny (model prog w) A (subscriptTail value slice (.ref t) (.ref s.heap.objs.size)) Q E { s with heap := s.heap.push { cls := .type "slice", data := .fields #[.none, .int k u, .none] } } := by
  have ht' : IsTup (s.heap.push { cls := .type "slice", data := .fields #[.none, .int k u, .none] }) t items := ht.keeps fun _ _ e => Heap.get?_push_of_some _ e
  exact subscriptTail_ops (s := { s with heap := s.heap.push { cls := .type "slice", data := .fields #[.none, .int k u, .none] } }) ht'.typeIs slot_tuple_getitem.lookup
    (getItem_whole ht' (Heap.IsSliceOf.new ..) hk (h _ (F.push _) (N.grown fun _ _ e => Heap.get?_push_of_some _ e))) hs hg
theorem item_first {value slice : PySem.Expr} {l : Addr} {r : List Value} {n : Nat} {d : Option Addr} {sl : Array (Option Value)} {u : Tok} {v : Value} {Q : Value → Shared → Prop} (N : News h₀ L s.heap news)
    (hm : (l, ({ cls := .type "list", dict := d, data := .seq (List.toArray (v :: r)) n, slots := sl } : Obj)) ∈ news) (h : Q v s)
    (hs : subscripted slice false (.ref l) (.int 0 u) = operate [.ref l, .int 0 u] (getItem (.ref l) (.int 0 u)) := by with_unfolding_all rfl) :
    wpAny (model prog w) A (subscriptTail value slice (.ref l) (.int 0 u)) Q E s :=
  tail_any (News.isList N hm).typeIs slot_list_getitem.lookup (wpAny_getItem_list (News.isList N hm) (by decide) (by decide) rfl h) hs
end
end Mine
end
section
open PySem PySem.W PyProof.Rows PySem.Calls
open Sem (wp)
open Builtin
set_option maxRecDepth 100000
namespace Mine
theorem noFill_tuple_mul : fillsNumberSlot (.type "tuple") "mul" = pure false :=
  PySem.fillsNumberSlot_seq (id := "tuple.__mul__") (r := some (.builtin "tuple.__rmul__")) F.slot_tuple_mul.lookup (by decide +kernel) F.slot_tuple_rmul.lookup (by decide +kernel)
theorem repeat_tuple : seqRepeat? (.type "tuple") = pure (some (.builtin "tuple.__mul__")) := by
  unfold seqRepeat?
  rw [PySem.seqSlot_of (T := "tuple") (name := "__mul__") (id := "tuple.__mul__") F.slot_tuple_mul.lookup (by decide +kernel), PySem.seqSlot_of (T := "tuple") (name := "__rmul__") (id := "tuple.__rmul__") F.slot_tuple_rmul.lookup (by decide +kernel)]
  rfl
theorem rmul_tuple (a : Int) (t : Tok) (l : Addr) (items : Array Value) (n : Nat) :
    Meets (Builtin.«int.__rmul__» ⟨[.int a t, .ref l], []⟩) (fun _ R s => s.heap.get? l = some { cls := .type "tuple", dict := none, data := .seq items n, slots := #[] } ∧ R (.ok (.ret Value.notImplemented)) s) :=
  .of_wp fun prog w A R s h => by obtain ⟨hp, g, d, tk, os⟩ := s; obtain ⟨hl, h⟩ := h; wp_walk; exact ⟨_, rfl, h⟩
theorem tuple_mul1 (l : Addr) (items : Array Value) (n : Nat) (u : Tok) :
    Meets (Builtin.«tuple.__mul__» ⟨[.ref l, .int 1 u], []⟩) (fun _ R s => s.heap.get? l = some { cls := .type "tuple", dict := none, data := .seq items n, slots := #[] } ∧ R (.ok (.ret (.ref l))) s) :=
  .of_wp fun prog w A R s h => by obtain ⟨hp, g, d, tk, os⟩ := s; obtain ⟨hl, h⟩ := h; wp_walk; exact ⟨_, rfl, h⟩
theorem tuple_mul0 (l : Addr) (v : Value) (n : Nat) (u : Tok) :
    Meets (Builtin.«tuple.__mul__» ⟨[.ref l, .int 0 u], []⟩) (fun _ R s => s.heap.get? l = some { cls := .type "tuple", dict := none, data := .seq #[v] n, slots := #[] } ∧ R (.ok (.ret (.ref s.heap.objs.size))) { s with heap := s.heap.push { cls := .type "tuple", data := .seq #[] } }) :=
  .of_wp fun prog w A R s h => by obtain ⟨hp, g, d, tk, os⟩ := s; obtain ⟨hl, h⟩ := h; wp_walk; exact ⟨_, rfl, h⟩
section
variable {prog : Program} {w : World} {A : Around} {E : Value → Shared → Prop} {s : Shared} {h₀ : Heap} {L : Addr} {m : Str → Option Value} {news : List (Addr × Obj)} {l : Addr} {vs : List Value} {v : Value} {n : Nat} {u : Tok} {x : Int} {Q : Value → Shared → Prop}
theorem mul_tup1 (N : News h₀ L s.heap news) (hm : (l, ({ cls := .type "tuple", data := .seq vs.toArray n } : Obj)) ∈ news) (hx : x = 1) (h : Q (.ref l) s) : wpAny (model prog w) A (binaryOp .Mult (.ref l) (.int x u)) Q E s := by
  subst hx
  have ho := (N _ hm).1
  exact wpAny_binaryOp_repeat_ref (T := "tuple") (U := "int") (by decide) ⟨_, ho, rfl⟩ (fun s' => typeIs_int s' 1 u) noFill_tuple_mul F.fills_int_mul F.slot_int_rmul repeat_tuple F.slot_int_index.lookup
    (call_meets F.slot_int_rmul (typeIs_int s 1 u) F.entry_int_rmul (F.args_int_rmul_2 _ _) (rmul_tuple 1 u l vs.toArray n)
      ⟨ho, rfl, ⟨_, ho, rfl⟩, call_meets F.slot_tuple_mul ⟨_, ho, rfl⟩ F.entry_tuple_mul (F.args_tuple_mul_2 _ _) (tuple_mul1 l vs.toArray n u) ⟨ho, h⟩⟩)
theorem mul_tup0 (Fm : Fr h₀ L s.heap m) (N : News h₀ L s.heap news) (hm : (l, ({ cls := .type "tuple", data := .seq #[v] n } : Obj)) ∈ news) (hx : x = 0)
    (h : ∀ D h', Fr h₀ L h' m → News h₀ L h' ((D, ({ cls := .type "tuple", data := .seq [].toArray } : Obj)) :: news) → (∀ p ∈ news, p.1 < D) → Q (.ref D) { s with heap := h' }) : wpAny (model prog w) A (binaryOp .Mult (.ref l) (.int x u)) Q E s := by
  subst hx
  have ho := (N _ hm).1
  exact wpAny_binaryOp_repeat_ref (T := "tuple") (U := "int") (by decide) ⟨_, ho, rfl⟩ (fun s' => typeIs_int s' 0 u) noFill_tuple_mul F.fills_int_mul F.slot_int_rmul repeat_tuple F.slot_int_index.lookup
    (call_meets F.slot_int_rmul (typeIs_int s 0 u) F.entry_int_rmul (F.args_int_rmul_2 _ _) (rmul_tuple 0 u l #[v] n)
      ⟨ho, rfl, ⟨_, ho, rfl⟩, call_meets F.slot_tuple_mul ⟨_, ho, rfl⟩ F.entry_tuple_mul (F.args_tuple_mul_2 _ _) (tuple_mul0 l v n u) ⟨ho, h _ _ (Fm.push _) (News.push Fm N _) (fun p hp => Heap.lt_size (N p hp).1)⟩⟩)
end
end Mine
end
section
open PySem PySem.W PyProof.Rows PySem.Calls
set_option maxRecDepth 100000
namespace Mine
def yes : Value → Bool
  | .none => false
  | .str y _ => (y.length : Int) != 0
  | _ => true
theorem paired_same : ∀ {l ys : List Value}, Paired (fun v y => y = v) l ys → ys = l
  | _, _, .nil => rfl
  | _, _, .cons h r => by rw [h, paired_same r]
section
variable {prog : Program} {w : World} {A : Around} {E : Value → Shared → Prop} {s : Shared} {h₀ : Heap} {L : Addr} {m : Str → Option Value} {news : List (Addr × Obj)}
theorem name_at {env : Env} {x : Str} {px : Pos} {v : Value} {m₃ : Str → Option Value} {Q : Value → Shared → Prop} (hk : env.scope.kind = .function) (hx : env.kindOf x = some .local) (hd : (x == ("__debug__" : Str)) = false)
    (hn : s.heap.Ns env.locals m₃) (hv : m₃ x = some v) (h : Q v s) : wpAny (model prog w) A (eval (.Name x px) env) Q E s :=
  wpAny_Name (wpAny_loadName_local hk hx hn hv h) hd
theorem truth_of {v : Value} {Q : Bool → Shared → Prop} (hv : v = .none ∨ ∃ y t, v = .str y t ∧ y.length ≤ 16777216) (h : ∀ k, Q (yes v) { s with toks := k }) : wpAny (model prog w) A (truthy v) Q E s := by
  rcases hv with rfl | ⟨y, t, rfl, hl⟩
  · exact PyProof.Rows.truthy_none (h s.toks)
  · exact KXt.truthy rfl hl h
theorem comp_truthy {x : Str} {px px' : Pos} {env : Env} {scope : Scope} {vs : List Value} {v n : Nat} {Q : Value → Shared → Prop}
    (hh : A.handled = none) (hkind : scope.kind = .function) (hx : scope.names.lookup x = some .local) (hd : (x == ("__debug__" : Str)) = false)
    (F : Fr h₀ L s.heap m) (N : News h₀ L s.heap news) (hm : (v, ({ cls := .type "tuple", data := .seq vs.toArray n } : Obj)) ∈ news) (hv : ∀ u ∈ vs, u = .none ∨ ∃ y t, u = .str y t ∧ y.length ≤ 16777216) (hsz : vs.length ≤ sizeLine)
    (h : ∀ D k h' tk, Fr h₀ L h' m → News h₀ L h' ((D, ({ cls := .type "list", data := .seq (vs.filter yes).toArray k } : Obj)) :: news) → (∀ p ∈ news, p.1 ≠ D) → Q (.ref D) { s with heap := h', toks := tk }) :
    wpAny (model prog w) A (pyIter (.ref v)) (CompPost prog w A env scope x [.Name x px] (.Name x px') Q) E s := by
  have ho := (N _ hm).1
  have htup : s.heap.IsTuple v vs.toArray := ⟨_, ho, rfl, n, rfl⟩
  refine wpAny_pyIter_tuple htup ?_
  have hvlt : v < s.heap.objs.size := Heap.lt_size ho
  have up : ∀ b o, s.heap.get? b = some o → (s.heap.push { cls := .type "tuple_iterator", data := .fields #[.ref v, .int 0 0] }).get? b = some o := fun b o e => Heap.get?_push_of_some _ e
  have key : ∀ (C : Addr) (i : Nat) (u : Value) (s₃ : Shared) (m₃ : Str → Option Value) (px : Pos) (E' : Value → Shared → Prop) (Q' : Value → Shared → Prop), s₃.heap.Ns C m₃ → m₃ x = some u → Q' u s₃ → wpAny (model prog w) A (eval (.Name x px) (compEnv scope C env)) Q' E' s₃ := fun C i u s₃ m₃ px E' Q' hn hu hq =>
    name_at (env := compEnv scope C env) hkind hx hd hn hu hq
  refine ⟨yes, fun v y => y = v, s.heap.objs.size, _, _, _, _, _, rfl, Walks.tuple hh s.heap.objs.size v (Nat.ne_of_lt hvlt) vs.toArray, by simpa using hsz, ⟨⟨_, Heap.get?_push_size _ rfl, rfl, rfl⟩, htup.push _⟩, fun b hb => ?_, ⟨?_, ?_⟩, ?_⟩
  · show b < (s.heap.push _).objs.size
    rw [Heap.size_push]
    rcases List.mem_cons.mp hb with rfl | hb
    · exact Nat.lt_succ_self _
    · rw [List.mem_singleton.mp hb]; exact Nat.lt_succ_of_lt hvlt
  · intro C i u s₃ m₃ E' hP hn hu _ _
    refine wpAny_tests_one (wpAny_isTrue_value (key C i u s₃ m₃ px E' _ hn hu (truth_of (hv u ?_) fun k => ⟨rfl, s₃.heap, k, rfl, fun _ _ e => e⟩)))
    have hP' : vs[i]? = some u := by simpa using hP
    exact List.mem_of_getElem? hP'
  · intro C i u s₃ m₃ E' hP _ hn hu _ _
    exact key C i u s₃ m₃ px' E' _ hn hu ⟨rfl, s₃.heap, s₃.toks, rfl, fun _ _ e => e⟩
  · intro D h' tk ys us hD _ hpl hlen hP hF hk
    have e : us = vs := by
      refine List.ext_getElem? fun j => ?_
      by_cases hj : j < us.length
      · have e1 : us[j]? = some us[j] := List.getElem?_eq_getElem hj
        have e2 : vs.toArray[j]? = some us[j] := hP j _ e1
        rw [e1]
        simpa using e2.symm
      · have e1 : us[j]? = none := List.getElem?_eq_none (Nat.le_of_not_lt hj)
        have e2 : vs[j]? = none := List.getElem?_eq_none (by rw [hlen] at hj; simpa using hj)
        rw [e1, e2]
    subst e
    have ey : ys.toList = us.filter yes := paired_same hF
    obtain ⟨k, hg⟩ := hpl
    have ey' : ys = (us.filter yes).toArray := by rw [← ey]
    rw [ey'] at hg
    have keep : ∀ b o, s.heap.get? b = some o → h'.get? b = some o := fun b o e => hk b o (fun q => by
      rw [List.mem_singleton.mp q] at e
      exact absurd (Heap.lt_size e) (Nat.lt_irrefl _)) (up b o e)
    have hDs : s.heap.get? D = none := by
      cases q : s.heap.get? D with
      | none => rfl
      | some o =>
        have z := up _ _ q
        rw [hD] at z
        cases z
    obtain ⟨oL, es, ep, hL, hLr⟩ := F.ns
    refine h D k h' tk (F.keeps keep) (fun p hp => ?_) fun p hp q => ?_
    · rcases List.mem_cons.mp hp with rfl | hp
      · refine ⟨hg, fun q => ?_, ?_⟩
        · have q' : D = L := q
          rw [q', hL] at hDs
          cases hDs
        · cases q : h₀.get? D with
          | none => rfl
          | some o =>
            have z := F.keep _ _ q
            rw [hDs] at z
            cases z
      · exact ⟨keep _ _ (N p hp).1, (N p hp).2⟩
    · rw [← q, (N p hp).1] at hDs
      cases hDs
def okv : Value → Bool
  | .none => true
  | .str y _ => Nat.ble y.length 16777216
  | _ => false
theorem comp_lit {x : Str} {px px' : Pos} {env : Env} {scope : Scope} {vs ws : List Value} {v n : Nat} {Q : Value → Shared → Prop}
    (hh : A.handled = none) (hkind : scope.kind = .function) (hx : scope.names.lookup x = some .local) (hd : (x == ("__debug__" : Str)) = false)
    (F : Fr h₀ L s.heap m) (N : News h₀ L s.heap news) (hm : (v, ({ cls := .type "tuple", data := .seq vs.toArray n } : Obj)) ∈ news) (hv : vs.all okv = true) (hsz : Nat.ble vs.length 100 = true) (e : vs.filter yes = ws)
    (h : ∀ D k h' tk, Fr h₀ L h' m → News h₀ L h' ((D, ({ cls := .type "list", data := .seq ws.toArray k } : Obj)) :: news) → (∀ p ∈ news, p.1 ≠ D) → Q (.ref D) { s with heap := h', toks := tk }) :
    wpAny (model prog w) A (pyIter (.ref v)) (CompPost prog w A env scope x [.Name x px] (.Name x px') Q) E s := by
  subst e
  refine comp_truthy hh hkind hx hd F N hm (fun u hu => ?_) (by have := Nat.le_of_ble_eq_true hsz; rw [sizeLine_eq]; omega) h
  have z := List.all_eq_true.mp hv u hu
  cases u with
  | none => exact .inl rfl
  | str y t => exact .inr ⟨y, t, rfl, Nat.le_of_ble_eq_true z⟩
  | _ => exact absurd z Bool.false_ne_true
end
end Mine
end
section
open PySem PySem.W PyProof.Rows PySem.Calls
set_option maxRecDepth 100000
namespace Mine
def dlParts : Scope × List Stmt := match PySem.Challenge.pw_nk0004_01.main.body.drop 2 with
  | .FunctionDef _ _ b _ _ _ sc _ _ _ :: _ => (sc, b)
  | _ => (default, [])
def dlScope : Scope := dlParts.1
def dlBody : List Stmt := dlParts.2
/-- the loop's block -/
def dlTurn : List Stmt := match dlBody.drop 2 with
  | .For _ _ b _ _ :: _ => b
  | _ => []
/-- what is done with a text: the rows under its test -/
def dlText : List Stmt := match dlTurn.drop 2 with
  | .If _ b _ _ :: _ => b
  | _ => []
abbrev dlEnv (L' a : Addr) (cdv : Value) : Env := envOf (Str.ofString "default_locale") dlScope L' a cdv
/-- how a text's rows end: an answer, or on to the next -/
def TextEnds (w : World) (mg mb : Str → Option Value) (loose : List Str) (mean : ExcName → Option Value) (base : Heap) (A₀ : Around) (outer : List Env) (g₀ : Heap) (L : Addr) (s : Shared) (led : List (Addr × Obj)) (m₀ : Str → Option Value) (res : Option Str) (f : Flow) (s' : Shared) : Prop :=
  ∃ g h tk u, s' = { s with heap := h, toks := tk } ∧ Gnd w mg mb loose mean base A₀ outer g₀ g ∧ Fr g L h (fun y => if y = Str.ofString "locale" then u else m₀ y) ∧ News g L h led ∧
    match res with | some r => ∃ t, f = .ret (.str r t) | none => f = .next
section
variable {prog : Program} {w : World} {A : Around} {E : Value → Shared → Prop} {s : Shared} {h₀ : Heap} {L : Addr} {m : Str → Option Value} {news : List (Addr × Obj)} {x y p1 p2 p3 : Str} {t u v : Tok} {k : Int} {Q : Value → Shared → Prop}
theorem one_of {l : List (Str × Tok)} (e : l.map (·.1) = [p1]) : ∃ t1, l = [(p1, t1)] := by
  obtain ⟨t1, l', rfl, e'⟩ := KSpl.cons_of e
  exact ⟨t1, by rw [KSpl.nil_of e']⟩
theorem two_of {l : List (Str × Tok)} (e : l.map (·.1) = [p1, p2]) : ∃ t1 t2, l = [(p1, t1), (p2, t2)] := by
  obtain ⟨t1, l', rfl, e'⟩ := KSpl.cons_of e
  obtain ⟨t2, rfl⟩ := one_of e'
  exact ⟨t1, t2, rfl⟩
theorem three_of {l : List (Str × Tok)} (e : l.map (·.1) = [p1, p2, p3]) : ∃ t1 t2 t3, l = [(p1, t1), (p2, t2), (p3, t3)] := by
  obtain ⟨t1, l', rfl, e'⟩ := KSpl.cons_of e
  obtain ⟨t2, t3, rfl⟩ := two_of e'
  exact ⟨t1, t2, t3, rfl⟩
theorem split_1 (hF : Fr h₀ L s.heap m) (hN : News h₀ L s.heap news) (hy : (y.length == 0) = false) (hsz : x.length + 2 ≤ sizeLine) (e : Txt.split x y = [p1])
    (h : ∀ D h' k t1, Fr h₀ L h' m → News h₀ L h' ((D, W.listOf #[.str p1 t1] 0) :: news) → (∀ p ∈ news, p.1 < D) → Q (.ref D) { s with heap := h', toks := k }) :
    wpAny (model prog w) A (call (.builtin "str.split") [.str x t, .str y u]) Q E s := KSpl.split1 hF hN hy (fun D l h' k el _ F N l1 => by
  obtain ⟨t1, rfl⟩ := one_of (el.trans e)
  exact h D h' k t1 F N l1) hsz
theorem split_2 (hF : Fr h₀ L s.heap m) (hN : News h₀ L s.heap news) (hy : (y.length == 0) = false) (hsz : x.length + 2 ≤ sizeLine) (e : Txt.split x y = [p1, p2])
    (h : ∀ D h' k t1 t2, Fr h₀ L h' m → News h₀ L h' ((D, W.listOf #[.str p1 t1, .str p2 t2] 0) :: news) → (∀ p ∈ news, p.1 < D) → Q (.ref D) { s with heap := h', toks := k }) :
    wpAny (model prog w) A (call (.builtin "str.split") [.str x t, .str y u]) Q E s := KSpl.split1 hF hN hy (fun D l h' k el _ F N l1 => by
  obtain ⟨t1, t2, rfl⟩ := two_of (el.trans e)
  exact h D h' k t1 t2 F N l1) hsz
theorem split_3 (hF : Fr h₀ L s.heap m) (hN : News h₀ L s.heap news) (hy : (y.length == 0) = false) (hsz : x.length + 2 ≤ sizeLine) (e : Txt.split x y = [p1, p2, p3])
    (h : ∀ D h' k t1 t2 t3, Fr h₀ L h' m → News h₀ L h' ((D, W.listOf #[.str p1 t1, .str p2 t2, .str p3 t3] 0) :: news) → (∀ p ∈ news, p.1 < D) → Q (.ref D) { s with heap := h', toks := k }) :
    wpAny (model prog w) A (call (.builtin "str.split") [.str x t, .str y u]) Q E s := KSpl.split1 hF hN hy (fun D l h' k el _ F N l1 => by
  obtain ⟨t1, t2, t3, rfl⟩ := three_of (el.trans e)
  exact h D h' k t1 t2 t3 F N l1) hsz
theorem splitM_2 (hF : Fr h₀ L s.heap m) (hN : News h₀ L s.heap news) (hy : (y.length == 0) = false) (hk : (decide (k < -(2 ^ 63 : Int)) || decide (k ≥ 2 ^ 63)) = false) (hsz : x.length + 2 ≤ sizeLine) (e : Txt.splitMax x y k = [p1, p2])
    (h : ∀ D h' k t1 t2, Fr h₀ L h' m → News h₀ L h' ((D, W.listOf #[.str p1 t1, .str p2 t2] 0) :: news) → (∀ p ∈ news, p.1 < D) → Q (.ref D) { s with heap := h', toks := k }) :
    wpAny (model prog w) A (call (.builtin "str.split") [.str x t, .str y u, .int k v]) Q E s := splitN2A hF hN hy hk (fun l h' tk el _ _ _ F N => by
  obtain ⟨t1, t2, rfl⟩ := two_of (el.trans e)
  exact h _ h' tk t1 t2 F N fun p hp => Heap.lt_size (hN p hp).1) hsz
theorem repr_lit (e : reprText x = y) (hy : Nat.ble y.length 10000 = true) {Q : Value → Shared → Prop} (h : Q (.str y s.toks) { s with toks := s.toks + 1 }) : wpAny (model prog w) A (pyReprObj (.str x t)) Q E s := by
  subst e
  exact wpAny_pyReprObj_str h (Nat.le_trans (Nat.le_of_ble_eq_true hy) (by rw [sizeLine_eq]; decide))
end
section
variable {w : World} {mg mb : Str → Option Value} {loose : List Str} {mean : ExcName → Option Value} {base g₀ : Heap} {A₀ : Around} {outer : List Env} {L : Addr} {s : Shared} {led : List (Addr × Obj)} {m₀ : Str → Option Value}
theorem TextEnds.ret {g h : Heap} {tk : Nat} {u : Option Value} {r : Str} {t : Tok} {news : List (Addr × Obj)} (Gn : Gnd w mg mb loose mean base A₀ outer g₀ g) (F : Fr g L h (fun y => if y = Str.ofString "locale" then u else m₀ y))
    (N : News g L h news) (hs : ∀ p ∈ led, p ∈ news) : TextEnds w mg mb loose mean base A₀ outer g₀ L s led m₀ (some r) (.ret (.str r t)) { s with heap := h, toks := tk } :=
  ⟨g, h, tk, u, rfl, Gn, F, fun p hp => N p (hs p hp), t, rfl⟩
theorem TextEnds.next {g h : Heap} {tk : Nat} {u : Option Value} {news : List (Addr × Obj)} (Gn : Gnd w mg mb loose mean base A₀ outer g₀ g) (F : Fr g L h (fun y => if y = Str.ofString "locale" then u else m₀ y))
    (N : News g L h news) (hs : ∀ p ∈ led, p ∈ news) : TextEnds w mg mb loose mean base A₀ outer g₀ L s led m₀ none .next { s with heap := h, toks := tk } :=
  ⟨g, h, tk, u, rfl, Gn, F, fun p hp => N p (hs p hp), rfl⟩
end
end Mine
end
section
open PySem PySem.W PyProof.Rows PySem.Calls
set_option maxRecDepth 100000
namespace Mine
section
local macro_rules | `(tactic| walk_at "subscriptTail Name Constant ref int") => `(tactic| (k_here; k_dflt (refine' item_first ?N ?m ?_; (case N => k_asm); (case m => k_mem); k_whole)))
local macro_rules | `(tactic| walk_at "subscriptTail Call Attribute cons nil Constant ref int") => `(tactic| (k_here; k_dflt (refine' item_first ?N ?m ?_; (case N => k_asm); (case m => k_mem); k_whole)))
local macro_rules | `(tactic| walk_at "subscriptTail Name Slice ref ref") => `(tactic| (k_here; k_dflt (refine' slice_whole ?F ?N ?t ?k ?_ ?s ?g; (case F => k_asm); (case N => k_asm); (case t => exact News.isTup (by k_asm) (by k_mem)); (case k => first | exact Int.ofNat_le.mpr (Nat.le_of_ble_eq_true rfl) | (show ((4:Nat):Int) ≤ 5; decide) | (show ((5:Nat):Int) ≤ 5; decide)); (case s => with_unfolding_all rfl); (case g => intro _; with_unfolding_all rfl)); intro h' F' N'; (try dsimp only); (try k_sweep)))
local macro_rules | `(tactic| walk_at "binaryOp Mult ref int") => `(tactic| (k_here; (with_reducible show wpAny _ _ (binaryOp Operator.Mult (Value.ref _) (Value.int _ _)) _ _ _); k_dflt (refine' mul_tup1 ?N ?m ?x ?_; (case N => k_asm); (case m => k_mem); (case x => decide); k_whole)))
local macro_rules | `(tactic| walk_at "binaryOp Mult ref int") => `(tactic| (k_here; (with_reducible show wpAny _ _ (binaryOp Operator.Mult (Value.ref _) (Value.int _ _)) _ _ _); k_dflt (refine' mul_tup0 ?F ?N ?m ?x ?_; (case F => k_asm); (case N => k_asm); (case m => k_mem); (case x => decide)); intro D' h' F' N' l1; (try k_lt l1); (try dsimp only); (try k_sweep)))
local macro_rules | `(tactic| walk_at "pyIter ref") => `(tactic| (k_here; k_dflt (refine' comp_lit (ws := ?cw) ?chh ?ck ?cx ?cd ?cF ?cN ?cm ?cv ?cz ?ce ?_; (case chh => rfl); (case cF => k_asm); (case cN => k_asm); (case cm => k_mem); (case ck => rfl); (case cx => rfl); (case cd => decide); (case cv => rfl); (case cz => rfl); (case ce => with_unfolding_all first | exact (rfl : _ = [_]) | exact (rfl : _ = [_, _]) | exact (rfl : _ = [_, _, _]))); intro D' k' h' tk' F' N' l1; (try dsimp only); (try k_sweep)))
local macro_rules | `(tactic| walk_at "execs cons") => `(tactic| (k_here; dsimp only; walk_at "execs cons"))
local macro_rules | `(tactic| walk_at "pyReprObj str") => `(tactic| (k_here; (first | refine repr_lit (x := Str.ofString "sv-se") (y := Str.ofString "'sv-se'") (by decide +kernel) (by decide) ?_ | refine repr_lit (x := Str.ofString "not_a_locale") (y := Str.ofString "'not_a_locale'") (by decide +kernel) (by decide) ?_); (try dsimp only)))
local macro_rules | `(tactic| walk_at "ite") => `(tactic| (k_closed; k_dflt (first | refine ite_pos (by decide +kernel) ?_ | refine ite_neg (by decide +kernel) ?_)))
local macro_rules | `(tactic| walk_at "call builtin:str.split") => `(tactic| (k_here; (with_reducible show wpAny _ _ (call (Value.builtin "str.split") [Value.str _ _, Value.str _ _]) _ _ _); k_dflt (first
  | (refine' split_3 (p1 := Str.ofString "en") (p2 := Str.ofString "US") (p3 := Str.ofString "POSIX") ?F ?N ?y ?z ?e ?_; (case F => k_asm); (case N => k_asm); (case y => decide); (case z => exact Nat.le_of_ble_eq_true rfl); (case e => decide +kernel); intro D' h' k' t1' t2' t3' F' N' l1; (try k_lt l1); (try dsimp only); (try k_sweep))
  | (refine' split_3 (p1 := Str.ofString "zh") (p2 := Str.ofString "hans") (p3 := Str.ofString "cn") ?F ?N ?y ?z ?e ?_; (case F => k_asm); (case N => k_asm); (case y => decide); (case z => exact Nat.le_of_ble_eq_true rfl); (case e => decide +kernel); intro D' h' k' t1' t2' t3' F' N' l1; (try k_lt l1); (try dsimp only); (try k_sweep))
  | (refine' split_3 (p1 := Str.ofString "not") (p2 := Str.ofString "a") (p3 := Str.ofString "locale") ?F ?N ?y ?z ?e ?_; (case F => k_asm); (case N => k_asm); (case y => decide); (case z => exact Nat.le_of_ble_eq_true rfl); (case e => decide +kernel); intro D' h' k' t1' t2' t3' F' N' l1; (try k_lt l1); (try dsimp only); (try k_sweep))
  | (refine' split_2 (p1 := Str.ofString "fr") (p2 := Str.ofString "ca") ?F ?N ?y ?z ?e ?_; (case F => k_asm); (case N => k_asm); (case y => decide); (case z => exact Nat.le_of_ble_eq_true rfl); (case e => decide +kernel); intro D' h' k' t1' t2' F' N' l1; (try k_lt l1); (try dsimp only); (try k_sweep))
  | (refine' split_2 (p1 := Str.ofString "de") (p2 := Str.ofString "DE") ?F ?N ?y ?z ?e ?_; (case F => k_asm); (case N => k_asm); (case y => decide); (case z => exact Nat.le_of_ble_eq_true rfl); (case e => decide +kernel); intro D' h' k' t1' t2' F' N' l1; (try k_lt l1); (try dsimp only); (try k_sweep))
  | (refine' split_2 (p1 := Str.ofString "it") (p2 := Str.ofString "IT") ?F ?N ?y ?z ?e ?_; (case F => k_asm); (case N => k_asm); (case y => decide); (case z => exact Nat.le_of_ble_eq_true rfl); (case e => decide +kernel); intro D' h' k' t1' t2' F' N' l1; (try k_lt l1); (try dsimp only); (try k_sweep))
  | (refine' split_2 (p1 := Str.ofString "it") (p2 := Str.ofString "ch") ?F ?N ?y ?z ?e ?_; (case F => k_asm); (case N => k_asm); (case y => decide); (case z => exact Nat.le_of_ble_eq_true rfl); (case e => decide +kernel); intro D' h' k' t1' t2' F' N' l1; (try k_lt l1); (try dsimp only); (try k_sweep))
  | (refine' split_2 (p1 := Str.ofString "de") (p2 := Str.ofString "UTF-8") ?F ?N ?y ?z ?e ?_; (case F => k_asm); (case N => k_asm); (case y => decide); (case z => exact Nat.le_of_ble_eq_true rfl); (case e => decide +kernel); intro D' h' k' t1' t2' F' N' l1; (try k_lt l1); (try dsimp only); (try k_sweep))
  | (refine' split_2 (p1 := Str.ofString "fr_ca") (p2 := Str.ofString "UTF-8") ?F ?N ?y ?z ?e ?_; (case F => k_asm); (case N => k_asm); (case y => decide); (case z => exact Nat.le_of_ble_eq_true rfl); (case e => decide +kernel); intro D' h' k' t1' t2' F' N' l1; (try k_lt l1); (try dsimp only); (try k_sweep))
  | (refine' split_2 (p1 := Str.ofString "it_ch") (p2 := Str.ofString "UTF-8") ?F ?N ?y ?z ?e ?_; (case F => k_asm); (case N => k_asm); (case y => decide); (case z => exact Nat.le_of_ble_eq_true rfl); (case e => decide +kernel); intro D' h' k' t1' t2' F' N' l1; (try k_lt l1); (try dsimp only); (try k_sweep))
  | (refine' split_2 (p1 := Str.ofString "POSIX") (p2 := Str.ofString "UTF-8") ?F ?N ?y ?z ?e ?_; (case F => k_asm); (case N => k_asm); (case y => decide); (case z => exact Nat.le_of_ble_eq_true rfl); (case e => decide +kernel); intro D' h' k' t1' t2' F' N' l1; (try k_lt l1); (try dsimp only); (try k_sweep))
  | (refine' split_1 (p1 := Str.ofString "de") ?F ?N ?y ?z ?e ?_; (case F => k_asm); (case N => k_asm); (case y => decide); (case z => exact Nat.le_of_ble_eq_true rfl); (case e => decide +kernel); intro D' h' k' t1' F' N' l1; (try k_lt l1); (try dsimp only); (try k_sweep))
  | (refine' split_1 (p1 := Str.ofString "sv-SE") ?F ?N ?y ?z ?e ?_; (case F => k_asm); (case N => k_asm); (case y => decide); (case z => exact Nat.le_of_ble_eq_true rfl); (case e => decide +kernel); intro D' h' k' t1' F' N' l1; (try k_lt l1); (try dsimp only); (try k_sweep))
  | (refine' split_1 (p1 := Str.ofString "C") ?F ?N ?y ?z ?e ?_; (case F => k_asm); (case N => k_asm); (case y => decide); (case z => exact Nat.le_of_ble_eq_true rfl); (case e => decide +kernel); intro D' h' k' t1' F' N' l1; (try k_lt l1); (try dsimp only); (try k_sweep))
  | (refine' split_1 (p1 := Str.ofString "") ?F ?N ?y ?z ?e ?_; (case F => k_asm); (case N => k_asm); (case y => decide); (case z => exact Nat.le_of_ble_eq_true rfl); (case e => decide +kernel); intro D' h' k' t1' F' N' l1; (try k_lt l1); (try dsimp only); (try k_sweep)))))
local macro_rules | `(tactic| walk_at "call builtin:str.split") => `(tactic| (k_here; (with_reducible show wpAny _ _ (call (Value.builtin "str.split") [Value.str _ _, Value.str _ _, Value.int _ _]) _ _ _); k_dflt (first
  | (refine' splitM_2 (p1 := Str.ofString "de") (p2 := Str.ofString "UTF-8") ?F ?N ?y ?k ?z ?e ?_; (case k => decide); (case F => k_asm); (case N => k_asm); (case y => decide); (case z => exact Nat.le_of_ble_eq_true rfl); (case e => decide +kernel); intro D' h' k' t1' t2' F' N' l1; (try k_lt l1); (try dsimp only); (try k_sweep))
  | (refine' splitM_2 (p1 := Str.ofString "fr_ca") (p2 := Str.ofString "UTF-8") ?F ?N ?y ?k ?z ?e ?_; (case k => decide); (case F => k_asm); (case N => k_asm); (case y => decide); (case z => exact Nat.le_of_ble_eq_true rfl); (case e => decide +kernel); intro D' h' k' t1' t2' F' N' l1; (try k_lt l1); (try dsimp only); (try k_sweep))
  | (refine' splitM_2 (p1 := Str.ofString "it_ch") (p2 := Str.ofString "UTF-8") ?F ?N ?y ?k ?z ?e ?_; (case k => decide); (case F => k_asm); (case N => k_asm); (case y => decide); (case z => exact Nat.le_of_ble_eq_true rfl); (case e => decide +kernel); intro D' h' k' t1' t2' F' N' l1; (try k_lt l1); (try dsimp only); (try k_sweep)))))
set_option maxHeartbeats 4000000 in
theorem parse_us {w : World} {mg mb : Str → Option Value} {loose : List Str} {mean : ExcName → Option Value} {base : Heap} (KB : (hd.heap_39 w.params).In base) (TB : Top hd.view_39 loose mean mg mb base)
    {L fa cd : Addr} {g₀ g : Heap} (Gn : Gnd w mg mb loose mean base (callerA.deeper (lawEnv L fa cd)) [lawEnv L fa cd] g₀ g) {s : Shared} {L' a I v d : Addr} {cdv : Value} {it o : Obj} {vs : List Value} {n : Nat} {m₀ : Str → Option Value} {t : Tok}
    (F : Fr g L' s.heap (fun y => if y = Str.ofString "locale" then some (.str (Str.ofString "en_US_POSIX") t) else m₀ y)) (N : News g L' s.heap [(I, it), (v, tupObj vs n), (d, o)]) :
    wpAny (model PySem.Challenge.rw_nk0004_01.row.prog w) ((callerA.deeper (lawEnv L fa cd)).deeper (dlEnv L' a cdv)) (execs (dlText.drop 2) (dlEnv L' a cdv))
      (TextEnds w mg mb loose mean base (callerA.deeper (lawEnv L fa cd)) [lawEnv L fa cd] g₀ L' s [(I, it), (v, tupObj vs n), (d, o)] m₀ (some (Str.ofString "en_US_POSIX"))) (fun _ _ => False) s := by
  revert KB
  w_top off
  k_fill
  intro KB
  obtain ⟨T0, B, KX, T, D⟩ := Gn
  conv in (List.drop 2 dlText) => whnf
  generalize hQ : TextEnds w mg mb loose mean base _ _ g₀ L' s _ m₀ _ = Q
  k_steps
  all_goals (subst hQ; first
    | (refine' TextEnds.ret ⟨T0, B, KX, T, D⟩ ?eF ?eN ?eS; (case eF => assumption); (case eN => assumption); (case eS => intro p hp; repeat (first | exact hp | refine List.mem_cons_of_mem _ ?_)))
    | (refine' TextEnds.next ⟨?e1, ?e2, ?e3, ?e4, ?e5⟩ ?eF ?eN ?eS; (case e1 => assumption); (case e2 => assumption); (case e3 => assumption); (case e4 => assumption); (case e5 => assumption); (case eF => assumption); (case eN => assumption); (case eS => intro p hp; repeat (first | exact hp | refine List.mem_cons_of_mem _ ?_))))
set_option maxHeartbeats 4000000 in
theorem parse_dd {w : World} {mg mb : Str → Option Value} {loose : List Str} {mean : ExcName → Option Value} {base : Heap} (KB : (hd.heap_39 w.params).In base) (TB : Top hd.view_39 loose mean mg mb base)
    {L fa cd : Addr} {g₀ g : Heap} (Gn : Gnd w mg mb loose mean base (callerA.deeper (lawEnv L fa cd)) [lawEnv L fa cd] g₀ g) {s : Shared} {L' a I v d : Addr} {cdv : Value} {it o : Obj} {vs : List Value} {n : Nat} {m₀ : Str → Option Value} {t : Tok}
    (F : Fr g L' s.heap (fun y => if y = Str.ofString "locale" then some (.str (Str.ofString "de_DE") t) else m₀ y)) (N : News g L' s.heap [(I, it), (v, tupObj vs n), (d, o)]) :
    wpAny (model PySem.Challenge.rw_nk0004_01.row.prog w) ((callerA.deeper (lawEnv L fa cd)).deeper (dlEnv L' a cdv)) (execs (dlText.drop 2) (dlEnv L' a cdv))
      (TextEnds w mg mb loose mean base (callerA.deeper (lawEnv L fa cd)) [lawEnv L fa cd] g₀ L' s [(I, it), (v, tupObj vs n), (d, o)] m₀ (some (Str.ofString "de_DE"))) (fun _ _ => False) s := by
  revert KB
  w_top off
  k_fill
  intro KB
  obtain ⟨T0, B, KX, T, D⟩ := Gn
  conv in (List.drop 2 dlText) => whnf
  generalize hQ : TextEnds w mg mb loose mean base _ _ g₀ L' s _ m₀ _ = Q
  k_steps
  all_goals (subst hQ; first
    | (refine' TextEnds.ret ⟨T0, B, KX, T, D⟩ ?eF ?eN ?eS; (case eF => assumption); (case eN => assumption); (case eS => intro p hp; repeat (first | exact hp | refine List.mem_cons_of_mem _ ?_)))
    | (refine' TextEnds.next ⟨?e1, ?e2, ?e3, ?e4, ?e5⟩ ?eF ?eN ?eS; (case e1 => assumption); (case e2 => assumption); (case e3 => assumption); (case e4 => assumption); (case e5 => assumption); (case eF => assumption); (case eN => assumption); (case eS => intro p hp; repeat (first | exact hp | refine List.mem_cons_of_mem _ ?_))))
set_option maxHeartbeats 4000000 in
theorem parse_de {w : World} {mg mb : Str → Option Value} {loose : List Str} {mean : ExcName → Option Value} {base : Heap} (KB : (hd.heap_39 w.params).In base) (TB : Top hd.view_39 loose mean mg mb base)
    {L fa cd : Addr} {g₀ g : Heap} (Gn : Gnd w mg mb loose mean base (callerA.deeper (lawEnv L fa cd)) [lawEnv L fa cd] g₀ g) {s : Shared} {L' a I v d : Addr} {cdv : Value} {it o : Obj} {vs : List Value} {n : Nat} {m₀ : Str → Option Value} {t : Tok}
    (F : Fr g L' s.heap (fun y => if y = Str.ofString "locale" then some (.str (Str.ofString "de") t) else m₀ y)) (N : News g L' s.heap [(I, it), (v, tupObj vs n), (d, o)]) :
    wpAny (model PySem.Challenge.rw_nk0004_01.row.prog w) ((callerA.deeper (lawEnv L fa cd)).deeper (dlEnv L' a cdv)) (execs (dlText.drop 2) (dlEnv L' a cdv))
      (TextEnds w mg mb loose mean base (callerA.deeper (lawEnv L fa cd)) [lawEnv L fa cd] g₀ L' s [(I, it), (v, tupObj vs n), (d, o)] m₀ (some (Str.ofString "de"))) (fun _ _ => False) s := by
  revert KB
  w_top off
  k_fill
  intro KB
  obtain ⟨T0, B, KX, T, D⟩ := Gn
  conv in (List.drop 2 dlText) => whnf
  generalize hQ : TextEnds w mg mb loose mean base _ _ g₀ L' s _ m₀ _ = Q
  k_steps
  all_goals (subst hQ; first
    | (refine' TextEnds.ret ⟨T0, B, KX, T, D⟩ ?eF ?eN ?eS; (case eF => assumption); (case eN => assumption); (case eS => intro p hp; repeat (first | exact hp | refine List.mem_cons_of_mem _ ?_)))
    | (refine' TextEnds.next ⟨?e1, ?e2, ?e3, ?e4, ?e5⟩ ?eF ?eN ?eS; (case e1 => assumption); (case e2 => assumption); (case e3 => assumption); (case e4 => assumption); (case e5 => assumption); (case eF => assumption); (case eN => assumption); (case eS => intro p hp; repeat (first | exact hp | refine List.mem_cons_of_mem _ ?_))))
set_option maxHeartbeats 4000000 in
theorem parse_em {w : World} {mg mb : Str → Option Value} {loose : List Str} {mean : ExcName → Option Value} {base : Heap} (KB : (hd.heap_39 w.params).In base) (TB : Top hd.view_39 loose mean mg mb base)
    {L fa cd : Addr} {g₀ g : Heap} (Gn : Gnd w mg mb loose mean base (callerA.deeper (lawEnv L fa cd)) [lawEnv L fa cd] g₀ g) {s : Shared} {L' a I v d : Addr} {cdv : Value} {it o : Obj} {vs : List Value} {n : Nat} {m₀ : Str → Option Value} {t : Tok}
    (F : Fr g L' s.heap (fun y => if y = Str.ofString "locale" then some (.str (Str.ofString "") t) else m₀ y)) (N : News g L' s.heap [(I, it), (v, tupObj vs n), (d, o)]) :
    wpAny (model PySem.Challenge.rw_nk0004_01.row.prog w) ((callerA.deeper (lawEnv L fa cd)).deeper (dlEnv L' a cdv)) (execs (dlText.drop 2) (dlEnv L' a cdv))
      (TextEnds w mg mb loose mean base (callerA.deeper (lawEnv L fa cd)) [lawEnv L fa cd] g₀ L' s [(I, it), (v, tupObj vs n), (d, o)] m₀ none) (fun _ _ => False) s := by
  revert KB
  w_top off
  k_fill
  intro KB
  obtain ⟨T0, B, KX, T, D⟩ := Gn
  conv in (List.drop 2 dlText) => whnf
  generalize hQ : TextEnds w mg mb loose mean base _ _ g₀ L' s _ m₀ _ = Q
  k_steps
  all_goals (subst hQ; first
    | (refine' TextEnds.ret ⟨T0, B, KX, T, D⟩ ?eF ?eN ?eS; (case eF => assumption); (case eN => assumption); (case eS => intro p hp; repeat (first | exact hp | refine List.mem_cons_of_mem _ ?_)))
    | (refine' TextEnds.next ⟨?e1, ?e2, ?e3, ?e4, ?e5⟩ ?eF ?eN ?eS; (case e1 => assumption); (case e2 => assumption); (case e3 => assumption); (case e4 => assumption); (case e5 => assumption); (case eF => assumption); (case eN => assumption); (case eS => intro p hp; repeat (first | exact hp | refine List.mem_cons_of_mem _ ?_))))
end
end Mine
end
section
open PySem PySem.W PyProof.Rows PySem.Calls
set_option maxRecDepth 100000
namespace Mine
section
local macro_rules | `(tactic| walk_at "subscriptTail Name Constant ref int") => `(tactic| (k_here; k_dflt (refine' item_first ?N ?m ?_; (case N => k_asm); (case m => k_mem); k_whole)))
local macro_rules | `(tactic| walk_at "subscriptTail Call Attribute cons nil Constant ref int") => `(tactic| (k_here; k_dflt (refine' item_first ?N ?m ?_; (case N => k_asm); (case m => k_mem); k_whole)))
local macro_rules | `(tactic| walk_at "subscriptTail Name Slice ref ref") => `(tactic| (k_here; k_dflt (refine' slice_whole ?F ?N ?t ?k ?_ ?s ?g; (case F => k_asm); (case N => k_asm); (case t => exact News.isTup (by k_asm) (by k_mem)); (case k => first | exact Int.ofNat_le.mpr (Nat.le_of_ble_eq_true rfl) | (show ((4:Nat):Int) ≤ 5; decide) | (show ((5:Nat):Int) ≤ 5; decide)); (case s => with_unfolding_all rfl); (case g => intro _; with_unfolding_all rfl)); intro h' F' N'; (try dsimp only); (try k_sweep)))
local macro_rules | `(tactic| walk_at "binaryOp Mult ref int") => `(tactic| (k_here; (with_reducible show wpAny _ _ (binaryOp Operator.Mult (Value.ref _) (Value.int _ _)) _ _ _); k_dflt (refine' mul_tup1 ?N ?m ?x ?_; (case N => k_asm); (case m => k_mem); (case x => decide); k_whole)))
local macro_rules | `(tactic| walk_at "binaryOp Mult ref int") => `(tactic| (k_here; (with_reducible show wpAny _ _ (binaryOp Operator.Mult (Value.ref _) (Value.int _ _)) _ _ _); k_dflt (refine' mul_tup0 ?F ?N ?m ?x ?_; (case F => k_asm); (case N => k_asm); (case m => k_mem); (case x => decide)); intro D' h' F' N' l1; (try k_lt l1); (try dsimp only); (try k_sweep)))
local macro_rules | `(tactic| walk_at "pyIter ref") => `(tactic| (k_here; k_dflt (refine' comp_lit (ws := ?cw) ?chh ?ck ?cx ?cd ?cF ?cN ?cm ?cv ?cz ?ce ?_; (case chh => rfl); (case cF => k_asm); (case cN => k_asm); (case cm => k_mem); (case ck => rfl); (case cx => rfl); (case cd => decide); (case cv => rfl); (case cz => rfl); (case ce => with_unfolding_all first | exact (rfl : _ = [_]) | exact (rfl : _ = [_, _]) | exact (rfl : _ = [_, _, _]))); intro D' k' h' tk' F' N' l1; (try dsimp only); (try k_sweep)))
local macro_rules | `(tactic| walk_at "execs cons") => `(tactic| (k_here; dsimp only; walk_at "execs cons"))
local macro_rules | `(tactic| walk_at "pyReprObj str") => `(tactic| (k_here; (first | refine repr_lit (x := Str.ofString "sv-se") (y := Str.ofString "'sv-se'") (by decide +kernel) (by decide) ?_ | refine repr_lit (x := Str.ofString "not_a_locale") (y := Str.ofString "'not_a_locale'") (by decide +kernel) (by decide) ?_); (try dsimp only)))
local macro_rules | `(tactic| walk_at "ite") => `(tactic| (k_closed; k_dflt (first | refine ite_pos (by decide +kernel) ?_ | refine ite_neg (by decide +kernel) ?_)))
local macro_rules | `(tactic| walk_at "call builtin:str.split") => `(tactic| (k_here; (with_reducible show wpAny _ _ (call (Value.builtin "str.split") [Value.str _ _, Value.str _ _]) _ _ _); k_dflt (first
  | (refine' split_3 (p1 := Str.ofString "en") (p2 := Str.ofString "US") (p3 := Str.ofString "POSIX") ?F ?N ?y ?z ?e ?_; (case F => k_asm); (case N => k_asm); (case y => decide); (case z => exact Nat.le_of_ble_eq_true rfl); (case e => decide +kernel); intro D' h' k' t1' t2' t3' F' N' l1; (try k_lt l1); (try dsimp only); (try k_sweep))
  | (refine' split_3 (p1 := Str.ofString "zh") (p2 := Str.ofString "hans") (p3 := Str.ofString "cn") ?F ?N ?y ?z ?e ?_; (case F => k_asm); (case N => k_asm); (case y => decide); (case z => exact Nat.le_of_ble_eq_true rfl); (case e => decide +kernel); intro D' h' k' t1' t2' t3' F' N' l1; (try k_lt l1); (try dsimp only); (try k_sweep))
  | (refine' split_3 (p1 := Str.ofString "not") (p2 := Str.ofString "a") (p3 := Str.ofString "locale") ?F ?N ?y ?z ?e ?_; (case F => k_asm); (case N => k_asm); (case y => decide); (case z => exact Nat.le_of_ble_eq_true rfl); (case e => decide +kernel); intro D' h' k' t1' t2' t3' F' N' l1; (try k_lt l1); (try dsimp only); (try k_sweep))
  | (refine' split_2 (p1 := Str.ofString "fr") (p2 := Str.ofString "ca") ?F ?N ?y ?z ?e ?_; (case F => k_asm); (case N => k_asm); (case y => decide); (case z => exact Nat.le_of_ble_eq_true rfl); (case e => decide +kernel); intro D' h' k' t1' t2' F' N' l1; (try k_lt l1); (try dsimp only); (try k_sweep))
  | (refine' split_2 (p1 := Str.ofString "de") (p2 := Str.ofString "DE") ?F ?N ?y ?z ?e ?_; (case F => k_asm); (case N => k_asm); (case y => decide); (case z => exact Nat.le_of_ble_eq_true rfl); (case e => decide +kernel); intro D' h' k' t1' t2' F' N' l1; (try k_lt l1); (try dsimp only); (try k_sweep))
  | (refine' split_2 (p1 := Str.ofString "it") (p2 := Str.ofString "IT") ?F ?N ?y ?z ?e ?_; (case F => k_asm); (case N => k_asm); (case y => decide); (case z => exact Nat.le_of_ble_eq_true rfl); (case e => decide +kernel); intro D' h' k' t1' t2' F' N' l1; (try k_lt l1); (try dsimp only); (try k_sweep))
  | (refine' split_2 (p1 := Str.ofString "it") (p2 := Str.ofString "ch") ?F ?N ?y ?z ?e ?_; (case F => k_asm); (case N => k_asm); (case y => decide); (case z => exact Nat.le_of_ble_eq_true rfl); (case e => decide +kernel); intro D' h' k' t1' t2' F' N' l1; (try k_lt l1); (try dsimp only); (try k_sweep))
  | (refine' split_2 (p1 := Str.ofString "de") (p2 := Str.ofString "UTF-8") ?F ?N ?y ?z ?e ?_; (case F => k_asm); (case N => k_asm); (case y => decide); (case z => exact Nat.le_of_ble_eq_true rfl); (case e => decide +kernel); intro D' h' k' t1' t2' F' N' l1; (try k_lt l1); (try dsimp only); (try k_sweep))
  | (refine' split_2 (p1 := Str.ofString "fr_ca") (p2 := Str.ofString "UTF-8") ?F ?N ?y ?z ?e ?_; (case F => k_asm); (case N => k_asm); (case y => decide); (case z => exact Nat.le_of_ble_eq_true rfl); (case e => decide +kernel); intro D' h' k' t1' t2' F' N' l1; (try k_lt l1); (try dsimp only); (try k_sweep))
  | (refine' split_2 (p1 := Str.ofString "it_ch") (p2 := Str.ofString "UTF-8") ?F ?N ?y ?z ?e ?_; (case F => k_asm); (case N => k_asm); (case y => decide); (case z => exact Nat.le_of_ble_eq_true rfl); (case e => decide +kernel); intro D' h' k' t1' t2' F' N' l1; (try k_lt l1); (try dsimp only); (try k_sweep))
  | (refine' split_2 (p1 := Str.ofString "POSIX") (p2 := Str.ofString "UTF-8") ?F ?N ?y ?z ?e ?_; (case F => k_asm); (case N => k_asm); (case y => decide); (case z => exact Nat.le_of_ble_eq_true rfl); (case e => decide +kernel); intro D' h' k' t1' t2' F' N' l1; (try k_lt l1); (try dsimp only); (try k_sweep))
  | (refine' split_1 (p1 := Str.ofString "de") ?F ?N ?y ?z ?e ?_; (case F => k_asm); (case N => k_asm); (case y => decide); (case z => exact Nat.le_of_ble_eq_true rfl); (case e => decide +kernel); intro D' h' k' t1' F' N' l1; (try k_lt l1); (try dsimp only); (try k_sweep))
  | (refine' split_1 (p1 := Str.ofString "sv-SE") ?F ?N ?y ?z ?e ?_; (case F => k_asm); (case N => k_asm); (case y => decide); (case z => exact Nat.le_of_ble_eq_true rfl); (case e => decide +kernel); intro D' h' k' t1' F' N' l1; (try k_lt l1); (try dsimp only); (try k_sweep))
  | (refine' split_1 (p1 := Str.ofString "C") ?F ?N ?y ?z ?e ?_; (case F => k_asm); (case N => k_asm); (case y => decide); (case z => exact Nat.le_of_ble_eq_true rfl); (case e => decide +kernel); intro D' h' k' t1' F' N' l1; (try k_lt l1); (try dsimp only); (try k_sweep))
  | (refine' split_1 (p1 := Str.ofString "") ?F ?N ?y ?z ?e ?_; (case F => k_asm); (case N => k_asm); (case y => decide); (case z => exact Nat.le_of_ble_eq_true rfl); (case e => decide +kernel); intro D' h' k' t1' F' N' l1; (try k_lt l1); (try dsimp only); (try k_sweep)))))
local macro_rules | `(tactic| walk_at "call builtin:str.split") => `(tactic| (k_here; (with_reducible show wpAny _ _ (call (Value.builtin "str.split") [Value.str _ _, Value.str _ _, Value.int _ _]) _ _ _); k_dflt (first
  | (refine' splitM_2 (p1 := Str.ofString "de") (p2 := Str.ofString "UTF-8") ?F ?N ?y ?k ?z ?e ?_; (case k => decide); (case F => k_asm); (case N => k_asm); (case y => decide); (case z => exact Nat.le_of_ble_eq_true rfl); (case e => decide +kernel); intro D' h' k' t1' t2' F' N' l1; (try k_lt l1); (try dsimp only); (try k_sweep))
  | (refine' splitM_2 (p1 := Str.ofString "fr_ca") (p2 := Str.ofString "UTF-8") ?F ?N ?y ?k ?z ?e ?_; (case k => decide); (case F => k_asm); (case N => k_asm); (case y => decide); (case z => exact Nat.le_of_ble_eq_true rfl); (case e => decide +kernel); intro D' h' k' t1' t2' F' N' l1; (try k_lt l1); (try dsimp only); (try k_sweep))
  | (refine' splitM_2 (p1 := Str.ofString "it_ch") (p2 := Str.ofString "UTF-8") ?F ?N ?y ?k ?z ?e ?_; (case k => decide); (case F => k_asm); (case N => k_asm); (case y => decide); (case z => exact Nat.le_of_ble_eq_true rfl); (case e => decide +kernel); intro D' h' k' t1' t2' F' N' l1; (try k_lt l1); (try dsimp only); (try k_sweep)))))
set_option maxHeartbeats 4000000 in
theorem parse_fr {w : World} {mg mb : Str → Option Value} {loose : List Str} {mean : ExcName → Option Value} {base : Heap} (KB : (hd.heap_39 w.params).In base) (TB : Top hd.view_39 loose mean mg mb base)
    {L fa cd : Addr} {g₀ g : Heap} (Gn : Gnd w mg mb loose mean base (callerA.deeper (lawEnv L fa cd)) [lawEnv L fa cd] g₀ g) {s : Shared} {L' a I v d : Addr} {cdv : Value} {it o : Obj} {vs : List Value} {n : Nat} {m₀ : Str → Option Value} {t : Tok}
    (F : Fr g L' s.heap (fun y => if y = Str.ofString "locale" then some (.str (Str.ofString "fr_ca.UTF-8") t) else m₀ y)) (N : News g L' s.heap [(I, it), (v, tupObj vs n), (d, o)]) :
    wpAny (model PySem.Challenge.rw_nk0004_01.row.prog w) ((callerA.deeper (lawEnv L fa cd)).deeper (dlEnv L' a cdv)) (execs (dlText.drop 2) (dlEnv L' a cdv))
      (TextEnds w mg mb loose mean base (callerA.deeper (lawEnv L fa cd)) [lawEnv L fa cd] g₀ L' s [(I, it), (v, tupObj vs n), (d, o)] m₀ (some (Str.ofString "fr_CA"))) (fun _ _ => False) s := by
  revert KB
  w_top off
  k_fill
  intro KB
  obtain ⟨T0, B, KX, T, D⟩ := Gn
  conv in (List.drop 2 dlText) => whnf
  generalize hQ : TextEnds w mg mb loose mean base _ _ g₀ L' s _ m₀ _ = Q
  k_steps
  all_goals (subst hQ; first
    | (refine' TextEnds.ret ⟨T0, B, KX, T, D⟩ ?eF ?eN ?eS; (case eF => assumption); (case eN => assumption); (case eS => intro p hp; repeat (first | exact hp | refine List.mem_cons_of_mem _ ?_)))
    | (refine' TextEnds.next ⟨?e1, ?e2, ?e3, ?e4, ?e5⟩ ?eF ?eN ?eS; (case e1 => assumption); (case e2 => assumption); (case e3 => assumption); (case e4 => assumption); (case e5 => assumption); (case eF => assumption); (case eN => assumption); (case eS => intro p hp; repeat (first | exact hp | refine List.mem_cons_of_mem _ ?_))))
set_option maxHeartbeats 4000000 in
theorem parse_eu {w : World} {mg mb : Str → Option Value} {loose : List Str} {mean : ExcName → Option Value} {base : Heap} (KB : (hd.heap_39 w.params).In base) (TB : Top hd.view_39 loose mean mg mb base)
    {L fa cd : Addr} {g₀ g : Heap} (Gn : Gnd w mg mb loose mean base (callerA.deeper (lawEnv L fa cd)) [lawEnv L fa cd] g₀ g) {s : Shared} {L' a I v d : Addr} {cdv : Value} {it o : Obj} {vs : List Value} {n : Nat} {m₀ : Str → Option Value} {t : Tok}
    (F : Fr g L' s.heap (fun y => if y = Str.ofString "locale" then some (.str (Str.ofString "it_IT@euro") t) else m₀ y)) (N : News g L' s.heap [(I, it), (v, tupObj vs n), (d, o)]) :
    wpAny (model PySem.Challenge.rw_nk0004_01.row.prog w) ((callerA.deeper (lawEnv L fa cd)).deeper (dlEnv L' a cdv)) (execs (dlText.drop 2) (dlEnv L' a cdv))
      (TextEnds w mg mb loose mean base (callerA.deeper (lawEnv L fa cd)) [lawEnv L fa cd] g₀ L' s [(I, it), (v, tupObj vs n), (d, o)] m₀ (some (Str.ofString "it_IT@euro"))) (fun _ _ => False) s := by
  revert KB
  w_top off
  k_fill
  intro KB
  obtain ⟨T0, B, KX, T, D⟩ := Gn
  conv in (List.drop 2 dlText) => whnf
  generalize hQ : TextEnds w mg mb loose mean base _ _ g₀ L' s _ m₀ _ = Q
  k_steps
  all_goals (subst hQ; first
    | (refine' TextEnds.ret ⟨T0, B, KX, T, D⟩ ?eF ?eN ?eS; (case eF => assumption); (case eN => assumption); (case eS => intro p hp; repeat (first | exact hp | refine List.mem_cons_of_mem _ ?_)))
    | (refine' TextEnds.next ⟨?e1, ?e2, ?e3, ?e4, ?e5⟩ ?eF ?eN ?eS; (case e1 => assumption); (case e2 => assumption); (case e3 => assumption); (case e4 => assumption); (case e5 => assumption); (case eF => assumption); (case eN => assumption); (case eS => intro p hp; repeat (first | exact hp | refine List.mem_cons_of_mem _ ?_))))
set_option maxHeartbeats 4000000 in
theorem parse_ch {w : World} {mg mb : Str → Option Value} {loose : List Str} {mean : ExcName → Option Value} {base : Heap} (KB : (hd.heap_39 w.params).In base) (TB : Top hd.view_39 loose mean mg mb base)
    {L fa cd : Addr} {g₀ g : Heap} (Gn : Gnd w mg mb loose mean base (callerA.deeper (lawEnv L fa cd)) [lawEnv L fa cd] g₀ g) {s : Shared} {L' a I v d : Addr} {cdv : Value} {it o : Obj} {vs : List Value} {n : Nat} {m₀ : Str → Option Value} {t : Tok}
    (F : Fr g L' s.heap (fun y => if y = Str.ofString "locale" then some (.str (Str.ofString "it_ch.UTF-8") t) else m₀ y)) (N : News g L' s.heap [(I, it), (v, tupObj vs n), (d, o)]) :
    wpAny (model PySem.Challenge.rw_nk0004_01.row.prog w) ((callerA.deeper (lawEnv L fa cd)).deeper (dlEnv L' a cdv)) (execs (dlText.drop 2) (dlEnv L' a cdv))
      (TextEnds w mg mb loose mean base (callerA.deeper (lawEnv L fa cd)) [lawEnv L fa cd] g₀ L' s [(I, it), (v, tupObj vs n), (d, o)] m₀ (some (Str.ofString "it_CH"))) (fun _ _ => False) s := by
  revert KB
  w_top off
  k_fill
  intro KB
  obtain ⟨T0, B, KX, T, D⟩ := Gn
  conv in (List.drop 2 dlText) => whnf
  generalize hQ : TextEnds w mg mb loose mean base _ _ g₀ L' s _ m₀ _ = Q
  k_steps
  all_goals (subst hQ; first
    | (refine' TextEnds.ret ⟨T0, B, KX, T, D⟩ ?eF ?eN ?eS; (case eF => assumption); (case eN => assumption); (case eS => intro p hp; repeat (first | exact hp | refine List.mem_cons_of_mem _ ?_)))
    | (refine' TextEnds.next ⟨?e1, ?e2, ?e3, ?e4, ?e5⟩ ?eF ?eN ?eS; (case e1 => assumption); (case e2 => assumption); (case e3 => assumption); (case e4 => assumption); (case e5 => assumption); (case eF => assumption); (case eN => assumption); (case eS => intro p hp; repeat (first | exact hp | refine List.mem_cons_of_mem _ ?_))))
set_option maxHeartbeats 4000000 in
theorem parse_zh {w : World} {mg mb : Str → Option Value} {loose : List Str} {mean : ExcName → Option Value} {base : Heap} (KB : (hd.heap_39 w.params).In base) (TB : Top hd.view_39 loose mean mg mb base)
    {L fa cd : Addr} {g₀ g : Heap} (Gn : Gnd w mg mb loose mean base (callerA.deeper (lawEnv L fa cd)) [lawEnv L fa cd] g₀ g) {s : Shared} {L' a I v d : Addr} {cdv : Value} {it o : Obj} {vs : List Value} {n : Nat} {m₀ : Str → Option Value} {t : Tok}
    (F : Fr g L' s.heap (fun y => if y = Str.ofString "locale" then some (.str (Str.ofString "zh_hans_cn") t) else m₀ y)) (N : News g L' s.heap [(I, it), (v, tupObj vs n), (d, o)]) :
    wpAny (model PySem.Challenge.rw_nk0004_01.row.prog w) ((callerA.deeper (lawEnv L fa cd)).deeper (dlEnv L' a cdv)) (execs (dlText.drop 2) (dlEnv L' a cdv))
      (TextEnds w mg mb loose mean base (callerA.deeper (lawEnv L fa cd)) [lawEnv L fa cd] g₀ L' s [(I, it), (v, tupObj vs n), (d, o)] m₀ (some (Str.ofString "zh_Hans_CN"))) (fun _ _ => False) s := by
  revert KB
  w_top off
  k_fill
  intro KB
  obtain ⟨T0, B, KX, T, D⟩ := Gn
  conv in (List.drop 2 dlText) => whnf
  generalize hQ : TextEnds w mg mb loose mean base _ _ g₀ L' s _ m₀ _ = Q
  k_steps
  all_goals (subst hQ; first
    | (refine' TextEnds.ret ⟨T0, B, KX, T, D⟩ ?eF ?eN ?eS; (case eF => assumption); (case eN => assumption); (case eS => intro p hp; repeat (first | exact hp | refine List.mem_cons_of_mem _ ?_)))
    | (refine' TextEnds.next ⟨?e1, ?e2, ?e3, ?e4, ?e5⟩ ?eF ?eN ?eS; (case e1 => assumption); (case e2 => assumption); (case e3 => assumption); (case e4 => assumption); (case e5 => assumption); (case eF => assumption); (case eN => assumption); (case eS => intro p hp; repeat (first | exact hp | refine List.mem_cons_of_mem _ ?_))))
end
end Mine
end
section
open PySem PySem.W PyProof.Rows PySem.Calls
set_option maxRecDepth 100000
namespace Mine
section
local macro_rules | `(tactic| walk_at "subscriptTail Name Constant ref int") => `(tactic| (k_here; k_dflt (refine' item_first ?N ?m ?_; (case N => k_asm); (case m => k_mem); k_whole)))
local macro_rules | `(tactic| walk_at "subscriptTail Call Attribute cons nil Constant ref int") => `(tactic| (k_here; k_dflt (refine' item_first ?N ?m ?_; (case N => k_asm); (case m => k_mem); k_whole)))
local macro_rules | `(tactic| walk_at "subscriptTail Name Slice ref ref") => `(tactic| (k_here; k_dflt (refine' slice_whole ?F ?N ?t ?k ?_ ?s ?g; (case F => k_asm); (case N => k_asm); (case t => exact News.isTup (by k_asm) (by k_mem)); (case k => first | exact Int.ofNat_le.mpr (Nat.le_of_ble_eq_true rfl) | (show ((4:Nat):Int) ≤ 5; decide) | (show ((5:Nat):Int) ≤ 5; decide)); (case s => with_unfolding_all rfl); (case g => intro _; with_unfolding_all rfl)); intro h' F' N'; (try dsimp only); (try k_sweep)))
local macro_rules | `(tactic| walk_at "binaryOp Mult ref int") => `(tactic| (k_here; (with_reducible show wpAny _ _ (binaryOp Operator.Mult (Value.ref _) (Value.int _ _)) _ _ _); k_dflt (refine' mul_tup1 ?N ?m ?x ?_; (case N => k_asm); (case m => k_mem); (case x => decide); k_whole)))
local macro_rules | `(tactic| walk_at "binaryOp Mult ref int") => `(tactic| (k_here; (with_reducible show wpAny _ _ (binaryOp Operator.Mult (Value.ref _) (Value.int _ _)) _ _ _); k_dflt (refine' mul_tup0 ?F ?N ?m ?x ?_; (case F => k_asm); (case N => k_asm); (case m => k_mem); (case x => decide)); intro D' h' F' N' l1; (try k_lt l1); (try dsimp only); (try k_sweep)))
local macro_rules | `(tactic| walk_at "pyIter ref") => `(tactic| (k_here; k_dflt (refine' comp_lit (ws := ?cw) ?chh ?ck ?cx ?cd ?cF ?cN ?cm ?cv ?cz ?ce ?_; (case chh => rfl); (case cF => k_asm); (case cN => k_asm); (case cm => k_mem); (case ck => rfl); (case cx => rfl); (case cd => decide); (case cv => rfl); (case cz => rfl); (case ce => with_unfolding_all first | exact (rfl : _ = [_]) | exact (rfl : _ = [_, _]) | exact (rfl : _ = [_, _, _]))); intro D' k' h' tk' F' N' l1; (try dsimp only); (try k_sweep)))
local macro_rules | `(tactic| walk_at "execs cons") => `(tactic| (k_here; dsimp only; walk_at "execs cons"))
local macro_rules | `(tactic| walk_at "pyReprObj str") => `(tactic| (k_here; (first | refine repr_lit (x := Str.ofString "sv-se") (y := Str.ofString "'sv-se'") (by decide +kernel) (by decide) ?_ | refine repr_lit (x := Str.ofString "not_a_locale") (y := Str.ofString "'not_a_locale'") (by decide +kernel) (by decide) ?_); (try dsimp only)))
local macro_rules | `(tactic| walk_at "ite") => `(tactic| (k_closed; k_dflt (first | refine ite_pos (by decide +kernel) ?_ | refine ite_neg (by decide +kernel) ?_)))
local macro_rules | `(tactic| walk_at "call builtin:str.split") => `(tactic| (k_here; (with_reducible show wpAny _ _ (call (Value.builtin "str.split") [Value.str _ _, Value.str _ _]) _ _ _); k_dflt (first
  | (refine' split_3 (p1 := Str.ofString "en") (p2 := Str.ofString "US") (p3 := Str.ofString "POSIX") ?F ?N ?y ?z ?e ?_; (case F => k_asm); (case N => k_asm); (case y => decide); (case z => exact Nat.le_of_ble_eq_true rfl); (case e => decide +kernel); intro D' h' k' t1' t2' t3' F' N' l1; (try k_lt l1); (try dsimp only); (try k_sweep))
  | (refine' split_3 (p1 := Str.ofString "zh") (p2 := Str.ofString "hans") (p3 := Str.ofString "cn") ?F ?N ?y ?z ?e ?_; (case F => k_asm); (case N => k_asm); (case y => decide); (case z => exact Nat.le_of_ble_eq_true rfl); (case e => decide +kernel); intro D' h' k' t1' t2' t3' F' N' l1; (try k_lt l1); (try dsimp only); (try k_sweep))
  | (refine' split_3 (p1 := Str.ofString "not") (p2 := Str.ofString "a") (p3 := Str.ofString "locale") ?F ?N ?y ?z ?e ?_; (case F => k_asm); (case N => k_asm); (case y => decide); (case z => exact Nat.le_of_ble_eq_true rfl); (case e => decide +kernel); intro D' h' k' t1' t2' t3' F' N' l1; (try k_lt l1); (try dsimp only); (try k_sweep))
  | (refine' split_2 (p1 := Str.ofString "fr") (p2 := Str.ofString "ca") ?F ?N ?y ?z ?e ?_; (case F => k_asm); (case N => k_asm); (case y => decide); (case z => exact Nat.le_of_ble_eq_true rfl); (case e => decide +kernel); intro D' h' k' t1' t2' F' N' l1; (try k_lt l1); (try dsimp only); (try k_sweep))
  | (refine' split_2 (p1 := Str.ofString "de") (p2 := Str.ofString "DE") ?F ?N ?y ?z ?e ?_; (case F => k_asm); (case N => k_asm); (case y => decide); (case z => exact Nat.le_of_ble_eq_true rfl); (case e => decide +kernel); intro D' h' k' t1' t2' F' N' l1; (try k_lt l1); (try dsimp only); (try k_sweep))
  | (refine' split_2 (p1 := Str.ofString "it") (p2 := Str.ofString "IT") ?F ?N ?y ?z ?e ?_; (case F => k_asm); (case N => k_asm); (case y => decide); (case z => exact Nat.le_of_ble_eq_true rfl); (case e => decide +kernel); intro D' h' k' t1' t2' F' N' l1; (try k_lt l1); (try dsimp only); (try k_sweep))
  | (refine' split_2 (p1 := Str.ofString "it") (p2 := Str.ofString "ch") ?F ?N ?y ?z ?e ?_; (case F => k_asm); (case N => k_asm); (case y => decide); (case z => exact Nat.le_of_ble_eq_true rfl); (case e => decide +kernel); intro D' h' k' t1' t2' F' N' l1; (try k_lt l1); (try dsimp only); (try k_sweep))
  | (refine' split_2 (p1 := Str.ofString "de") (p2 := Str.ofString "UTF-8") ?F ?N ?y ?z ?e ?_; (case F => k_asm); (case N => k_asm); (case y => decide); (case z => exact Nat.le_of_ble_eq_true rfl); (case e => decide +kernel); intro D' h' k' t1' t2' F' N' l1; (try k_lt l1); (try dsimp only); (try k_sweep))
  | (refine' split_2 (p1 := Str.ofString "fr_ca") (p2 := Str.ofString "UTF-8") ?F ?N ?y ?z ?e ?_; (case F => k_asm); (case N => k_asm); (case y => decide); (case z => exact Nat.le_of_ble_eq_true rfl); (case e => decide +kernel); intro D' h' k' t1' t2' F' N' l1; (try k_lt l1); (try dsimp only); (try k_sweep))
  | (refine' split_2 (p1 := Str.ofString "it_ch") (p2 := Str.ofString "UTF-8") ?F ?N ?y ?z ?e ?_; (case F => k_asm); (case N => k_asm); (case y => decide); (case z => exact Nat.le_of_ble_eq_true rfl); (case e => decide +kernel); intro D' h' k' t1' t2' F' N' l1; (try k_lt l1); (try dsimp only); (try k_sweep))
  | (refine' split_2 (p1 := Str.ofString "POSIX") (p2 := Str.ofString "UTF-8") ?F ?N ?y ?z ?e ?_; (case F => k_asm); (case N => k_asm); (case y => decide); (case z => exact Nat.le_of_ble_eq_true rfl); (case e => decide +kernel); intro D' h' k' t1' t2' F' N' l1; (try k_lt l1); (try dsimp only); (try k_sweep))
  | (refine' split_1 (p1 := Str.ofString "de") ?F ?N ?y ?z ?e ?_; (case F => k_asm); (case N => k_asm); (case y => decide); (case z => exact Nat.le_of_ble_eq_true rfl); (case e => decide +kernel); intro D' h' k' t1' F' N' l1; (try k_lt l1); (try dsimp only); (try k_sweep))
  | (refine' split_1 (p1 := Str.ofString "sv-SE") ?F ?N ?y ?z ?e ?_; (case F => k_asm); (case N => k_asm); (case y => decide); (case z => exact Nat.le_of_ble_eq_true rfl); (case e => decide +kernel); intro D' h' k' t1' F' N' l1; (try k_lt l1); (try dsimp only); (try k_sweep))
  | (refine' split_1 (p1 := Str.ofString "C") ?F ?N ?y ?z ?e ?_; (case F => k_asm); (case N => k_asm); (case y => decide); (case z => exact Nat.le_of_ble_eq_true rfl); (case e => decide +kernel); intro D' h' k' t1' F' N' l1; (try k_lt l1); (try dsimp only); (try k_sweep))
  | (refine' split_1 (p1 := Str.ofString "") ?F ?N ?y ?z ?e ?_; (case F => k_asm); (case N => k_asm); (case y => decide); (case z => exact Nat.le_of_ble_eq_true rfl); (case e => decide +kernel); intro D' h' k' t1' F' N' l1; (try k_lt l1); (try dsimp only); (try k_sweep)))))
local macro_rules | `(tactic| walk_at "call builtin:str.split") => `(tactic| (k_here; (with_reducible show wpAny _ _ (call (Value.builtin "str.split") [Value.str _ _, Value.str _ _, Value.int _ _]) _ _ _); k_dflt (first
  | (refine' splitM_2 (p1 := Str.ofString "de") (p2 := Str.ofString "UTF-8") ?F ?N ?y ?k ?z ?e ?_; (case k => decide); (case F => k_asm); (case N => k_asm); (case y => decide); (case z => exact Nat.le_of_ble_eq_true rfl); (case e => decide +kernel); intro D' h' k' t1' t2' F' N' l1; (try k_lt l1); (try dsimp only); (try k_sweep))
  | (refine' splitM_2 (p1 := Str.ofString "fr_ca") (p2 := Str.ofString "UTF-8") ?F ?N ?y ?k ?z ?e ?_; (case k => decide); (case F => k_asm); (case N => k_asm); (case y => decide); (case z => exact Nat.le_of_ble_eq_true rfl); (case e => decide +kernel); intro D' h' k' t1' t2' F' N' l1; (try k_lt l1); (try dsimp only); (try k_sweep))
  | (refine' splitM_2 (p1 := Str.ofString "it_ch") (p2 := Str.ofString "UTF-8") ?F ?N ?y ?k ?z ?e ?_; (case k => decide); (case F => k_asm); (case N => k_asm); (case y => decide); (case z => exact Nat.le_of_ble_eq_true rfl); (case e => decide +kernel); intro D' h' k' t1' t2' F' N' l1; (try k_lt l1); (try dsimp only); (try k_sweep)))))
set_option maxHeartbeats 4000000 in
theorem parse_du {w : World} {mg mb : Str → Option Value} {loose : List Str} {mean : ExcName → Option Value} {base : Heap} (KB : (hd.heap_39 w.params).In base) (TB : Top hd.view_39 loose mean mg mb base)
    {L fa cd : Addr} {g₀ g : Heap} (Gn : Gnd w mg mb loose mean base (callerA.deeper (lawEnv L fa cd)) [lawEnv L fa cd] g₀ g) {s : Shared} {L' a I v d : Addr} {cdv : Value} {it o : Obj} {vs : List Value} {n : Nat} {m₀ : Str → Option Value} {t : Tok}
    (F : Fr g L' s.heap (fun y => if y = Str.ofString "locale" then some (.str (Str.ofString "de.UTF-8") t) else m₀ y)) (N : News g L' s.heap [(I, it), (v, tupObj vs n), (d, o)]) :
    wpAny (model PySem.Challenge.rw_nk0004_01.row.prog w) ((callerA.deeper (lawEnv L fa cd)).deeper (dlEnv L' a cdv)) (execs (dlText.drop 2) (dlEnv L' a cdv))
      (TextEnds w mg mb loose mean base (callerA.deeper (lawEnv L fa cd)) [lawEnv L fa cd] g₀ L' s [(I, it), (v, tupObj vs n), (d, o)] m₀ (some (Str.ofString "de"))) (fun _ _ => False) s := by
  revert KB
  w_top off
  k_fill
  intro KB
  obtain ⟨T0, B, KX, T, D⟩ := Gn
  conv in (List.drop 2 dlText) => whnf
  generalize hQ : TextEnds w mg mb loose mean base _ _ g₀ L' s _ m₀ _ = Q
  k_steps
  all_goals (subst hQ; first
    | (refine' TextEnds.ret ⟨T0, B, KX, T, D⟩ ?eF ?eN ?eS; (case eF => assumption); (case eN => assumption); (case eS => intro p hp; repeat (first | exact hp | refine List.mem_cons_of_mem _ ?_)))
    | (refine' TextEnds.next ⟨?e1, ?e2, ?e3, ?e4, ?e5⟩ ?eF ?eN ?eS; (case e1 => assumption); (case e2 => assumption); (case e3 => assumption); (case e4 => assumption); (case e5 => assumption); (case eF => assumption); (case eN => assumption); (case eS => intro p hp; repeat (first | exact hp | refine List.mem_cons_of_mem _ ?_))))
set_option maxHeartbeats 4000000 in
theorem parse_sv {w : World} {mg mb : Str → Option Value} {loose : List Str} {mean : ExcName → Option Value} {base : Heap} (KB : (hd.heap_39 w.params).In base) (TB : Top hd.view_39 loose mean mg mb base)
    {L fa cd : Addr} {g₀ g : Heap} (Gn : Gnd w mg mb loose mean base (callerA.deeper (lawEnv L fa cd)) [lawEnv L fa cd] g₀ g) {s : Shared} {L' a I v d : Addr} {cdv : Value} {it o : Obj} {vs : List Value} {n : Nat} {m₀ : Str → Option Value} {t : Tok}
    (F : Fr g L' s.heap (fun y => if y = Str.ofString "locale" then some (.str (Str.ofString "sv-SE") t) else m₀ y)) (N : News g L' s.heap [(I, it), (v, tupObj vs n), (d, o)]) :
    wpAny (model PySem.Challenge.rw_nk0004_01.row.prog w) ((callerA.deeper (lawEnv L fa cd)).deeper (dlEnv L' a cdv)) (execs (dlText.drop 2) (dlEnv L' a cdv))
      (TextEnds w mg mb loose mean base (callerA.deeper (lawEnv L fa cd)) [lawEnv L fa cd] g₀ L' s [(I, it), (v, tupObj vs n), (d, o)] m₀ none) (fun _ _ => False) s := by
  revert KB
  w_top off
  k_fill
  intro KB
  obtain ⟨T0, B, KX, T, D⟩ := Gn
  conv in (List.drop 2 dlText) => whnf
  generalize hQ : TextEnds w mg mb loose mean base _ _ g₀ L' s _ m₀ _ = Q
  k_steps
  all_goals (subst hQ; first
    | (refine' TextEnds.ret ⟨T0, B, KX, T, D⟩ ?eF ?eN ?eS; (case eF => assumption); (case eN => assumption); (case eS => intro p hp; repeat (first | exact hp | refine List.mem_cons_of_mem _ ?_)))
    | (refine' TextEnds.next ⟨?e1, ?e2, ?e3, ?e4, ?e5⟩ ?eF ?eN ?eS; (case e1 => assumption); (case e2 => assumption); (case e3 => assumption); (case e4 => assumption); (case e5 => assumption); (case eF => assumption); (case eN => assumption); (case eS => intro p hp; repeat (first | exact hp | refine List.mem_cons_of_mem _ ?_))))
set_option maxHeartbeats 4000000 in
theorem parse_na {w : World} {mg mb : Str → Option Value} {loose : List Str} {mean : ExcName → Option Value} {base : Heap} (KB : (hd.heap_39 w.params).In base) (TB : Top hd.view_39 loose mean mg mb base)
    {L fa cd : Addr} {g₀ g : Heap} (Gn : Gnd w mg mb loose mean base (callerA.deeper (lawEnv L fa cd)) [lawEnv L fa cd] g₀ g) {s : Shared} {L' a I v d : Addr} {cdv : Value} {it o : Obj} {vs : List Value} {n : Nat} {m₀ : Str → Option Value} {t : Tok}
    (F : Fr g L' s.heap (fun y => if y = Str.ofString "locale" then some (.str (Str.ofString "not_a_locale") t) else m₀ y)) (N : News g L' s.heap [(I, it), (v, tupObj vs n), (d, o)]) :
    wpAny (model PySem.Challenge.rw_nk0004_01.row.prog w) ((callerA.deeper (lawEnv L fa cd)).deeper (dlEnv L' a cdv)) (execs (dlText.drop 2) (dlEnv L' a cdv))
      (TextEnds w mg mb loose mean base (callerA.deeper (lawEnv L fa cd)) [lawEnv L fa cd] g₀ L' s [(I, it), (v, tupObj vs n), (d, o)] m₀ none) (fun _ _ => False) s := by
  revert KB
  w_top off
  k_fill
  intro KB
  obtain ⟨T0, B, KX, T, D⟩ := Gn
  conv in (List.drop 2 dlText) => whnf
  generalize hQ : TextEnds w mg mb loose mean base _ _ g₀ L' s _ m₀ _ = Q
  k_steps
  all_goals (subst hQ; first
    | (refine' TextEnds.ret ⟨T0, B, KX, T, D⟩ ?eF ?eN ?eS; (case eF => assumption); (case eN => assumption); (case eS => intro p hp; repeat (first | exact hp | refine List.mem_cons_of_mem _ ?_)))
    | (refine' TextEnds.next ⟨?e1, ?e2, ?e3, ?e4, ?e5⟩ ?eF ?eN ?eS; (case e1 => assumption); (case e2 => assumption); (case e3 => assumption); (case e4 => assumption); (case e5 => assumption); (case eF => assumption); (case eN => assumption); (case eS => intro p hp; repeat (first | exact hp | refine List.mem_cons_of_mem _ ?_))))
end
end Mine
end
section
open PySem PySem.W PyProof.Rows PySem.Calls
set_option maxRecDepth 100000
namespace Mine

abbrev restM (nm cv av : Value) (vn d : Addr) : Str → Option Value := fun y => if y = Str.ofString "name" then some nm else if y = Str.ofString "varnames" then some (.ref vn) else if y = Str.ofString "category" then some cv else if y = Str.ofString "aliases" then some av else if y = Str.ofString "environ" then some (.ref d) else none
/-- what the rows ahead of the try leave: the text under locale -/
def Put (g : Heap) (L : Addr) (s : Shared) (led : List (Addr × Obj)) (m₀ : Str → Option Value) (x : Str) (f : Flow) (s' : Shared) : Prop :=
  f = .next ∧ ∃ h tk t, s' = { s with heap := h, toks := tk } ∧ Fr g L h (fun y => if y = Str.ofString "locale" then some (.str x t) else m₀ y) ∧ News g L h led
/-- the text that parse_locale gets, the p-th text being given -/
def alOf (b : Int) (p : Nat) : Str := if p = 1 ∨ p = 2 then Str.ofString "en_US_POSIX" else if b = 0 ∧ p = 3 then Str.ofString "de_DE" else if b = 1 ∧ p = 5 then Str.ofString "it_ch.UTF-8" else txAt p
theorem Put.intro {g h : Heap} {L : Addr} {s : Shared} {tk : Nat} {t : Tok} {led news : List (Addr × Obj)} {m₀ : Str → Option Value} {x : Str} (F : Fr g L h (fun y => if y = Str.ofString "locale" then some (.str x t) else m₀ y)) (N : News g L h news) (hs : ∀ p ∈ led, p ∈ news) :
    Put g L s led m₀ x .next { s with heap := h, toks := tk } := ⟨rfl, h, tk, t, rfl, F, fun p hp => N p (hs p hp)⟩
theorem Put.twice {g h : Heap} {L : Addr} {s : Shared} {tk : Nat} {t : Tok} {u : Value} {led news : List (Addr × Obj)} {m₀ : Str → Option Value} {x : Str} (F : Fr g L h (fun z => if z = Str.ofString "locale" then some (.str x t) else (fun y => if y = Str.ofString "locale" then some u else m₀ y) z)) (N : News g L h news) (hs : ∀ p ∈ led, p ∈ news) :
    Put g L s led m₀ x .next { s with heap := h, toks := tk } := ⟨rfl, h, tk, t, rfl, by rw [Mine.twice] at F; exact F, fun p hp => N p (hs p hp)⟩
end Mine
end
section
open PySem PySem.W PyProof.Rows PySem.Calls
set_option maxRecDepth 100000
namespace Mine
section
local macro_rules | `(tactic| walk_at "subscriptTail Name Constant ref int") => `(tactic| (k_here; k_dflt (refine' item_first ?N ?m ?_; (case N => k_asm); (case m => k_mem); k_whole)))
local macro_rules | `(tactic| walk_at "subscriptTail Call Attribute cons nil Constant ref int") => `(tactic| (k_here; k_dflt (refine' item_first ?N ?m ?_; (case N => k_asm); (case m => k_mem); k_whole)))
local macro_rules | `(tactic| walk_at "subscriptTail Name Slice ref ref") => `(tactic| (k_here; k_dflt (refine' slice_whole ?F ?N ?t ?k ?_ ?s ?g; (case F => k_asm); (case N => k_asm); (case t => exact News.isTup (by k_asm) (by k_mem)); (case k => first | exact Int.ofNat_le.mpr (Nat.le_of_ble_eq_true rfl) | (show ((4:Nat):Int) ≤ 5; decide) | (show ((5:Nat):Int) ≤ 5; decide)); (case s => with_unfolding_all rfl); (case g => intro _; with_unfolding_all rfl)); intro h' F' N'; (try dsimp only); (try k_sweep)))
local macro_rules | `(tactic| walk_at "binaryOp Mult ref int") => `(tactic| (k_here; (with_reducible show wpAny _ _ (binaryOp Operator.Mult (Value.ref _) (Value.int _ _)) _ _ _); k_dflt (refine' mul_tup1 ?N ?m ?x ?_; (case N => k_asm); (case m => k_mem); (case x => decide); k_whole)))
local macro_rules | `(tactic| walk_at "binaryOp Mult ref int") => `(tactic| (k_here; (with_reducible show wpAny _ _ (binaryOp Operator.Mult (Value.ref _) (Value.int _ _)) _ _ _); k_dflt (refine' mul_tup0 ?F ?N ?m ?x ?_; (case F => k_asm); (case N => k_asm); (case m => k_mem); (case x => decide)); intro D' h' F' N' l1; (try k_lt l1); (try dsimp only); (try k_sweep)))
local macro_rules | `(tactic| walk_at "pyIter ref") => `(tactic| (k_here; k_dflt (refine' comp_lit (ws := ?cw) ?chh ?ck ?cx ?cd ?cF ?cN ?cm ?cv ?cz ?ce ?_; (case chh => rfl); (case cF => k_asm); (case cN => k_asm); (case cm => k_mem); (case ck => rfl); (case cx => rfl); (case cd => decide); (case cv => rfl); (case cz => rfl); (case ce => with_unfolding_all first | exact (rfl : _ = [_]) | exact (rfl : _ = [_, _]) | exact (rfl : _ = [_, _, _]))); intro D' k' h' tk' F' N' l1; (try dsimp only); (try k_sweep)))
local macro_rules | `(tactic| walk_at "execs cons") => `(tactic| (k_here; dsimp only; walk_at "execs cons"))
local macro_rules | `(tactic| walk_at "pyReprObj str") => `(tactic| (k_here; (first | refine repr_lit (x := Str.ofString "sv-se") (y := Str.ofString "'sv-se'") (by decide +kernel) (by decide) ?_ | refine repr_lit (x := Str.ofString "not_a_locale") (y := Str.ofString "'not_a_locale'") (by decide +kernel) (by decide) ?_); (try dsimp only)))
local macro_rules | `(tactic| walk_at "ite") => `(tactic| (k_closed; k_dflt (first | refine ite_pos (by decide +kernel) ?_ | refine ite_neg (by decide +kernel) ?_)))
local macro_rules | `(tactic| walk_at "call builtin:str.split") => `(tactic| (k_here; (with_reducible show wpAny _ _ (call (Value.builtin "str.split") [Value.str _ _, Value.str _ _]) _ _ _); k_dflt (first
  | (refine' split_3 (p1 := Str.ofString "en") (p2 := Str.ofString "US") (p3 := Str.ofString "POSIX") ?F ?N ?y ?z ?e ?_; (case F => k_asm); (case N => k_asm); (case y => decide); (case z => exact Nat.le_of_ble_eq_true rfl); (case e => decide +kernel); intro D' h' k' t1' t2' t3' F' N' l1; (try k_lt l1); (try dsimp only); (try k_sweep))
  | (refine' split_3 (p1 := Str.ofString "zh") (p2 := Str.ofString "hans") (p3 := Str.ofString "cn") ?F ?N ?y ?z ?e ?_; (case F => k_asm); (case N => k_asm); (case y => decide); (case z => exact Nat.le_of_ble_eq_true rfl); (case e => decide +kernel); intro D' h' k' t1' t2' t3' F' N' l1; (try k_lt l1); (try dsimp only); (try k_sweep))
  | (refine' split_3 (p1 := Str.ofString "not") (p2 := Str.ofString "a") (p3 := Str.ofString "locale") ?F ?N ?y ?z ?e ?_; (case F => k_asm); (case N => k_asm); (case y => decide); (case z => exact Nat.le_of_ble_eq_true rfl); (case e => decide +kernel); intro D' h' k' t1' t2' t3' F' N' l1; (try k_lt l1); (try dsimp only); (try k_sweep))
  | (refine' split_2 (p1 := Str.ofString "fr") (p2 := Str.ofString "ca") ?F ?N ?y ?z ?e ?_; (case F => k_asm); (case N => k_asm); (case y => decide); (case z => exact Nat.le_of_ble_eq_true rfl); (case e => decide +kernel); intro D' h' k' t1' t2' F' N' l1; (try k_lt l1); (try dsimp only); (try k_sweep))
  | (refine' split_2 (p1 := Str.ofString "de") (p2 := Str.ofString "DE") ?F ?N ?y ?z ?e ?_; (case F => k_asm); (case N => k_asm); (case y => decide); (case z => exact Nat.le_of_ble_eq_true rfl); (case e => decide +kernel); intro D' h' k' t1' t2' F' N' l1; (try k_lt l1); (try dsimp only); (try k_sweep))
  | (refine' split_2 (p1 := Str.ofString "it") (p2 := Str.ofString "IT") ?F ?N ?y ?z ?e ?_; (case F => k_asm); (case N => k_asm); (case y => decide); (case z => exact Nat.le_of_ble_eq_true rfl); (case e => decide +kernel); intro D' h' k' t1' t2' F' N' l1; (try k_lt l1); (try dsimp only); (try k_sweep))
  | (refine' split_2 (p1 := Str.ofString "it") (p2 := Str.ofString "ch") ?F ?N ?y ?z ?e ?_; (case F => k_asm); (case N => k_asm); (case y => decide); (case z => exact Nat.le_of_ble_eq_true rfl); (case e => decide +kernel); intro D' h' k' t1' t2' F' N' l1; (try k_lt l1); (try dsimp only); (try k_sweep))
  | (refine' split_2 (p1 := Str.ofString "de") (p2 := Str.ofString "UTF-8") ?F ?N ?y ?z ?e ?_; (case F => k_asm); (case N => k_asm); (case y => decide); (case z => exact Nat.le_of_ble_eq_true rfl); (case e => decide +kernel); intro D' h' k' t1' t2' F' N' l1; (try k_lt l1); (try dsimp only); (try k_sweep))
  | (refine' split_2 (p1 := Str.ofString "fr_ca") (p2 := Str.ofString "UTF-8") ?F ?N ?y ?z ?e ?_; (case F => k_asm); (case N => k_asm); (case y => decide); (case z => exact Nat.le_of_ble_eq_true rfl); (case e => decide +kernel); intro D' h' k' t1' t2' F' N' l1; (try k_lt l1); (try dsimp only); (try k_sweep))
  | (refine' split_2 (p1 := Str.ofString "it_ch") (p2 := Str.ofString "UTF-8") ?F ?N ?y ?z ?e ?_; (case F => k_asm); (case N => k_asm); (case y => decide); (case z => exact Nat.le_of_ble_eq_true rfl); (case e => decide +kernel); intro D' h' k' t1' t2' F' N' l1; (try k_lt l1); (try dsimp only); (try k_sweep))
  | (refine' split_2 (p1 := Str.ofString "POSIX") (p2 := Str.ofString "UTF-8") ?F ?N ?y ?z ?e ?_; (case F => k_asm); (case N => k_asm); (case y => decide); (case z => exact Nat.le_of_ble_eq_true rfl); (case e => decide +kernel); intro D' h' k' t1' t2' F' N' l1; (try k_lt l1); (try dsimp only); (try k_sweep))
  | (refine' split_1 (p1 := Str.ofString "de") ?F ?N ?y ?z ?e ?_; (case F => k_asm); (case N => k_asm); (case y => decide); (case z => exact Nat.le_of_ble_eq_true rfl); (case e => decide +kernel); intro D' h' k' t1' F' N' l1; (try k_lt l1); (try dsimp only); (try k_sweep))
  | (refine' split_1 (p1 := Str.ofString "sv-SE") ?F ?N ?y ?z ?e ?_; (case F => k_asm); (case N => k_asm); (case y => decide); (case z => exact Nat.le_of_ble_eq_true rfl); (case e => decide +kernel); intro D' h' k' t1' F' N' l1; (try k_lt l1); (try dsimp only); (try k_sweep))
  | (refine' split_1 (p1 := Str.ofString "C") ?F ?N ?y ?z ?e ?_; (case F => k_asm); (case N => k_asm); (case y => decide); (case z => exact Nat.le_of_ble_eq_true rfl); (case e => decide +kernel); intro D' h' k' t1' F' N' l1; (try k_lt l1); (try dsimp only); (try k_sweep))
  | (refine' split_1 (p1 := Str.ofString "") ?F ?N ?y ?z ?e ?_; (case F => k_asm); (case N => k_asm); (case y => decide); (case z => exact Nat.le_of_ble_eq_true rfl); (case e => decide +kernel); intro D' h' k' t1' F' N' l1; (try k_lt l1); (try dsimp only); (try k_sweep)))))
local macro_rules | `(tactic| walk_at "call builtin:str.split") => `(tactic| (k_here; (with_reducible show wpAny _ _ (call (Value.builtin "str.split") [Value.str _ _, Value.str _ _, Value.int _ _]) _ _ _); k_dflt (first
  | (refine' splitM_2 (p1 := Str.ofString "de") (p2 := Str.ofString "UTF-8") ?F ?N ?y ?k ?z ?e ?_; (case k => decide); (case F => k_asm); (case N => k_asm); (case y => decide); (case z => exact Nat.le_of_ble_eq_true rfl); (case e => decide +kernel); intro D' h' k' t1' t2' F' N' l1; (try k_lt l1); (try dsimp only); (try k_sweep))
  | (refine' splitM_2 (p1 := Str.ofString "fr_ca") (p2 := Str.ofString "UTF-8") ?F ?N ?y ?k ?z ?e ?_; (case k => decide); (case F => k_asm); (case N => k_asm); (case y => decide); (case z => exact Nat.le_of_ble_eq_true rfl); (case e => decide +kernel); intro D' h' k' t1' t2' F' N' l1; (try k_lt l1); (try dsimp only); (try k_sweep))
  | (refine' splitM_2 (p1 := Str.ofString "it_ch") (p2 := Str.ofString "UTF-8") ?F ?N ?y ?k ?z ?e ?_; (case k => decide); (case F => k_asm); (case N => k_asm); (case y => decide); (case z => exact Nat.le_of_ble_eq_true rfl); (case e => decide +kernel); intro D' h' k' t1' t2' F' N' l1; (try k_lt l1); (try dsimp only); (try k_sweep)))))
set_option maxHeartbeats 4000000 in
theorem alias_0 {w : World} {mg mb : Str → Option Value} {loose : List Str} {mean : ExcName → Option Value} {base : Heap} (KB : (hd.heap_39 w.params).In base) (TB : Top hd.view_39 loose mean mg mb base)
    {L fa cd : Addr} {g₀ g : Heap} (Gn : Gnd w mg mb loose mean base (callerA.deeper (lawEnv L fa cd)) [lawEnv L fa cd] g₀ g) {s : Shared} {L' a I v d vn : Addr} {cdv nm cv av : Value} {it o : Obj} {vs : List Value} {n : Nat} {t : Tok} {b : Int} (ha : AlOk b av)
    (F : Fr g L' s.heap (fun y => if y = Str.ofString "locale" then some (.str (Str.ofString "") t) else if y = Str.ofString "name" then some nm else if y = Str.ofString "varnames" then some (.ref vn) else if y = Str.ofString "category" then some cv else if y = Str.ofString "aliases" then some av else if y = Str.ofString "environ" then some (.ref d) else none)) (N : News g L' s.heap [(I, it), (v, tupObj vs n), (d, o)]) :
    wpAny (model PySem.Challenge.rw_nk0004_01.row.prog w) ((callerA.deeper (lawEnv L fa cd)).deeper (dlEnv L' a cdv)) (execs ((dlText.drop 1).take 1) (dlEnv L' a cdv))
      (Put g L' s [(I, it), (v, tupObj vs n), (d, o)] (restM nm cv av vn d) (alOf b 0)) (fun _ _ => False) s := by
  revert KB
  w_top off
  k_fill
  intro KB
  obtain ⟨T0, B, KX, T, D⟩ := Gn
  conv in (List.take 1 (List.drop 1 dlText)) => (whnf; arg 2; whnf)
  generalize hQ : Put g L' s _ _ _ = Q
  rcases ha with ⟨hb, rfl⟩ | ⟨hb, rfl⟩ | ⟨hb, rfl⟩ <;> subst hb
  · k_steps
    all_goals (subst hQ; first
      | (refine' Put.intro ?eF ?eN ?eS; (case eF => assumption); (case eN => assumption); (case eS => intro p hp; repeat (first | exact hp | refine List.mem_cons_of_mem _ ?_)))
      | (refine' Put.twice ?eF ?eN ?eS; (case eF => assumption); (case eN => assumption); (case eS => intro p hp; repeat (first | exact hp | refine List.mem_cons_of_mem _ ?_))))
  · k_steps
    all_goals (subst hQ; first
      | (refine' Put.intro ?eF ?eN ?eS; (case eF => assumption); (case eN => assumption); (case eS => intro p hp; repeat (first | exact hp | refine List.mem_cons_of_mem _ ?_)))
      | (refine' Put.twice ?eF ?eN ?eS; (case eF => assumption); (case eN => assumption); (case eS => intro p hp; repeat (first | exact hp | refine List.mem_cons_of_mem _ ?_))))
  · k_steps
    all_goals (subst hQ; first
      | (refine' Put.intro ?eF ?eN ?eS; (case eF => assumption); (case eN => assumption); (case eS => intro p hp; repeat (first | exact hp | refine List.mem_cons_of_mem _ ?_)))
      | (refine' Put.twice ?eF ?eN ?eS; (case eF => assumption); (case eN => assumption); (case eS => intro p hp; repeat (first | exact hp | refine List.mem_cons_of_mem _ ?_))))
set_option maxHeartbeats 4000000 in
theorem alias_1 {w : World} {mg mb : Str → Option Value} {loose : List Str} {mean : ExcName → Option Value} {base : Heap} (KB : (hd.heap_39 w.params).In base) (TB : Top hd.view_39 loose mean mg mb base)
    {L fa cd : Addr} {g₀ g : Heap} (Gn : Gnd w mg mb loose mean base (callerA.deeper (lawEnv L fa cd)) [lawEnv L fa cd] g₀ g) {s : Shared} {L' a I v d vn : Addr} {cdv nm cv av : Value} {it o : Obj} {vs : List Value} {n : Nat} {t : Tok} {b : Int} (ha : AlOk b av)
    (F : Fr g L' s.heap (fun y => if y = Str.ofString "locale" then some (.str (Str.ofString "C") t) else if y = Str.ofString "name" then some nm else if y = Str.ofString "varnames" then some (.ref vn) else if y = Str.ofString "category" then some cv else if y = Str.ofString "aliases" then some av else if y = Str.ofString "environ" then some (.ref d) else none)) (N : News g L' s.heap [(I, it), (v, tupObj vs n), (d, o)]) :
    wpAny (model PySem.Challenge.rw_nk0004_01.row.prog w) ((callerA.deeper (lawEnv L fa cd)).deeper (dlEnv L' a cdv)) (execs ((dlText.drop 1).take 1) (dlEnv L' a cdv))
      (Put g L' s [(I, it), (v, tupObj vs n), (d, o)] (restM nm cv av vn d) (alOf b 1)) (fun _ _ => False) s := by
  revert KB
  w_top off
  k_fill
  intro KB
  obtain ⟨T0, B, KX, T, D⟩ := Gn
  conv in (List.take 1 (List.drop 1 dlText)) => (whnf; arg 2; whnf)
  generalize hQ : Put g L' s _ _ _ = Q
  rcases ha with ⟨hb, rfl⟩ | ⟨hb, rfl⟩ | ⟨hb, rfl⟩ <;> subst hb
  · k_steps
    all_goals (subst hQ; first
      | (refine' Put.intro ?eF ?eN ?eS; (case eF => assumption); (case eN => assumption); (case eS => intro p hp; repeat (first | exact hp | refine List.mem_cons_of_mem _ ?_)))
      | (refine' Put.twice ?eF ?eN ?eS; (case eF => assumption); (case eN => assumption); (case eS => intro p hp; repeat (first | exact hp | refine List.mem_cons_of_mem _ ?_))))
  · k_steps
    all_goals (subst hQ; first
      | (refine' Put.intro ?eF ?eN ?eS; (case eF => assumption); (case eN => assumption); (case eS => intro p hp; repeat (first | exact hp | refine List.mem_cons_of_mem _ ?_)))
      | (refine' Put.twice ?eF ?eN ?eS; (case eF => assumption); (case eN => assumption); (case eS => intro p hp; repeat (first | exact hp | refine List.mem_cons_of_mem _ ?_))))
  · k_steps
    all_goals (subst hQ; first
      | (refine' Put.intro ?eF ?eN ?eS; (case eF => assumption); (case eN => assumption); (case eS => intro p hp; repeat (first | exact hp | refine List.mem_cons_of_mem _ ?_)))
      | (refine' Put.twice ?eF ?eN ?eS; (case eF => assumption); (case eN => assumption); (case eS => intro p hp; repeat (first | exact hp | refine List.mem_cons_of_mem _ ?_))))
set_option maxHeartbeats 4000000 in
theorem alias_2 {w : World} {mg mb : Str → Option Value} {loose : List Str} {mean : ExcName → Option Value} {base : Heap} (KB : (hd.heap_39 w.params).In base) (TB : Top hd.view_39 loose mean mg mb base)
    {L fa cd : Addr} {g₀ g : Heap} (Gn : Gnd w mg mb loose mean base (callerA.deeper (lawEnv L fa cd)) [lawEnv L fa cd] g₀ g) {s : Shared} {L' a I v d vn : Addr} {cdv nm cv av : Value} {it o : Obj} {vs : List Value} {n : Nat} {t : Tok} {b : Int} (ha : AlOk b av)
    (F : Fr g L' s.heap (fun y => if y = Str.ofString "locale" then some (.str (Str.ofString "POSIX.UTF-8") t) else if y = Str.ofString "name" then some nm else if y = Str.ofString "varnames" then some (.ref vn) else if y = Str.ofString "category" then some cv else if y = Str.ofString "aliases" then some av else if y = Str.ofString "environ" then some (.ref d) else none)) (N : News g L' s.heap [(I, it), (v, tupObj vs n), (d, o)]) :
    wpAny (model PySem.Challenge.rw_nk0004_01.row.prog w) ((callerA.deeper (lawEnv L fa cd)).deeper (dlEnv L' a cdv)) (execs ((dlText.drop 1).take 1) (dlEnv L' a cdv))
      (Put g L' s [(I, it), (v, tupObj vs n), (d, o)] (restM nm cv av vn d) (alOf b 2)) (fun _ _ => False) s := by
  revert KB
  w_top off
  k_fill
  intro KB
  obtain ⟨T0, B, KX, T, D⟩ := Gn
  conv in (List.take 1 (List.drop 1 dlText)) => (whnf; arg 2; whnf)
  generalize hQ : Put g L' s _ _ _ = Q
  rcases ha with ⟨hb, rfl⟩ | ⟨hb, rfl⟩ | ⟨hb, rfl⟩ <;> subst hb
  · k_steps
    all_goals (subst hQ; first
      | (refine' Put.intro ?eF ?eN ?eS; (case eF => assumption); (case eN => assumption); (case eS => intro p hp; repeat (first | exact hp | refine List.mem_cons_of_mem _ ?_)))
      | (refine' Put.twice ?eF ?eN ?eS; (case eF => assumption); (case eN => assumption); (case eS => intro p hp; repeat (first | exact hp | refine List.mem_cons_of_mem _ ?_))))
  · k_steps
    all_goals (subst hQ; first
      | (refine' Put.intro ?eF ?eN ?eS; (case eF => assumption); (case eN => assumption); (case eS => intro p hp; repeat (first | exact hp | refine List.mem_cons_of_mem _ ?_)))
      | (refine' Put.twice ?eF ?eN ?eS; (case eF => assumption); (case eN => assumption); (case eS => intro p hp; repeat (first | exact hp | refine List.mem_cons_of_mem _ ?_))))
  · k_steps
    all_goals (subst hQ; first
      | (refine' Put.intro ?eF ?eN ?eS; (case eF => assumption); (case eN => assumption); (case eS => intro p hp; repeat (first | exact hp | refine List.mem_cons_of_mem _ ?_)))
      | (refine' Put.twice ?eF ?eN ?eS; (case eF => assumption); (case eN => assumption); (case eS => intro p hp; repeat (first | exact hp | refine List.mem_cons_of_mem _ ?_))))
set_option maxHeartbeats 4000000 in
theorem alias_3 {w : World} {mg mb : Str → Option Value} {loose : List Str} {mean : ExcName → Option Value} {base : Heap} (KB : (hd.heap_39 w.params).In base) (TB : Top hd.view_39 loose mean mg mb base)
    {L fa cd : Addr} {g₀ g : Heap} (Gn : Gnd w mg mb loose mean base (callerA.deeper (lawEnv L fa cd)) [lawEnv L fa cd] g₀ g) {s : Shared} {L' a I v d vn : Addr} {cdv nm cv av : Value} {it o : Obj} {vs : List Value} {n : Nat} {t : Tok} {b : Int} (ha : AlOk b av)
    (F : Fr g L' s.heap (fun y => if y = Str.ofString "locale" then some (.str (Str.ofString "de") t) else if y = Str.ofString "name" then some nm else if y = Str.ofString "varnames" then some (.ref vn) else if y = Str.ofString "category" then some cv else if y = Str.ofString "aliases" then some av else if y = Str.ofString "environ" then some (.ref d) else none)) (N : News g L' s.heap [(I, it), (v, tupObj vs n), (d, o)]) :
    wpAny (model PySem.Challenge.rw_nk0004_01.row.prog w) ((callerA.deeper (lawEnv L fa cd)).deeper (dlEnv L' a cdv)) (execs ((dlText.drop 1).take 1) (dlEnv L' a cdv))
      (Put g L' s [(I, it), (v, tupObj vs n), (d, o)] (restM nm cv av vn d) (alOf b 3)) (fun _ _ => False) s := by
  revert KB
  w_top off
  k_fill
  intro KB
  obtain ⟨T0, B, KX, T, D⟩ := Gn
  conv in (List.take 1 (List.drop 1 dlText)) => (whnf; arg 2; whnf)
  generalize hQ : Put g L' s _ _ _ = Q
  rcases ha with ⟨hb, rfl⟩ | ⟨hb, rfl⟩ | ⟨hb, rfl⟩ <;> subst hb
  · k_steps
    all_goals (subst hQ; first
      | (refine' Put.intro ?eF ?eN ?eS; (case eF => assumption); (case eN => assumption); (case eS => intro p hp; repeat (first | exact hp | refine List.mem_cons_of_mem _ ?_)))
      | (refine' Put.twice ?eF ?eN ?eS; (case eF => assumption); (case eN => assumption); (case eS => intro p hp; repeat (first | exact hp | refine List.mem_cons_of_mem _ ?_))))
  · k_steps
    all_goals (subst hQ; first
      | (refine' Put.intro ?eF ?eN ?eS; (case eF => assumption); (case eN => assumption); (case eS => intro p hp; repeat (first | exact hp | refine List.mem_cons_of_mem _ ?_)))
      | (refine' Put.twice ?eF ?eN ?eS; (case eF => assumption); (case eN => assumption); (case eS => intro p hp; repeat (first | exact hp | refine List.mem_cons_of_mem _ ?_))))
  · k_steps
    all_goals (subst hQ; first
      | (refine' Put.intro ?eF ?eN ?eS; (case eF => assumption); (case eN => assumption); (case eS => intro p hp; repeat (first | exact hp | refine List.mem_cons_of_mem _ ?_)))
      | (refine' Put.twice ?eF ?eN ?eS; (case eF => assumption); (case eN => assumption); (case eS => intro p hp; repeat (first | exact hp | refine List.mem_cons_of_mem _ ?_))))
set_option maxHeartbeats 4000000 in
theorem alias_4 {w : World} {mg mb : Str → Option Value} {loose : List Str} {mean : ExcName → Option Value} {base : Heap} (KB : (hd.heap_39 w.params).In base) (TB : Top hd.view_39 loose mean mg mb base)
    {L fa cd : Addr} {g₀ g : Heap} (Gn : Gnd w mg mb loose mean base (callerA.deeper (lawEnv L fa cd)) [lawEnv L fa cd] g₀ g) {s : Shared} {L' a I v d vn : Addr} {cdv nm cv av : Value} {it o : Obj} {vs : List Value} {n : Nat} {t : Tok} {b : Int} (ha : AlOk b av)
    (F : Fr g L' s.heap (fun y => if y = Str.ofString "locale" then some (.str (Str.ofString "fr_ca.UTF-8") t) else if y = Str.ofString "name" then some nm else if y = Str.ofString "varnames" then some (.ref vn) else if y = Str.ofString "category" then some cv else if y = Str.ofString "aliases" then some av else if y = Str.ofString "environ" then some (.ref d) else none)) (N : News g L' s.heap [(I, it), (v, tupObj vs n), (d, o)]) :
    wpAny (model PySem.Challenge.rw_nk0004_01.row.prog w) ((callerA.deeper (lawEnv L fa cd)).deeper (dlEnv L' a cdv)) (execs ((dlText.drop 1).take 1) (dlEnv L' a cdv))
      (Put g L' s [(I, it), (v, tupObj vs n), (d, o)] (restM nm cv av vn d) (alOf b 4)) (fun _ _ => False) s := by
  revert KB
  w_top off
  k_fill
  intro KB
  obtain ⟨T0, B, KX, T, D⟩ := Gn
  conv in (List.take 1 (List.drop 1 dlText)) => (whnf; arg 2; whnf)
  generalize hQ : Put g L' s _ _ _ = Q
  rcases ha with ⟨hb, rfl⟩ | ⟨hb, rfl⟩ | ⟨hb, rfl⟩ <;> subst hb
  · k_steps
    all_goals (subst hQ; first
      | (refine' Put.intro ?eF ?eN ?eS; (case eF => assumption); (case eN => assumption); (case eS => intro p hp; repeat (first | exact hp | refine List.mem_cons_of_mem _ ?_)))
      | (refine' Put.twice ?eF ?eN ?eS; (case eF => assumption); (case eN => assumption); (case eS => intro p hp; repeat (first | exact hp | refine List.mem_cons_of_mem _ ?_))))
  · k_steps
    all_goals (subst hQ; first
      | (refine' Put.intro ?eF ?eN ?eS; (case eF => assumption); (case eN => assumption); (case eS => intro p hp; repeat (first | exact hp | refine List.mem_cons_of_mem _ ?_)))
      | (refine' Put.twice ?eF ?eN ?eS; (case eF => assumption); (case eN => assumption); (case eS => intro p hp; repeat (first | exact hp | refine List.mem_cons_of_mem _ ?_))))
  · k_steps
    all_goals (subst hQ; first
      | (refine' Put.intro ?eF ?eN ?eS; (case eF => assumption); (case eN => assumption); (case eS => intro p hp; repeat (first | exact hp | refine List.mem_cons_of_mem _ ?_)))
      | (refine' Put.twice ?eF ?eN ?eS; (case eF => assumption); (case eN => assumption); (case eS => intro p hp; repeat (first | exact hp | refine List.mem_cons_of_mem _ ?_))))
end
end Mine
end
section
open PySem PySem.W PyProof.Rows PySem.Calls
set_option maxRecDepth 100000
namespace Mine
section
local macro_rules | `(tactic| walk_at "subscriptTail Name Constant ref int") => `(tactic| (k_here; k_dflt (refine' item_first ?N ?m ?_; (case N => k_asm); (case m => k_mem); k_whole)))
local macro_rules | `(tactic| walk_at "subscriptTail Call Attribute cons nil Constant ref int") => `(tactic| (k_here; k_dflt (refine' item_first ?N ?m ?_; (case N => k_asm); (case m => k_mem); k_whole)))
local macro_rules | `(tactic| walk_at "subscriptTail Name Slice ref ref") => `(tactic| (k_here; k_dflt (refine' slice_whole ?F ?N ?t ?k ?_ ?s ?g; (case F => k_asm); (case N => k_asm); (case t => exact News.isTup (by k_asm) (by k_mem)); (case k => first | exact Int.ofNat_le.mpr (Nat.le_of_ble_eq_true rfl) | (show ((4:Nat):Int) ≤ 5; decide) | (show ((5:Nat):Int) ≤ 5; decide)); (case s => with_unfolding_all rfl); (case g => intro _; with_unfolding_all rfl)); intro h' F' N'; (try dsimp only); (try k_sweep)))
local macro_rules | `(tactic| walk_at "binaryOp Mult ref int") => `(tactic| (k_here; (with_reducible show wpAny _ _ (binaryOp Operator.Mult (Value.ref _) (Value.int _ _)) _ _ _); k_dflt (refine' mul_tup1 ?N ?m ?x ?_; (case N => k_asm); (case m => k_mem); (case x => decide); k_whole)))
local macro_rules | `(tactic| walk_at "binaryOp Mult ref int") => `(tactic| (k_here; (with_reducible show wpAny _ _ (binaryOp Operator.Mult (Value.ref _) (Value.int _ _)) _ _ _); k_dflt (refine' mul_tup0 ?F ?N ?m ?x ?_; (case F => k_asm); (case N => k_asm); (case m => k_mem); (case x => decide)); intro D' h' F' N' l1; (try k_lt l1); (try dsimp only); (try k_sweep)))
local macro_rules | `(tactic| walk_at "pyIter ref") => `(tactic| (k_here; k_dflt (refine' comp_lit (ws := ?cw) ?chh ?ck ?cx ?cd ?cF ?cN ?cm ?cv ?cz ?ce ?_; (case chh => rfl); (case cF => k_asm); (case cN => k_asm); (case cm => k_mem); (case ck => rfl); (case cx => rfl); (case cd => decide); (case cv => rfl); (case cz => rfl); (case ce => with_unfolding_all first | exact (rfl : _ = [_]) | exact (rfl : _ = [_, _]) | exact (rfl : _ = [_, _, _]))); intro D' k' h' tk' F' N' l1; (try dsimp only); (try k_sweep)))
local macro_rules | `(tactic| walk_at "execs cons") => `(tactic| (k_here; dsimp only; walk_at "execs cons"))
local macro_rules | `(tactic| walk_at "pyReprObj str") => `(tactic| (k_here; (first | refine repr_lit (x := Str.ofString "sv-se") (y := Str.ofString "'sv-se'") (by decide +kernel) (by decide) ?_ | refine repr_lit (x := Str.ofString "not_a_locale") (y := Str.ofString "'not_a_locale'") (by decide +kernel) (by decide) ?_); (try dsimp only)))
local macro_rules | `(tactic| walk_at "ite") => `(tactic| (k_closed; k_dflt (first | refine ite_pos (by decide +kernel) ?_ | refine ite_neg (by decide +kernel) ?_)))
local macro_rules | `(tactic| walk_at "call builtin:str.split") => `(tactic| (k_here; (with_reducible show wpAny _ _ (call (Value.builtin "str.split") [Value.str _ _, Value.str _ _]) _ _ _); k_dflt (first
  | (refine' split_3 (p1 := Str.ofString "en") (p2 := Str.ofString "US") (p3 := Str.ofString "POSIX") ?F ?N ?y ?z ?e ?_; (case F => k_asm); (case N => k_asm); (case y => decide); (case z => exact Nat.le_of_ble_eq_true rfl); (case e => decide +kernel); intro D' h' k' t1' t2' t3' F' N' l1; (try k_lt l1); (try dsimp only); (try k_sweep))
  | (refine' split_3 (p1 := Str.ofString "zh") (p2 := Str.ofString "hans") (p3 := Str.ofString "cn") ?F ?N ?y ?z ?e ?_; (case F => k_asm); (case N => k_asm); (case y => decide); (case z => exact Nat.le_of_ble_eq_true rfl); (case e => decide +kernel); intro D' h' k' t1' t2' t3' F' N' l1; (try k_lt l1); (try dsimp only); (try k_sweep))
  | (refine' split_3 (p1 := Str.ofString "not") (p2 := Str.ofString "a") (p3 := Str.ofString "locale") ?F ?N ?y ?z ?e ?_; (case F => k_asm); (case N => k_asm); (case y => decide); (case z => exact Nat.le_of_ble_eq_true rfl); (case e => decide +kernel); intro D' h' k' t1' t2' t3' F' N' l1; (try k_lt l1); (try dsimp only); (try k_sweep))
  | (refine' split_2 (p1 := Str.ofString "fr") (p2 := Str.ofString "ca") ?F ?N ?y ?z ?e ?_; (case F => k_asm); (case N => k_asm); (case y => decide); (case z => exact Nat.le_of_ble_eq_true rfl); (case e => decide +kernel); intro D' h' k' t1' t2' F' N' l1; (try k_lt l1); (try dsimp only); (try k_sweep))
  | (refine' split_2 (p1 := Str.ofString "de") (p2 := Str.ofString "DE") ?F ?N ?y ?z ?e ?_; (case F => k_asm); (case N => k_asm); (case y => decide); (case z => exact Nat.le_of_ble_eq_true rfl); (case e => decide +kernel); intro D' h' k' t1' t2' F' N' l1; (try k_lt l1); (try dsimp only); (try k_sweep))
  | (refine' split_2 (p1 := Str.ofString "it") (p2 := Str.ofString "IT") ?F ?N ?y ?z ?e ?_; (case F => k_asm); (case N => k_asm); (case y => decide); (case z => exact Nat.le_of_ble_eq_true rfl); (case e => decide +kernel); intro D' h' k' t1' t2' F' N' l1; (try k_lt l1); (try dsimp only); (try k_sweep))
  | (refine' split_2 (p1 := Str.ofString "it") (p2 := Str.ofString "ch") ?F ?N ?y ?z ?e ?_; (case F => k_asm); (case N => k_asm); (case y => decide); (case z => exact Nat.le_of_ble_eq_true rfl); (case e => decide +kernel); intro D' h' k' t1' t2' F' N' l1; (try k_lt l1); (try dsimp only); (try k_sweep))
  | (refine' split_2 (p1 := Str.ofString "de") (p2 := Str.ofString "UTF-8") ?F ?N ?y ?z ?e ?_; (case F => k_asm); (case N => k_asm); (case y => decide); (case z => exact Nat.le_of_ble_eq_true rfl); (case e => decide +kernel); intro D' h' k' t1' t2' F' N' l1; (try k_lt l1); (try dsimp only); (try k_sweep))
  | (refine' split_2 (p1 := Str.ofString "fr_ca") (p2 := Str.ofString "UTF-8") ?F ?N ?y ?z ?e ?_; (case F => k_asm); (case N => k_asm); (case y => decide); (case z => exact Nat.le_of_ble_eq_true rfl); (case e => decide +kernel); intro D' h' k' t1' t2' F' N' l1; (try k_lt l1); (try dsimp only); (try k_sweep))
  | (refine' split_2 (p1 := Str.ofString "it_ch") (p2 := Str.ofString "UTF-8") ?F ?N ?y ?z ?e ?_; (case F => k_asm); (case N => k_asm); (case y => decide); (case z => exact Nat.le_of_ble_eq_true rfl); (case e => decide +kernel); intro D' h' k' t1' t2' F' N' l1; (try k_lt l1); (try dsimp only); (try k_sweep))
  | (refine' split_2 (p1 := Str.ofString "POSIX") (p2 := Str.ofString "UTF-8") ?F ?N ?y ?z ?e ?_; (case F => k_asm); (case N => k_asm); (case y => decide); (case z => exact Nat.le_of_ble_eq_true rfl); (case e => decide +kernel); intro D' h' k' t1' t2' F' N' l1; (try k_lt l1); (try dsimp only); (try k_sweep))
  | (refine' split_1 (p1 := Str.ofString "de") ?F ?N ?y ?z ?e ?_; (case F => k_asm); (case N => k_asm); (case y => decide); (case z => exact Nat.le_of_ble_eq_true rfl); (case e => decide +kernel); intro D' h' k' t1' F' N' l1; (try k_lt l1); (try dsimp only); (try k_sweep))
  | (refine' split_1 (p1 := Str.ofString "sv-SE") ?F ?N ?y ?z ?e ?_; (case F => k_asm); (case N => k_asm); (case y => decide); (case z => exact Nat.le_of_ble_eq_true rfl); (case e => decide +kernel); intro D' h' k' t1' F' N' l1; (try k_lt l1); (try dsimp only); (try k_sweep))
  | (refine' split_1 (p1 := Str.ofString "C") ?F ?N ?y ?z ?e ?_; (case F => k_asm); (case N => k_asm); (case y => decide); (case z => exact Nat.le_of_ble_eq_true rfl); (case e => decide +kernel); intro D' h' k' t1' F' N' l1; (try k_lt l1); (try dsimp only); (try k_sweep))
  | (refine' split_1 (p1 := Str.ofString "") ?F ?N ?y ?z ?e ?_; (case F => k_asm); (case N => k_asm); (case y => decide); (case z => exact Nat.le_of_ble_eq_true rfl); (case e => decide +kernel); intro D' h' k' t1' F' N' l1; (try k_lt l1); (try dsimp only); (try k_sweep)))))
local macro_rules | `(tactic| walk_at "call builtin:str.split") => `(tactic| (k_here; (with_reducible show wpAny _ _ (call (Value.builtin "str.split") [Value.str _ _, Value.str _ _, Value.int _ _]) _ _ _); k_dflt (first
  | (refine' splitM_2 (p1 := Str.ofString "de") (p2 := Str.ofString "UTF-8") ?F ?N ?y ?k ?z ?e ?_; (case k => decide); (case F => k_asm); (case N => k_asm); (case y => decide); (case z => exact Nat.le_of_ble_eq_true rfl); (case e => decide +kernel); intro D' h' k' t1' t2' F' N' l1; (try k_lt l1); (try dsimp only); (try k_sweep))
  | (refine' splitM_2 (p1 := Str.ofString "fr_ca") (p2 := Str.ofString "UTF-8") ?F ?N ?y ?k ?z ?e ?_; (case k => decide); (case F => k_asm); (case N => k_asm); (case y => decide); (case z => exact Nat.le_of_ble_eq_true rfl); (case e => decide +kernel); intro D' h' k' t1' t2' F' N' l1; (try k_lt l1); (try dsimp only); (try k_sweep))
  | (refine' splitM_2 (p1 := Str.ofString "it_ch") (p2 := Str.ofString "UTF-8") ?F ?N ?y ?k ?z ?e ?_; (case k => decide); (case F => k_asm); (case N => k_asm); (case y => decide); (case z => exact Nat.le_of_ble_eq_true rfl); (case e => decide +kernel); intro D' h' k' t1' t2' F' N' l1; (try k_lt l1); (try dsimp only); (try k_sweep)))))
set_option maxHeartbeats 4000000 in
theorem alias_5 {w : World} {mg mb : Str → Option Value} {loose : List Str} {mean : ExcName → Option Value} {base : Heap} (KB : (hd.heap_39 w.params).In base) (TB : Top hd.view_39 loose mean mg mb base)
    {L fa cd : Addr} {g₀ g : Heap} (Gn : Gnd w mg mb loose mean base (callerA.deeper (lawEnv L fa cd)) [lawEnv L fa cd] g₀ g) {s : Shared} {L' a I v d vn : Addr} {cdv nm cv av : Value} {it o : Obj} {vs : List Value} {n : Nat} {t : Tok} {b : Int} (ha : AlOk b av)
    (F : Fr g L' s.heap (fun y => if y = Str.ofString "locale" then some (.str (Str.ofString "it_IT@euro") t) else if y = Str.ofString "name" then some nm else if y = Str.ofString "varnames" then some (.ref vn) else if y = Str.ofString "category" then some cv else if y = Str.ofString "aliases" then some av else if y = Str.ofString "environ" then some (.ref d) else none)) (N : News g L' s.heap [(I, it), (v, tupObj vs n), (d, o)]) :
    wpAny (model PySem.Challenge.rw_nk0004_01.row.prog w) ((callerA.deeper (lawEnv L fa cd)).deeper (dlEnv L' a cdv)) (execs ((dlText.drop 1).take 1) (dlEnv L' a cdv))
      (Put g L' s [(I, it), (v, tupObj vs n), (d, o)] (restM nm cv av vn d) (alOf b 5)) (fun _ _ => False) s := by
  revert KB
  w_top off
  k_fill
  intro KB
  obtain ⟨T0, B, KX, T, D⟩ := Gn
  conv in (List.take 1 (List.drop 1 dlText)) => (whnf; arg 2; whnf)
  generalize hQ : Put g L' s _ _ _ = Q
  rcases ha with ⟨hb, rfl⟩ | ⟨hb, rfl⟩ | ⟨hb, rfl⟩ <;> subst hb
  · k_steps
    all_goals (subst hQ; first
      | (refine' Put.intro ?eF ?eN ?eS; (case eF => assumption); (case eN => assumption); (case eS => intro p hp; repeat (first | exact hp | refine List.mem_cons_of_mem _ ?_)))
      | (refine' Put.twice ?eF ?eN ?eS; (case eF => assumption); (case eN => assumption); (case eS => intro p hp; repeat (first | exact hp | refine List.mem_cons_of_mem _ ?_))))
  · k_steps
    all_goals (subst hQ; first
      | (refine' Put.intro ?eF ?eN ?eS; (case eF => assumption); (case eN => assumption); (case eS => intro p hp; repeat (first | exact hp | refine List.mem_cons_of_mem _ ?_)))
      | (refine' Put.twice ?eF ?eN ?eS; (case eF => assumption); (case eN => assumption); (case eS => intro p hp; repeat (first | exact hp | refine List.mem_cons_of_mem _ ?_))))
  · k_steps
    all_goals (subst hQ; first
      | (refine' Put.intro ?eF ?eN ?eS; (case eF => assumption); (case eN => assumption); (case eS => intro p hp; repeat (first | exact hp | refine List.mem_cons_of_mem _ ?_)))
      | (refine' Put.twice ?eF ?eN ?eS; (case eF => assumption); (case eN => assumption); (case eS => intro p hp; repeat (first | exact hp | refine List.mem_cons_of_mem _ ?_))))
set_option maxHeartbeats 4000000 in
theorem alias_6 {w : World} {mg mb : Str → Option Value} {loose : List Str} {mean : ExcName → Option Value} {base : Heap} (KB : (hd.heap_39 w.params).In base) (TB : Top hd.view_39 loose mean mg mb base)
    {L fa cd : Addr} {g₀ g : Heap} (Gn : Gnd w mg mb loose mean base (callerA.deeper (lawEnv L fa cd)) [lawEnv L fa cd] g₀ g) {s : Shared} {L' a I v d vn : Addr} {cdv nm cv av : Value} {it o : Obj} {vs : List Value} {n : Nat} {t : Tok} {b : Int} (ha : AlOk b av)
    (F : Fr g L' s.heap (fun y => if y = Str.ofString "locale" then some (.str (Str.ofString "zh_hans_cn") t) else if y = Str.ofString "name" then some nm else if y = Str.ofString "varnames" then some (.ref vn) else if y = Str.ofString "category" then some cv else if y = Str.ofString "aliases" then some av else if y = Str.ofString "environ" then some (.ref d) else none)) (N : News g L' s.heap [(I, it), (v, tupObj vs n), (d, o)]) :
    wpAny (model PySem.Challenge.rw_nk0004_01.row.prog w) ((callerA.deeper (lawEnv L fa cd)).deeper (dlEnv L' a cdv)) (execs ((dlText.drop 1).take 1) (dlEnv L' a cdv))
      (Put g L' s [(I, it), (v, tupObj vs n), (d, o)] (restM nm cv av vn d) (alOf b 6)) (fun _ _ => False) s := by
  revert KB
  w_top off
  k_fill
  intro KB
  obtain ⟨T0, B, KX, T, D⟩ := Gn
  conv in (List.take 1 (List.drop 1 dlText)) => (whnf; arg 2; whnf)
  generalize hQ : Put g L' s _ _ _ = Q
  rcases ha with ⟨hb, rfl⟩ | ⟨hb, rfl⟩ | ⟨hb, rfl⟩ <;> subst hb
  · k_steps
    all_goals (subst hQ; first
      | (refine' Put.intro ?eF ?eN ?eS; (case eF => assumption); (case eN => assumption); (case eS => intro p hp; repeat (first | exact hp | refine List.mem_cons_of_mem _ ?_)))
      | (refine' Put.twice ?eF ?eN ?eS; (case eF => assumption); (case eN => assumption); (case eS => intro p hp; repeat (first | exact hp | refine List.mem_cons_of_mem _ ?_))))
  · k_steps
    all_goals (subst hQ; first
      | (refine' Put.intro ?eF ?eN ?eS; (case eF => assumption); (case eN => assumption); (case eS => intro p hp; repeat (first | exact hp | refine List.mem_cons_of_mem _ ?_)))
      | (refine' Put.twice ?eF ?eN ?eS; (case eF => assumption); (case eN => assumption); (case eS => intro p hp; repeat (first | exact hp | refine List.mem_cons_of_mem _ ?_))))
  · k_steps
    all_goals (subst hQ; first
      | (refine' Put.intro ?eF ?eN ?eS; (case eF => assumption); (case eN => assumption); (case eS => intro p hp; repeat (first | exact hp | refine List.mem_cons_of_mem _ ?_)))
      | (refine' Put.twice ?eF ?eN ?eS; (case eF => assumption); (case eN => assumption); (case eS => intro p hp; repeat (first | exact hp | refine List.mem_cons_of_mem _ ?_))))
set_option maxHeartbeats 4000000 in
theorem alias_7 {w : World} {mg mb : Str → Option Value} {loose : List Str} {mean : ExcName → Option Value} {base : Heap} (KB : (hd.heap_39 w.params).In base) (TB : Top hd.view_39 loose mean mg mb base)
    {L fa cd : Addr} {g₀ g : Heap} (Gn : Gnd w mg mb loose mean base (callerA.deeper (lawEnv L fa cd)) [lawEnv L fa cd] g₀ g) {s : Shared} {L' a I v d vn : Addr} {cdv nm cv av : Value} {it o : Obj} {vs : List Value} {n : Nat} {t : Tok} {b : Int} (ha : AlOk b av)
    (F : Fr g L' s.heap (fun y => if y = Str.ofString "locale" then some (.str (Str.ofString "sv-SE") t) else if y = Str.ofString "name" then some nm else if y = Str.ofString "varnames" then some (.ref vn) else if y = Str.ofString "category" then some cv else if y = Str.ofString "aliases" then some av else if y = Str.ofString "environ" then some (.ref d) else none)) (N : News g L' s.heap [(I, it), (v, tupObj vs n), (d, o)]) :
    wpAny (model PySem.Challenge.rw_nk0004_01.row.prog w) ((callerA.deeper (lawEnv L fa cd)).deeper (dlEnv L' a cdv)) (execs ((dlText.drop 1).take 1) (dlEnv L' a cdv))
      (Put g L' s [(I, it), (v, tupObj vs n), (d, o)] (restM nm cv av vn d) (alOf b 7)) (fun _ _ => False) s := by
  revert KB
  w_top off
  k_fill
  intro KB
  obtain ⟨T0, B, KX, T, D⟩ := Gn
  conv in (List.take 1 (List.drop 1 dlText)) => (whnf; arg 2; whnf)
  generalize hQ : Put g L' s _ _ _ = Q
  rcases ha with ⟨hb, rfl⟩ | ⟨hb, rfl⟩ | ⟨hb, rfl⟩ <;> subst hb
  · k_steps
    all_goals (subst hQ; first
      | (refine' Put.intro ?eF ?eN ?eS; (case eF => assumption); (case eN => assumption); (case eS => intro p hp; repeat (first | exact hp | refine List.mem_cons_of_mem _ ?_)))
      | (refine' Put.twice ?eF ?eN ?eS; (case eF => assumption); (case eN => assumption); (case eS => intro p hp; repeat (first | exact hp | refine List.mem_cons_of_mem _ ?_))))
  · k_steps
    all_goals (subst hQ; first
      | (refine' Put.intro ?eF ?eN ?eS; (case eF => assumption); (case eN => assumption); (case eS => intro p hp; repeat (first | exact hp | refine List.mem_cons_of_mem _ ?_)))
      | (refine' Put.twice ?eF ?eN ?eS; (case eF => assumption); (case eN => assumption); (case eS => intro p hp; repeat (first | exact hp | refine List.mem_cons_of_mem _ ?_))))
  · k_steps
    all_goals (subst hQ; first
      | (refine' Put.intro ?eF ?eN ?eS; (case eF => assumption); (case eN => assumption); (case eS => intro p hp; repeat (first | exact hp | refine List.mem_cons_of_mem _ ?_)))
      | (refine' Put.twice ?eF ?eN ?eS; (case eF => assumption); (case eN => assumption); (case eS => intro p hp; repeat (first | exact hp | refine List.mem_cons_of_mem _ ?_))))
set_option maxHeartbeats 4000000 in
theorem alias_8 {w : World} {mg mb : Str → Option Value} {loose : List Str} {mean : ExcName → Option Value} {base : Heap} (KB : (hd.heap_39 w.params).In base) (TB : Top hd.view_39 loose mean mg mb base)
    {L fa cd : Addr} {g₀ g : Heap} (Gn : Gnd w mg mb loose mean base (callerA.deeper (lawEnv L fa cd)) [lawEnv L fa cd] g₀ g) {s : Shared} {L' a I v d vn : Addr} {cdv nm cv av : Value} {it o : Obj} {vs : List Value} {n : Nat} {t : Tok} {b : Int} (ha : AlOk b av)
    (F : Fr g L' s.heap (fun y => if y = Str.ofString "locale" then some (.str (Str.ofString "not_a_locale") t) else if y = Str.ofString "name" then some nm else if y = Str.ofString "varnames" then some (.ref vn) else if y = Str.ofString "category" then some cv else if y = Str.ofString "aliases" then some av else if y = Str.ofString "environ" then some (.ref d) else none)) (N : News g L' s.heap [(I, it), (v, tupObj vs n), (d, o)]) :
    wpAny (model PySem.Challenge.rw_nk0004_01.row.prog w) ((callerA.deeper (lawEnv L fa cd)).deeper (dlEnv L' a cdv)) (execs ((dlText.drop 1).take 1) (dlEnv L' a cdv))
      (Put g L' s [(I, it), (v, tupObj vs n), (d, o)] (restM nm cv av vn d) (alOf b 8)) (fun _ _ => False) s := by
  revert KB
  w_top off
  k_fill
  intro KB
  obtain ⟨T0, B, KX, T, D⟩ := Gn
  conv in (List.take 1 (List.drop 1 dlText)) => (whnf; arg 2; whnf)
  generalize hQ : Put g L' s _ _ _ = Q
  rcases ha with ⟨hb, rfl⟩ | ⟨hb, rfl⟩ | ⟨hb, rfl⟩ <;> subst hb
  · k_steps
    all_goals (subst hQ; first
      | (refine' Put.intro ?eF ?eN ?eS; (case eF => assumption); (case eN => assumption); (case eS => intro p hp; repeat (first | exact hp | refine List.mem_cons_of_mem _ ?_)))
      | (refine' Put.twice ?eF ?eN ?eS; (case eF => assumption); (case eN => assumption); (case eS => intro p hp; repeat (first | exact hp | refine List.mem_cons_of_mem _ ?_))))
  · k_steps
    all_goals (subst hQ; first
      | (refine' Put.intro ?eF ?eN ?eS; (case eF => assumption); (case eN => assumption); (case eS => intro p hp; repeat (first | exact hp | refine List.mem_cons_of_mem _ ?_)))
      | (refine' Put.twice ?eF ?eN ?eS; (case eF => assumption); (case eN => assumption); (case eS => intro p hp; repeat (first | exact hp | refine List.mem_cons_of_mem _ ?_))))
  · k_steps
    all_goals (subst hQ; first
      | (refine' Put.intro ?eF ?eN ?eS; (case eF => assumption); (case eN => assumption); (case eS => intro p hp; repeat (first | exact hp | refine List.mem_cons_of_mem _ ?_)))
      | (refine' Put.twice ?eF ?eN ?eS; (case eF => assumption); (case eN => assumption); (case eS => intro p hp; repeat (first | exact hp | refine List.mem_cons_of_mem _ ?_))))
set_option maxHeartbeats 4000000 in
theorem alias_9 {w : World} {mg mb : Str → Option Value} {loose : List Str} {mean : ExcName → Option Value} {base : Heap} (KB : (hd.heap_39 w.params).In base) (TB : Top hd.view_39 loose mean mg mb base)
    {L fa cd : Addr} {g₀ g : Heap} (Gn : Gnd w mg mb loose mean base (callerA.deeper (lawEnv L fa cd)) [lawEnv L fa cd] g₀ g) {s : Shared} {L' a I v d vn : Addr} {cdv nm cv av : Value} {it o : Obj} {vs : List Value} {n : Nat} {t : Tok} {b : Int} (ha : AlOk b av)
    (F : Fr g L' s.heap (fun y => if y = Str.ofString "locale" then some (.str (Str.ofString "de.UTF-8") t) else if y = Str.ofString "name" then some nm else if y = Str.ofString "varnames" then some (.ref vn) else if y = Str.ofString "category" then some cv else if y = Str.ofString "aliases" then some av else if y = Str.ofString "environ" then some (.ref d) else none)) (N : News g L' s.heap [(I, it), (v, tupObj vs n), (d, o)]) :
    wpAny (model PySem.Challenge.rw_nk0004_01.row.prog w) ((callerA.deeper (lawEnv L fa cd)).deeper (dlEnv L' a cdv)) (execs ((dlText.drop 1).take 1) (dlEnv L' a cdv))
      (Put g L' s [(I, it), (v, tupObj vs n), (d, o)] (restM nm cv av vn d) (alOf b 9)) (fun _ _ => False) s := by
  revert KB
  w_top off
  k_fill
  intro KB
  obtain ⟨T0, B, KX, T, D⟩ := Gn
  conv in (List.take 1 (List.drop 1 dlText)) => (whnf; arg 2; whnf)
  generalize hQ : Put g L' s _ _ _ = Q
  rcases ha with ⟨hb, rfl⟩ | ⟨hb, rfl⟩ | ⟨hb, rfl⟩ <;> subst hb
  · k_steps
    all_goals (subst hQ; first
      | (refine' Put.intro ?eF ?eN ?eS; (case eF => assumption); (case eN => assumption); (case eS => intro p hp; repeat (first | exact hp | refine List.mem_cons_of_mem _ ?_)))
      | (refine' Put.twice ?eF ?eN ?eS; (case eF => assumption); (case eN => assumption); (case eS => intro p hp; repeat (first | exact hp | refine List.mem_cons_of_mem _ ?_))))
  · k_steps
    all_goals (subst hQ; first
      | (refine' Put.intro ?eF ?eN ?eS; (case eF => assumption); (case eN => assumption); (case eS => intro p hp; repeat (first | exact hp | refine List.mem_cons_of_mem _ ?_)))
      | (refine' Put.twice ?eF ?eN ?eS; (case eF => assumption); (case eN => assumption); (case eS => intro p hp; repeat (first | exact hp | refine List.mem_cons_of_mem _ ?_))))
  · k_steps
    all_goals (subst hQ; first
      | (refine' Put.intro ?eF ?eN ?eS; (case eF => assumption); (case eN => assumption); (case eS => intro p hp; repeat (first | exact hp | refine List.mem_cons_of_mem _ ?_)))
      | (refine' Put.twice ?eF ?eN ?eS; (case eF => assumption); (case eN => assumption); (case eS => intro p hp; repeat (first | exact hp | refine List.mem_cons_of_mem _ ?_))))
end
end Mine
end
section
open PySem PySem.W PyProof.Rows PySem.Calls
set_option maxRecDepth 100000
namespace Mine
def colon : Str := Str.ofString ":"
theorem two_facts : ∀ p q : Fin 10, Txt.contains (txAt p ++ (colon ++ txAt q)) colon = true ∧ Txt.split (txAt p ++ (colon ++ txAt q)) colon = [txAt p, txAt q] ∧ Nat.ble 1 (txAt p ++ (colon ++ txAt q)).length = true ∧ Nat.ble (txAt p ++ (colon ++ txAt q)).length 1000 = true := by decide +kernel
theorem one_facts : ∀ p : Fin 10, Txt.contains (txAt p) colon = false ∧ Nat.ble (txAt p).length 1000 = true ∧ (p.val = 0 ∨ Nat.ble 1 (txAt p).length = true) := by decide +kernel
section
variable {prog : Program} {w : World} {A : Around} {E : Value → Shared → Prop} {s : Shared} {x y : Str} {t u : Tok} {b : Bool} {Q : Value → Shared → Prop}
theorem in_is (e : Txt.contains x y = b) (h : Q (.bool b) s) : wpAny (model prog w) A (compareOp .In (.str y u) (.str x t)) Q E s := SB.contains (by rw [e]; exact h)
theorem eq_is (e : (x == y) = b) (h : Q (.bool b) s) : wpAny (model prog w) A (compareOp .Eq (.str x u) (.str y t)) Q E s := PyProof.Rows.eq_str (by rw [e]; exact h)
open PyProof.V PySem.Spec in
theorem get_none {d : Addr} {D : List (PyData × PyData)} (T : StrTab prog w s.heap d D) (hl : lookup (.str x) D = none) (h : ∀ k, Q .none { s with toks := k }) : wpAny (model prog w) A (call (.builtin "dict.get") [.ref d, .str x t]) Q E s :=
  call_get1_strTab T fun v hv => by
    rw [hl] at hv
    have r : Reads s.heap v PyData.none [] := hv s.heap
    cases r
    exact h _
open PyProof.V PySem.Spec in
theorem get_some {d : Addr} {D : List (PyData × PyData)} (T : StrTab prog w s.heap d D) (hl : lookup (.str x) D = some (.str y)) (h : ∀ t' k, Q (.str y t') { s with toks := k }) : wpAny (model prog w) A (call (.builtin "dict.get") [.ref d, .str x t]) Q E s :=
  call_get1_strTab T fun v hv => by
    rw [hl] at hv
    have r : Reads s.heap v (PyData.str y) [] := hv s.heap
    cases r
    exact h _ _
end
end Mine
end
section
open PySem PySem.W PyProof.Rows PySem.Calls
set_option maxRecDepth 100000
namespace Mine
section
local macro_rules | `(tactic| walk_at "compareOp In str str") => `(tactic| (k_here; refine in_is (by assumption) ?_))
local macro_rules | `(tactic| walk_at "compareOp Eq str str") => `(tactic| (k_here; refine eq_is (by assumption) ?_))
local macro_rules | `(tactic| walk_at "call builtin:str.split") => `(tactic| (k_here; k_dflt (refine' split_2 ?F ?N ?y ?z ?e ?_; (case F => k_asm); (case N => k_asm); (case y => decide); (case z => assumption); (case e => assumption)); intro D' h' k' t1' t2' F' N' l1; (try k_lt l1); (try dsimp only); (try k_sweep)))
local macro_rules | `(tactic| walk_at "subscriptTail Call Attribute cons nil Constant ref int") => `(tactic| (k_here; k_dflt (refine' item_first ?N ?m ?_; (case N => k_asm); (case m => k_mem); k_whole)))
local macro_rules | `(tactic| walk_at "execs cons") => `(tactic| (k_here; dsimp only; walk_at "execs cons"))
set_option maxHeartbeats 4000000 in
theorem lang_no {w : World} {mg mb : Str → Option Value} {loose : List Str} {mean : ExcName → Option Value} {base : Heap} (KB : (hd.heap_39 w.params).In base) (TB : Top hd.view_39 loose mean mg mb base)
    {L fa cd : Addr} {g₀ g : Heap} (Gn : Gnd w mg mb loose mean base (callerA.deeper (lawEnv L fa cd)) [lawEnv L fa cd] g₀ g) {s : Shared} {L' a I v d vn : Addr} {cdv cv av : Value} {it o : Obj} {vs : List Value} {n : Nat} {t tn : Tok} {x nm y1 y2 : Str} (hn : (nm == Str.ofString "LANGUAGE") = false)
    (F : Fr g L' s.heap (fun y => if y = Str.ofString "locale" then some (.str x t) else if y = Str.ofString "name" then some (.str nm tn) else if y = Str.ofString "varnames" then some (.ref vn) else if y = Str.ofString "category" then some cv else if y = Str.ofString "aliases" then some av else if y = Str.ofString "environ" then some (.ref d) else none)) (N : News g L' s.heap [(I, it), (v, tupObj vs n), (d, o)]) :
    wpAny (model PySem.Challenge.rw_nk0004_01.row.prog w) ((callerA.deeper (lawEnv L fa cd)).deeper (dlEnv L' a cdv)) (execs (dlText.take 1) (dlEnv L' a cdv))
      (Put g L' s [(I, it), (v, tupObj vs n), (d, o)] (restM (.str nm tn) cv av vn d) x) (fun _ _ => False) s := by
  revert KB
  w_top off
  k_fill
  intro KB
  obtain ⟨T0, B, KX, T, D⟩ := Gn
  conv in (List.take 1 dlText) => (whnf; arg 2; whnf)
  generalize hQ : Put g L' s _ _ _ = Q
  k_steps
  all_goals (subst hQ; first
      | (refine' Put.intro ?eF ?eN ?eS; (case eF => assumption); (case eN => assumption); (case eS => intro p hp; repeat (first | exact hp | refine List.mem_cons_of_mem _ ?_)))
      | (refine' Put.twice ?eF ?eN ?eS; (case eF => assumption); (case eN => assumption); (case eS => intro p hp; repeat (first | exact hp | refine List.mem_cons_of_mem _ ?_))))
set_option maxHeartbeats 4000000 in
theorem lang_one {w : World} {mg mb : Str → Option Value} {loose : List Str} {mean : ExcName → Option Value} {base : Heap} (KB : (hd.heap_39 w.params).In base) (TB : Top hd.view_39 loose mean mg mb base)
    {L fa cd : Addr} {g₀ g : Heap} (Gn : Gnd w mg mb loose mean base (callerA.deeper (lawEnv L fa cd)) [lawEnv L fa cd] g₀ g) {s : Shared} {L' a I v d vn : Addr} {cdv cv av : Value} {it o : Obj} {vs : List Value} {n : Nat} {t tn : Tok} {x nm y1 y2 : Str} (hn : (nm == Str.ofString "LANGUAGE") = true) (hc : Txt.contains x (Str.ofString ":") = false)
    (F : Fr g L' s.heap (fun y => if y = Str.ofString "locale" then some (.str x t) else if y = Str.ofString "name" then some (.str nm tn) else if y = Str.ofString "varnames" then some (.ref vn) else if y = Str.ofString "category" then some cv else if y = Str.ofString "aliases" then some av else if y = Str.ofString "environ" then some (.ref d) else none)) (N : News g L' s.heap [(I, it), (v, tupObj vs n), (d, o)]) :
    wpAny (model PySem.Challenge.rw_nk0004_01.row.prog w) ((callerA.deeper (lawEnv L fa cd)).deeper (dlEnv L' a cdv)) (execs (dlText.take 1) (dlEnv L' a cdv))
      (Put g L' s [(I, it), (v, tupObj vs n), (d, o)] (restM (.str nm tn) cv av vn d) x) (fun _ _ => False) s := by
  revert KB
  w_top off
  k_fill
  intro KB
  obtain ⟨T0, B, KX, T, D⟩ := Gn
  conv in (List.take 1 dlText) => (whnf; arg 2; whnf)
  generalize hQ : Put g L' s _ _ _ = Q
  k_steps
  all_goals (subst hQ; first
      | (refine' Put.intro ?eF ?eN ?eS; (case eF => assumption); (case eN => assumption); (case eS => intro p hp; repeat (first | exact hp | refine List.mem_cons_of_mem _ ?_)))
      | (refine' Put.twice ?eF ?eN ?eS; (case eF => assumption); (case eN => assumption); (case eS => intro p hp; repeat (first | exact hp | refine List.mem_cons_of_mem _ ?_))))
set_option maxHeartbeats 4000000 in
theorem lang_two {w : World} {mg mb : Str → Option Value} {loose : List Str} {mean : ExcName → Option Value} {base : Heap} (KB : (hd.heap_39 w.params).In base) (TB : Top hd.view_39 loose mean mg mb base)
    {L fa cd : Addr} {g₀ g : Heap} (Gn : Gnd w mg mb loose mean base (callerA.deeper (lawEnv L fa cd)) [lawEnv L fa cd] g₀ g) {s : Shared} {L' a I v d vn : Addr} {cdv cv av : Value} {it o : Obj} {vs : List Value} {n : Nat} {t tn : Tok} {x nm y1 y2 : Str} (hn : (nm == Str.ofString "LANGUAGE") = true) (hc : Txt.contains x (Str.ofString ":") = true) (hp : Txt.split x (Str.ofString ":") = [y1, y2]) (hz : x.length + 2 ≤ sizeLine)
    (F : Fr g L' s.heap (fun y => if y = Str.ofString "locale" then some (.str x t) else if y = Str.ofString "name" then some (.str nm tn) else if y = Str.ofString "varnames" then some (.ref vn) else if y = Str.ofString "category" then some cv else if y = Str.ofString "aliases" then some av else if y = Str.ofString "environ" then some (.ref d) else none)) (N : News g L' s.heap [(I, it), (v, tupObj vs n), (d, o)]) :
    wpAny (model PySem.Challenge.rw_nk0004_01.row.prog w) ((callerA.deeper (lawEnv L fa cd)).deeper (dlEnv L' a cdv)) (execs (dlText.take 1) (dlEnv L' a cdv))
      (Put g L' s [(I, it), (v, tupObj vs n), (d, o)] (restM (.str nm tn) cv av vn d) y1) (fun _ _ => False) s := by
  revert KB
  w_top off
  k_fill
  intro KB
  obtain ⟨T0, B, KX, T, D⟩ := Gn
  conv in (List.take 1 dlText) => (whnf; arg 2; whnf)
  generalize hQ : Put g L' s _ _ _ = Q
  k_steps
  all_goals (subst hQ; first
      | (refine' Put.intro ?eF ?eN ?eS; (case eF => assumption); (case eN => assumption); (case eS => intro p hp; repeat (first | exact hp | refine List.mem_cons_of_mem _ ?_)))
      | (refine' Put.twice ?eF ?eN ?eS; (case eF => assumption); (case eN => assumption); (case eS => intro p hp; repeat (first | exact hp | refine List.mem_cons_of_mem _ ?_))))
end
end Mine
end
section
open PySem PySem.W PyProof.Rows PySem.Calls
set_option maxRecDepth 100000
namespace Mine
/-- what the p-th text means, if anything -/
def resOf (b : Int) (p : Nat) : Option Str := if (meansOf b).getD p Str.empty == Str.ofString "" then none else some ((meansOf b).getD p Str.empty)
section
variable {w : World} {mg mb : Str → Option Value} {loose : List Str} {mean : ExcName → Option Value} {base : Heap}
theorem inner_of {A A₀ : Around} {outer : List Env} {g₀ g : Heap} {L' : Addr} {env : Env} {s : Shared} {led : List (Addr × Obj)} {m₀ : Str → Option Value} {x y : Str} {r r' : Option Str} {body body' : List Stmt} {n : Nat} (hb : body.drop n = body') (ex : x = y) (er : r' = r)
    (h₁ : wpAny (model PySem.Challenge.rw_nk0004_01.row.prog w) A (execs (body.take n) env) (Put g L' s led m₀ x) (fun _ _ => False) s)
    (h₂ : ∀ (s' : Shared) (t : Tok), Fr g L' s'.heap (fun z => if z = Str.ofString "locale" then some (.str y t) else m₀ z) → News g L' s'.heap led →
      wpAny (model PySem.Challenge.rw_nk0004_01.row.prog w) A (execs body' env) (TextEnds w mg mb loose mean base A₀ outer g₀ L' s' led m₀ r') (fun _ _ => False) s') :
    wpAny (model PySem.Challenge.rw_nk0004_01.row.prog w) A (execs body env) (TextEnds w mg mb loose mean base A₀ outer g₀ L' s led m₀ r) (fun _ _ => False) s := by
  subst ex er
  refine execs_two (P := fun s' => ∃ h tk t, s' = { s with heap := h, toks := tk } ∧ Fr g L' h (fun z => if z = Str.ofString "locale" then some (.str x t) else m₀ z) ∧ News g L' h led) n h₁ ?_
  rintro s' ⟨h, tk, t, rfl, F, N⟩
  rw [hb]
  exact h₂ { s with heap := h, toks := tk } t F N
variable {L fa cd : Addr} {g₀ g : Heap} {L' a I v d vn : Addr} {cdv nm cv av : Value} {it o : Obj} {vs : List Value} {n : Nat} {b : Int}
set_option maxHeartbeats 4000000 in
theorem inner (KB : (hd.heap_39 w.params).In base) (TB : Top hd.view_39 loose mean mg mb base) (Gn : Gnd w mg mb loose mean base (callerA.deeper (lawEnv L fa cd)) [lawEnv L fa cd] g₀ g) (ha : AlOk b av) : ∀ (p : Nat) {s : Shared} {t : Tok}, p < 10 →
    Fr g L' s.heap (fun y => if y = Str.ofString "locale" then some (.str (txAt p) t) else restM nm cv av vn d y) → News g L' s.heap [(I, it), (v, tupObj vs n), (d, o)] →
    wpAny (model PySem.Challenge.rw_nk0004_01.row.prog w) ((callerA.deeper (lawEnv L fa cd)).deeper (dlEnv L' a cdv)) (execs (dlText.drop 1) (dlEnv L' a cdv))
      (TextEnds w mg mb loose mean base (callerA.deeper (lawEnv L fa cd)) [lawEnv L fa cd] g₀ L' s [(I, it), (v, tupObj vs n), (d, o)] (restM nm cv av vn d) (resOf b p)) (fun _ _ => False) s := by
  intro p s t hp F N
  have hdrop : (dlText.drop 1).drop 1 = dlText.drop 2 := List.drop_drop ..
  exact match p, hp, F with
  | 0, _, F => by
    rw [show txAt 0 = Str.ofString "" from rfl] at F
    rcases ha with ⟨hb, rfl⟩ | ⟨hb, rfl⟩ | ⟨hb, rfl⟩ <;> subst hb
    · have e1 : alOf 0 0 = Str.ofString "" := by decide +kernel
      have e2 : none = resOf 0 0 := by decide +kernel
      have ha : AlOk 0 (.ref 15) := .inl ⟨rfl, rfl⟩
      with_reducible exact inner_of (w := w) (mg := mg) (mb := mb) (loose := loose) (mean := mean) (base := base) (body := dlText.drop 1) (body' := dlText.drop 2) (n := 1) (x := alOf 0 0) (y := Str.ofString "") (r' := none) (r := resOf 0 0) hdrop e1 e2 (alias_0 KB TB Gn ha F N) (fun s' t' F' N' => parse_em KB TB Gn F' N')
    · have e1 : alOf 1 0 = Str.ofString "" := by decide +kernel
      have e2 : none = resOf 1 0 := by decide +kernel
      have ha : AlOk 1 (.ref 62) := .inr (.inl ⟨rfl, rfl⟩)
      with_reducible exact inner_of (w := w) (mg := mg) (mb := mb) (loose := loose) (mean := mean) (base := base) (body := dlText.drop 1) (body' := dlText.drop 2) (n := 1) (x := alOf 1 0) (y := Str.ofString "") (r' := none) (r := resOf 1 0) hdrop e1 e2 (alias_0 KB TB Gn ha F N) (fun s' t' F' N' => parse_em KB TB Gn F' N')
    · have e1 : alOf 2 0 = Str.ofString "" := by decide +kernel
      have e2 : none = resOf 2 0 := by decide +kernel
      have ha : AlOk 2 (.none) := .inr (.inr ⟨rfl, rfl⟩)
      with_reducible exact inner_of (w := w) (mg := mg) (mb := mb) (loose := loose) (mean := mean) (base := base) (body := dlText.drop 1) (body' := dlText.drop 2) (n := 1) (x := alOf 2 0) (y := Str.ofString "") (r' := none) (r := resOf 2 0) hdrop e1 e2 (alias_0 KB TB Gn ha F N) (fun s' t' F' N' => parse_em KB TB Gn F' N')
  | 1, _, F => by
    rw [show txAt 1 = Str.ofString "C" from rfl] at F
    rcases ha with ⟨hb, rfl⟩ | ⟨hb, rfl⟩ | ⟨hb, rfl⟩ <;> subst hb
    · have e1 : alOf 0 1 = Str.ofString "en_US_POSIX" := by decide +kernel
      have e2 : some (Str.ofString "en_US_POSIX") = resOf 0 1 := by decide +kernel
      have ha : AlOk 0 (.ref 15) := .inl ⟨rfl, rfl⟩
      with_reducible exact inner_of (w := w) (mg := mg) (mb := mb) (loose := loose) (mean := mean) (base := base) (body := dlText.drop 1) (body' := dlText.drop 2) (n := 1) (x := alOf 0 1) (y := Str.ofString "en_US_POSIX") (r' := some (Str.ofString "en_US_POSIX")) (r := resOf 0 1) hdrop e1 e2 (alias_1 KB TB Gn ha F N) (fun s' t' F' N' => parse_us KB TB Gn F' N')
    · have e1 : alOf 1 1 = Str.ofString "en_US_POSIX" := by decide +kernel
      have e2 : some (Str.ofString "en_US_POSIX") = resOf 1 1 := by decide +kernel
      have ha : AlOk 1 (.ref 62) := .inr (.inl ⟨rfl, rfl⟩)
      with_reducible exact inner_of (w := w) (mg := mg) (mb := mb) (loose := loose) (mean := mean) (base := base) (body := dlText.drop 1) (body' := dlText.drop 2) (n := 1) (x := alOf 1 1) (y := Str.ofString "en_US_POSIX") (r' := some (Str.ofString "en_US_POSIX")) (r := resOf 1 1) hdrop e1 e2 (alias_1 KB TB Gn ha F N) (fun s' t' F' N' => parse_us KB TB Gn F' N')
    · have e1 : alOf 2 1 = Str.ofString "en_US_POSIX" := by decide +kernel
      have e2 : some (Str.ofString "en_US_POSIX") = resOf 2 1 := by decide +kernel
      have ha : AlOk 2 (.none) := .inr (.inr ⟨rfl, rfl⟩)
      with_reducible exact inner_of (w := w) (mg := mg) (mb := mb) (loose := loose) (mean := mean) (base := base) (body := dlText.drop 1) (body' := dlText.drop 2) (n := 1) (x := alOf 2 1) (y := Str.ofString "en_US_POSIX") (r' := some (Str.ofString "en_US_POSIX")) (r := resOf 2 1) hdrop e1 e2 (alias_1 KB TB Gn ha F N) (fun s' t' F' N' => parse_us KB TB Gn F' N')
  | 2, _, F => by
    rw [show txAt 2 = Str.ofString "POSIX.UTF-8" from rfl] at F
    rcases ha with ⟨hb, rfl⟩ | ⟨hb, rfl⟩ | ⟨hb, rfl⟩ <;> subst hb
    · have e1 : alOf 0 2 = Str.ofString "en_US_POSIX" := by decide +kernel
      have e2 : some (Str.ofString "en_US_POSIX") = resOf 0 2 := by decide +kernel
      have ha : AlOk 0 (.ref 15) := .inl ⟨rfl, rfl⟩
      with_reducible exact inner_of (w := w) (mg := mg) (mb := mb) (loose := loose) (mean := mean) (base := base) (body := dlText.drop 1) (body' := dlText.drop 2) (n := 1) (x := alOf 0 2) (y := Str.ofString "en_US_POSIX") (r' := some (Str.ofString "en_US_POSIX")) (r := resOf 0 2) hdrop e1 e2 (alias_2 KB TB Gn ha F N) (fun s' t' F' N' => parse_us KB TB Gn F' N')
    · have e1 : alOf 1 2 = Str.ofString "en_US_POSIX" := by decide +kernel
      have e2 : some (Str.ofString "en_US_POSIX") = resOf 1 2 := by decide +kernel
      have ha : AlOk 1 (.ref 62) := .inr (.inl ⟨rfl, rfl⟩)
      with_reducible exact inner_of (w := w) (mg := mg) (mb := mb) (loose := loose) (mean := mean) (base := base) (body := dlText.drop 1) (body' := dlText.drop 2) (n := 1) (x := alOf 1 2) (y := Str.ofString "en_US_POSIX") (r' := some (Str.ofString "en_US_POSIX")) (r := resOf 1 2) hdrop e1 e2 (alias_2 KB TB Gn ha F N) (fun s' t' F' N' => parse_us KB TB Gn F' N')
    · have e1 : alOf 2 2 = Str.ofString "en_US_POSIX" := by decide +kernel
      have e2 : some (Str.ofString "en_US_POSIX") = resOf 2 2 := by decide +kernel
      have ha : AlOk 2 (.none) := .inr (.inr ⟨rfl, rfl⟩)
      with_reducible exact inner_of (w := w) (mg := mg) (mb := mb) (loose := loose) (mean := mean) (base := base) (body := dlText.drop 1) (body' := dlText.drop 2) (n := 1) (x := alOf 2 2) (y := Str.ofString "en_US_POSIX") (r' := some (Str.ofString "en_US_POSIX")) (r := resOf 2 2) hdrop e1 e2 (alias_2 KB TB Gn ha F N) (fun s' t' F' N' => parse_us KB TB Gn F' N')
  | 3, _, F => by
    rw [show txAt 3 = Str.ofString "de" from rfl] at F
    rcases ha with ⟨hb, rfl⟩ | ⟨hb, rfl⟩ | ⟨hb, rfl⟩ <;> subst hb
    · have e1 : alOf 0 3 = Str.ofString "de_DE" := by decide +kernel
      have e2 : some (Str.ofString "de_DE") = resOf 0 3 := by decide +kernel
      have ha : AlOk 0 (.ref 15) := .inl ⟨rfl, rfl⟩
      with_reducible exact inner_of (w := w) (mg := mg) (mb := mb) (loose := loose) (mean := mean) (base := base) (body := dlText.drop 1) (body' := dlText.drop 2) (n := 1) (x := alOf 0 3) (y := Str.ofString "de_DE") (r' := some (Str.ofString "de_DE")) (r := resOf 0 3) hdrop e1 e2 (alias_3 KB TB Gn ha F N) (fun s' t' F' N' => parse_dd KB TB Gn F' N')
    · have e1 : alOf 1 3 = Str.ofString "de" := by decide +kernel
      have e2 : some (Str.ofString "de") = resOf 1 3 := by decide +kernel
      have ha : AlOk 1 (.ref 62) := .inr (.inl ⟨rfl, rfl⟩)
      with_reducible exact inner_of (w := w) (mg := mg) (mb := mb) (loose := loose) (mean := mean) (base := base) (body := dlText.drop 1) (body' := dlText.drop 2) (n := 1) (x := alOf 1 3) (y := Str.ofString "de") (r' := some (Str.ofString "de")) (r := resOf 1 3) hdrop e1 e2 (alias_3 KB TB Gn ha F N) (fun s' t' F' N' => parse_de KB TB Gn F' N')
    · have e1 : alOf 2 3 = Str.ofString "de" := by decide +kernel
      have e2 : some (Str.ofString "de") = resOf 2 3 := by decide +kernel
      have ha : AlOk 2 (.none) := .inr (.inr ⟨rfl, rfl⟩)
      with_reducible exact inner_of (w := w) (mg := mg) (mb := mb) (loose := loose) (mean := mean) (base := base) (body := dlText.drop 1) (body' := dlText.drop 2) (n := 1) (x := alOf 2 3) (y := Str.ofString "de") (r' := some (Str.ofString "de")) (r := resOf 2 3) hdrop e1 e2 (alias_3 KB TB Gn ha F N) (fun s' t' F' N' => parse_de KB TB Gn F' N')
  | 4, _, F => by
    rw [show txAt 4 = Str.ofString "fr_ca.UTF-8" from rfl] at F
    rcases ha with ⟨hb, rfl⟩ | ⟨hb, rfl⟩ | ⟨hb, rfl⟩ <;> subst hb
    · have e1 : alOf 0 4 = Str.ofString "fr_ca.UTF-8" := by decide +kernel
      have e2 : some (Str.ofString "fr_CA") = resOf 0 4 := by decide +kernel
      have ha : AlOk 0 (.ref 15) := .inl ⟨rfl, rfl⟩
      with_reducible exact inner_of (w := w) (mg := mg) (mb := mb) (loose := loose) (mean := mean) (base := base) (body := dlText.drop 1) (body' := dlText.drop 2) (n := 1) (x := alOf 0 4) (y := Str.ofString "fr_ca.UTF-8") (r' := some (Str.ofString "fr_CA")) (r := resOf 0 4) hdrop e1 e2 (alias_4 KB TB Gn ha F N) (fun s' t' F' N' => parse_fr KB TB Gn F' N')
    · have e1 : alOf 1 4 = Str.ofString "fr_ca.UTF-8" := by decide +kernel
      have e2 : some (Str.ofString "fr_CA") = resOf 1 4 := by decide +kernel
      have ha : AlOk 1 (.ref 62) := .inr (.inl ⟨rfl, rfl⟩)
      with_reducible exact inner_of (w := w) (mg := mg) (mb := mb) (loose := loose) (mean := mean) (base := base) (body := dlText.drop 1) (body' := dlText.drop 2) (n := 1) (x := alOf 1 4) (y := Str.ofString "fr_ca.UTF-8") (r' := some (Str.ofString "fr_CA")) (r := resOf 1 4) hdrop e1 e2 (alias_4 KB TB Gn ha F N) (fun s' t' F' N' => parse_fr KB TB Gn F' N')
    · have e1 : alOf 2 4 = Str.ofString "fr_ca.UTF-8" := by decide +kernel
      have e2 : some (Str.ofString "fr_CA") = resOf 2 4 := by decide +kernel
      have ha : AlOk 2 (.none) := .inr (.inr ⟨rfl, rfl⟩)
      with_reducible exact inner_of (w := w) (mg := mg) (mb := mb) (loose := loose) (mean := mean) (base := base) (body := dlText.drop 1) (body' := dlText.drop 2) (n := 1) (x := alOf 2 4) (y := Str.ofString "fr_ca.UTF-8") (r' := some (Str.ofString "fr_CA")) (r := resOf 2 4) hdrop e1 e2 (alias_4 KB TB Gn ha F N) (fun s' t' F' N' => parse_fr KB TB Gn F' N')
  | 5, _, F => by
    rw [show txAt 5 = Str.ofString "it_IT@euro" from rfl] at F
    rcases ha with ⟨hb, rfl⟩ | ⟨hb, rfl⟩ | ⟨hb, rfl⟩ <;> subst hb
    · have e1 : alOf 0 5 = Str.ofString "it_IT@euro" := by decide +kernel
      have e2 : some (Str.ofString "it_IT@euro") = resOf 0 5 := by decide +kernel
      have ha : AlOk 0 (.ref 15) := .inl ⟨rfl, rfl⟩
      with_reducible exact inner_of (w := w) (mg := mg) (mb := mb) (loose := loose) (mean := mean) (base := base) (body := dlText.drop 1) (body' := dlText.drop 2) (n := 1) (x := alOf 0 5) (y := Str.ofString "it_IT@euro") (r' := some (Str.ofString "it_IT@euro")) (r := resOf 0 5) hdrop e1 e2 (alias_5 KB TB Gn ha F N) (fun s' t' F' N' => parse_eu KB TB Gn F' N')
    · have e1 : alOf 1 5 = Str.ofString "it_ch.UTF-8" := by decide +kernel
      have e2 : some (Str.ofString "it_CH") = resOf 1 5 := by decide +kernel
      have ha : AlOk 1 (.ref 62) := .inr (.inl ⟨rfl, rfl⟩)
      with_reducible exact inner_of (w := w) (mg := mg) (mb := mb) (loose := loose) (mean := mean) (base := base) (body := dlText.drop 1) (body' := dlText.drop 2) (n := 1) (x := alOf 1 5) (y := Str.ofString "it_ch.UTF-8") (r' := some (Str.ofString "it_CH")) (r := resOf 1 5) hdrop e1 e2 (alias_5 KB TB Gn ha F N) (fun s' t' F' N' => parse_ch KB TB Gn F' N')
    · have e1 : alOf 2 5 = Str.ofString "it_IT@euro" := by decide +kernel
      have e2 : some (Str.ofString "it_IT@euro") = resOf 2 5 := by decide +kernel
      have ha : AlOk 2 (.none) := .inr (.inr ⟨rfl, rfl⟩)
      with_reducible exact inner_of (w := w) (mg := mg) (mb := mb) (loose := loose) (mean := mean) (base := base) (body := dlText.drop 1) (body' := dlText.drop 2) (n := 1) (x := alOf 2 5) (y := Str.ofString "it_IT@euro") (r' := some (Str.ofString "it_IT@euro")) (r := resOf 2 5) hdrop e1 e2 (alias_5 KB TB Gn ha F N) (fun s' t' F' N' => parse_eu KB TB Gn F' N')
  | 6, _, F => by
    rw [show txAt 6 = Str.ofString "zh_hans_cn" from rfl] at F
    rcases ha with ⟨hb, rfl⟩ | ⟨hb, rfl⟩ | ⟨hb, rfl⟩ <;> subst hb
    · have e1 : alOf 0 6 = Str.ofString "zh_hans_cn" := by decide +kernel
      have e2 : some (Str.ofString "zh_Hans_CN") = resOf 0 6 := by decide +kernel
      have ha : AlOk 0 (.ref 15) := .inl ⟨rfl, rfl⟩
      with_reducible exact inner_of (w := w) (mg := mg) (mb := mb) (loose := loose) (mean := mean) (base := base) (body := dlText.drop 1) (body' := dlText.drop 2) (n := 1) (x := alOf 0 6) (y := Str.ofString "zh_hans_cn") (r' := some (Str.ofString "zh_Hans_CN")) (r := resOf 0 6) hdrop e1 e2 (alias_6 KB TB Gn ha F N) (fun s' t' F' N' => parse_zh KB TB Gn F' N')
    · have e1 : alOf 1 6 = Str.ofString "zh_hans_cn" := by decide +kernel
      have e2 : some (Str.ofString "zh_Hans_CN") = resOf 1 6 := by decide +kernel
      have ha : AlOk 1 (.ref 62) := .inr (.inl ⟨rfl, rfl⟩)
      with_reducible exact inner_of (w := w) (mg := mg) (mb := mb) (loose := loose) (mean := mean) (base := base) (body := dlText.drop 1) (body' := dlText.drop 2) (n := 1) (x := alOf 1 6) (y := Str.ofString "zh_hans_cn") (r' := some (Str.ofString "zh_Hans_CN")) (r := resOf 1 6) hdrop e1 e2 (alias_6 KB TB Gn ha F N) (fun s' t' F' N' => parse_zh KB TB Gn F' N')
    · have e1 : alOf 2 6 = Str.ofString "zh_hans_cn" := by decide +kernel
      have e2 : some (Str.ofString "zh_Hans_CN") = resOf 2 6 := by decide +kernel
      have ha : AlOk 2 (.none) := .inr (.inr ⟨rfl, rfl⟩)
      with_reducible exact inner_of (w := w) (mg := mg) (mb := mb) (loose := loose) (mean := mean) (base := base) (body := dlText.drop 1) (body' := dlText.drop 2) (n := 1) (x := alOf 2 6) (y := Str.ofString "zh_hans_cn") (r' := some (Str.ofString "zh_Hans_CN")) (r := resOf 2 6) hdrop e1 e2 (alias_6 KB TB Gn ha F N) (fun s' t' F' N' => parse_zh KB TB Gn F' N')
  | 7, _, F => by
    rw [show txAt 7 = Str.ofString "sv-SE" from rfl] at F
    rcases ha with ⟨hb, rfl⟩ | ⟨hb, rfl⟩ | ⟨hb, rfl⟩ <;> subst hb
    · have e1 : alOf 0 7 = Str.ofString "sv-SE" := by decide +kernel
      have e2 : none = resOf 0 7 := by decide +kernel
      have ha : AlOk 0 (.ref 15) := .inl ⟨rfl, rfl⟩
      with_reducible exact inner_of (w := w) (mg := mg) (mb := mb) (loose := loose) (mean := mean) (base := base) (body := dlText.drop 1) (body' := dlText.drop 2) (n := 1) (x := alOf 0 7) (y := Str.ofString "sv-SE") (r' := none) (r := resOf 0 7) hdrop e1 e2 (alias_7 KB TB Gn ha F N) (fun s' t' F' N' => parse_sv KB TB Gn F' N')
    · have e1 : alOf 1 7 = Str.ofString "sv-SE" := by decide +kernel
      have e2 : none = resOf 1 7 := by decide +kernel
      have ha : AlOk 1 (.ref 62) := .inr (.inl ⟨rfl, rfl⟩)
      with_reducible exact inner_of (w := w) (mg := mg) (mb := mb) (loose := loose) (mean := mean) (base := base) (body := dlText.drop 1) (body' := dlText.drop 2) (n := 1) (x := alOf 1 7) (y := Str.ofString "sv-SE") (r' := none) (r := resOf 1 7) hdrop e1 e2 (alias_7 KB TB Gn ha F N) (fun s' t' F' N' => parse_sv KB TB Gn F' N')
    · have e1 : alOf 2 7 = Str.ofString "sv-SE" := by decide +kernel
      have e2 : none = resOf 2 7 := by decide +kernel
      have ha : AlOk 2 (.none) := .inr (.inr ⟨rfl, rfl⟩)
      with_reducible exact inner_of (w := w) (mg := mg) (mb := mb) (loose := loose) (mean := mean) (base := base) (body := dlText.drop 1) (body' := dlText.drop 2) (n := 1) (x := alOf 2 7) (y := Str.ofString "sv-SE") (r' := none) (r := resOf 2 7) hdrop e1 e2 (alias_7 KB TB Gn ha F N) (fun s' t' F' N' => parse_sv KB TB Gn F' N')
  | 8, _, F => by
    rw [show txAt 8 = Str.ofString "not_a_locale" from rfl] at F
    rcases ha with ⟨hb, rfl⟩ | ⟨hb, rfl⟩ | ⟨hb, rfl⟩ <;> subst hb
    · have e1 : alOf 0 8 = Str.ofString "not_a_locale" := by decide +kernel
      have e2 : none = resOf 0 8 := by decide +kernel
      have ha : AlOk 0 (.ref 15) := .inl ⟨rfl, rfl⟩
      with_reducible exact inner_of (w := w) (mg := mg) (mb := mb) (loose := loose) (mean := mean) (base := base) (body := dlText.drop 1) (body' := dlText.drop 2) (n := 1) (x := alOf 0 8) (y := Str.ofString "not_a_locale") (r' := none) (r := resOf 0 8) hdrop e1 e2 (alias_8 KB TB Gn ha F N) (fun s' t' F' N' => parse_na KB TB Gn F' N')
    · have e1 : alOf 1 8 = Str.ofString "not_a_locale" := by decide +kernel
      have e2 : none = resOf 1 8 := by decide +kernel
      have ha : AlOk 1 (.ref 62) := .inr (.inl ⟨rfl, rfl⟩)
      with_reducible exact inner_of (w := w) (mg := mg) (mb := mb) (loose := loose) (mean := mean) (base := base) (body := dlText.drop 1) (body' := dlText.drop 2) (n := 1) (x := alOf 1 8) (y := Str.ofString "not_a_locale") (r' := none) (r := resOf 1 8) hdrop e1 e2 (alias_8 KB TB Gn ha F N) (fun s' t' F' N' => parse_na KB TB Gn F' N')
    · have e1 : alOf 2 8 = Str.ofString "not_a_locale" := by decide +kernel
      have e2 : none = resOf 2 8 := by decide +kernel
      have ha : AlOk 2 (.none) := .inr (.inr ⟨rfl, rfl⟩)
      with_reducible exact inner_of (w := w) (mg := mg) (mb := mb) (loose := loose) (mean := mean) (base := base) (body := dlText.drop 1) (body' := dlText.drop 2) (n := 1) (x := alOf 2 8) (y := Str.ofString "not_a_locale") (r' := none) (r := resOf 2 8) hdrop e1 e2 (alias_8 KB TB Gn ha F N) (fun s' t' F' N' => parse_na KB TB Gn F' N')
  | 9, _, F => by
    rw [show txAt 9 = Str.ofString "de.UTF-8" from rfl] at F
    rcases ha with ⟨hb, rfl⟩ | ⟨hb, rfl⟩ | ⟨hb, rfl⟩ <;> subst hb
    · have e1 : alOf 0 9 = Str.ofString "de.UTF-8" := by decide +kernel
      have e2 : some (Str.ofString "de") = resOf 0 9 := by decide +kernel
      have ha : AlOk 0 (.ref 15) := .inl ⟨rfl, rfl⟩
      with_reducible exact inner_of (w := w) (mg := mg) (mb := mb) (loose := loose) (mean := mean) (base := base) (body := dlText.drop 1) (body' := dlText.drop 2) (n := 1) (x := alOf 0 9) (y := Str.ofString "de.UTF-8") (r' := some (Str.ofString "de")) (r := resOf 0 9) hdrop e1 e2 (alias_9 KB TB Gn ha F N) (fun s' t' F' N' => parse_du KB TB Gn F' N')
    · have e1 : alOf 1 9 = Str.ofString "de.UTF-8" := by decide +kernel
      have e2 : some (Str.ofString "de") = resOf 1 9 := by decide +kernel
      have ha : AlOk 1 (.ref 62) := .inr (.inl ⟨rfl, rfl⟩)
      with_reducible exact inner_of (w := w) (mg := mg) (mb := mb) (loose := loose) (mean := mean) (base := base) (body := dlText.drop 1) (body' := dlText.drop 2) (n := 1) (x := alOf 1 9) (y := Str.ofString "de.UTF-8") (r' := some (Str.ofString "de")) (r := resOf 1 9) hdrop e1 e2 (alias_9 KB TB Gn ha F N) (fun s' t' F' N' => parse_du KB TB Gn F' N')
    · have e1 : alOf 2 9 = Str.ofString "de.UTF-8" := by decide +kernel
      have e2 : some (Str.ofString "de") = resOf 2 9 := by decide +kernel
      have ha : AlOk 2 (.none) := .inr (.inr ⟨rfl, rfl⟩)
      with_reducible exact inner_of (w := w) (mg := mg) (mb := mb) (loose := loose) (mean := mean) (base := base) (body := dlText.drop 1) (body' := dlText.drop 2) (n := 1) (x := alOf 2 9) (y := Str.ofString "de.UTF-8") (r' := some (Str.ofString "de")) (r := resOf 2 9) hdrop e1 e2 (alias_9 KB TB Gn ha F N) (fun s' t' F' N' => parse_du KB TB Gn F' N')
  | n + 10, h, _ => absurd h (by omega)
set_option maxHeartbeats 4000000 in
theorem text_of (KB : (hd.heap_39 w.params).In base) (TB : Top hd.view_39 loose mean mg mb base) (Gn : Gnd w mg mb loose mean base (callerA.deeper (lawEnv L fa cd)) [lawEnv L fa cd] g₀ g) (ha : AlOk b av) {k p : Nat} (hk : k < 6) (hp : p < 10) {x : Str} (hx : TextOk k p x) {s : Shared} {t tn : Tok}
    (F : Fr g L' s.heap (fun y => if y = Str.ofString "locale" then some (.str x t) else restM (.str (nmAt k) tn) cv av vn d y)) (N : News g L' s.heap [(I, it), (v, tupObj vs n), (d, o)]) :
    wpAny (model PySem.Challenge.rw_nk0004_01.row.prog w) ((callerA.deeper (lawEnv L fa cd)).deeper (dlEnv L' a cdv)) (execs dlText (dlEnv L' a cdv))
      (TextEnds w mg mb loose mean base (callerA.deeper (lawEnv L fa cd)) [lawEnv L fa cd] g₀ L' s [(I, it), (v, tupObj vs n), (d, o)] (restM (.str (nmAt k) tn) cv av vn d) (resOf b p)) (fun _ _ => False) s := by
  have h2 : ∀ (s' : Shared) (t' : Tok), Fr g L' s'.heap (fun z => if z = Str.ofString "locale" then some (.str (txAt p) t') else restM (.str (nmAt k) tn) cv av vn d z) → News g L' s'.heap [(I, it), (v, tupObj vs n), (d, o)] →
      wpAny (model PySem.Challenge.rw_nk0004_01.row.prog w) ((callerA.deeper (lawEnv L fa cd)).deeper (dlEnv L' a cdv)) (execs (dlText.drop 1) (dlEnv L' a cdv))
      (TextEnds w mg mb loose mean base (callerA.deeper (lawEnv L fa cd)) [lawEnv L fa cd] g₀ L' s' [(I, it), (v, tupObj vs n), (d, o)] (restM (.str (nmAt k) tn) cv av vn d) (resOf b p)) (fun _ _ => False) s' :=
    fun s' t' F' N' => inner KB TB Gn ha p hp F' N'
  rcases hx with rfl | ⟨rfl, q, hq, rfl⟩
  · by_cases k2 : k = 2
    · subst k2
      with_reducible exact inner_of (w := w) (mg := mg) (mb := mb) (loose := loose) (mean := mean) (base := base) (body := dlText) (body' := dlText.drop 1) (n := 1) rfl rfl rfl (lang_one (y1 := colon) (y2 := colon) KB TB Gn (by decide +kernel) (one_facts ⟨p, hp⟩).1 F N) h2
    · have hn : (nmAt k == Str.ofString "LANGUAGE") = false := by
        have hk' : k = 0 ∨ k = 1 ∨ k = 3 ∨ k = 4 ∨ k = 5 := by omega
        rcases hk' with rfl | rfl | rfl | rfl | rfl <;> decide +kernel
      with_reducible exact inner_of (w := w) (mg := mg) (mb := mb) (loose := loose) (mean := mean) (base := base) (body := dlText) (body' := dlText.drop 1) (n := 1) rfl rfl rfl (lang_no (y1 := colon) (y2 := colon) KB TB Gn hn F N) h2
  · have f := two_facts ⟨p, hp⟩ ⟨q, hq⟩
    have hn : (nmAt 2 == Str.ofString "LANGUAGE") = true := by decide +kernel
    have f1 : Txt.contains (txAt p ++ (Str.ofString ":" ++ txAt q)) (Str.ofString ":") = true := f.1
    have f2 : Txt.split (txAt p ++ (Str.ofString ":" ++ txAt q)) (Str.ofString ":") = [txAt p, txAt q] := f.2.1
    have f3 : (txAt p ++ (Str.ofString ":" ++ txAt q)).length + 2 ≤ sizeLine := Nat.le_trans (Nat.add_le_add_right (Nat.le_of_ble_eq_true f.2.2.2) 2) (by rw [sizeLine_eq]; decide)
    with_reducible exact inner_of (w := w) (mg := mg) (mb := mb) (loose := loose) (mean := mean) (base := base) (body := dlText) (body' := dlText.drop 1) (n := 1) rfl rfl rfl (lang_two KB TB Gn hn f1 f2 f3 F N) h2
end
end Mine
end
section
open PySem PySem.W PyProof.Rows PySem.Calls
set_option maxRecDepth 100000
namespace Mine
/-- the frame of default_locale within the loop -/
abbrev dlM (uL uN : Option Value) (cv av : Value) (vn d : Addr) : Str → Option Value := fun y => if y = Str.ofString "locale" then uL else if y = Str.ofString "name" then uN else if y = Str.ofString "varnames" then some (.ref vn) else if y = Str.ofString "category" then some cv else if y = Str.ofString "aliases" then some av else if y = Str.ofString "environ" then some (.ref d) else none
/-- what the first two rows of a turn leave -/
def Got (g : Heap) (L : Addr) (s : Shared) (led : List (Addr × Obj)) (m₀ : Str → Option Value) (P : Value → Prop) (s' : Shared) : Prop :=
  ∃ h tk u, s' = { s with heap := h, toks := tk } ∧ Fr g L h (fun y => if y = Str.ofString "locale" then some u else m₀ y) ∧ News g L h led ∧ P u
theorem Got.intro {g h : Heap} {L : Addr} {s : Shared} {tk : Nat} {u : Value} {u' : Option Value} {led : List (Addr × Obj)} {m₀ : Str → Option Value} {P : Value → Prop} (F : Fr g L h (fun z => if z = Str.ofString "locale" then some u else (fun y => if y = Str.ofString "locale" then u' else m₀ y) z)) (N : News g L h led) (hp : P u) :
    Flow.next = Flow.next ∧ Got g L s led m₀ P { s with heap := h, toks := tk } := ⟨rfl, h, tk, u, rfl, by rw [Mine.twice] at F; exact F, N, hp⟩
section
local macro_rules | `(tactic| walk_at "truthy str") => `(tactic| (k_here; refine KXt.truthy_pos (by assumption) (by assumption) (by decide) ?_; intro k'))
local macro_rules | `(tactic| walk_at "call builtin:dict.get") => `(tactic| (k_here; k_dflt (first
  | refine get_none (TabAt.ofNews (by k_asm) (by k_mem) (by assumption) (by assumption) (by assumption)) (by assumption) ?_
  | refine get_some (TabAt.ofNews (by k_asm) (by k_mem) (by assumption) (by assumption) (by assumption)) (by assumption) ?_); intros; (try dsimp only)))
local macro_rules | `(tactic| walk_at "execs cons") => `(tactic| (k_here; dsimp only; walk_at "execs cons"))
set_option maxHeartbeats 4000000 in
theorem got_none {w : World} {mg mb : Str → Option Value} {loose : List Str} {mean : ExcName → Option Value} {base : Heap} (KB : (hd.heap_39 w.params).In base) (TB : Top hd.view_39 loose mean mg mb base)
    {L fa cd : Addr} {g₀ g : Heap} (Gn : Gnd w mg mb loose mean base (callerA.deeper (lawEnv L fa cd)) [lawEnv L fa cd] g₀ g) {s : Shared} {L' a I v d vn : Addr} {cdv cv av : Value} {it o : Obj} {vs : List Value} {n : Nat} {tn : Tok} {nm : Str} {uL : Option Value}
    {kvs : List (Str × Value)} {D : List (PyData × PyData)} (lo : (d == sysModules) = false) (hd : o.IsDictOf (strKind PySem.Challenge.rw_nk0004_01.row.prog w) kvs) (hf : PyProof.V.FlatPairs PyData.str kvs D)
    (h1 : 1 ≤ nm.length) (h2 : nm.length ≤ 1000) (hl : Spec.lookup (.str nm) D = none)
    (F : Fr g L' s.heap (fun y => if y = Str.ofString "locale" then uL else if y = Str.ofString "name" then some (.str nm tn) else if y = Str.ofString "varnames" then some (.ref vn) else if y = Str.ofString "category" then some cv else if y = Str.ofString "aliases" then some av else if y = Str.ofString "environ" then some (.ref d) else none)) (N : News g L' s.heap [(I, it), (v, tupObj vs n), (d, o)]) :
    wpAny (model PySem.Challenge.rw_nk0004_01.row.prog w) ((callerA.deeper (lawEnv L fa cd)).deeper (dlEnv L' a cdv)) (execs (dlTurn.take 2) (dlEnv L' a cdv))
      (fun f s' => f = .next ∧ Got g L' s [(I, it), (v, tupObj vs n), (d, o)] (restM (.str nm tn) cv av vn d) (fun u => u = .none) s') (fun _ _ => False) s := by
  revert KB
  w_top off
  k_fill
  intro KB
  obtain ⟨T0, B, KX, T, DD⟩ := Gn
  conv in (List.take 2 dlTurn) => (whnf; arg 2; whnf; arg 2; whnf)
  generalize hQ : (fun f s' => f = Flow.next ∧ Got g L' s _ _ _ s') = Q
  k_steps
  all_goals (subst hQ; refine' Got.intro ?eF ?eN rfl; (case eF => assumption); (case eN => assumption))
set_option maxHeartbeats 4000000 in
theorem got_some {w : World} {mg mb : Str → Option Value} {loose : List Str} {mean : ExcName → Option Value} {base : Heap} (KB : (hd.heap_39 w.params).In base) (TB : Top hd.view_39 loose mean mg mb base)
    {L fa cd : Addr} {g₀ g : Heap} (Gn : Gnd w mg mb loose mean base (callerA.deeper (lawEnv L fa cd)) [lawEnv L fa cd] g₀ g) {s : Shared} {L' a I v d vn : Addr} {cdv cv av : Value} {it o : Obj} {vs : List Value} {n : Nat} {tn : Tok} {nm x : Str} {uL : Option Value}
    {kvs : List (Str × Value)} {D : List (PyData × PyData)} (lo : (d == sysModules) = false) (hd : o.IsDictOf (strKind PySem.Challenge.rw_nk0004_01.row.prog w) kvs) (hf : PyProof.V.FlatPairs PyData.str kvs D)
    (h1 : 1 ≤ nm.length) (h2 : nm.length ≤ 1000) (hl : Spec.lookup (.str nm) D = some (.str x))
    (F : Fr g L' s.heap (fun y => if y = Str.ofString "locale" then uL else if y = Str.ofString "name" then some (.str nm tn) else if y = Str.ofString "varnames" then some (.ref vn) else if y = Str.ofString "category" then some cv else if y = Str.ofString "aliases" then some av else if y = Str.ofString "environ" then some (.ref d) else none)) (N : News g L' s.heap [(I, it), (v, tupObj vs n), (d, o)]) :
    wpAny (model PySem.Challenge.rw_nk0004_01.row.prog w) ((callerA.deeper (lawEnv L fa cd)).deeper (dlEnv L' a cdv)) (execs (dlTurn.take 2) (dlEnv L' a cdv))
      (fun f s' => f = .next ∧ Got g L' s [(I, it), (v, tupObj vs n), (d, o)] (restM (.str nm tn) cv av vn d) (fun u => ∃ t, u = .str x t) s') (fun _ _ => False) s := by
  revert KB
  w_top off
  k_fill
  intro KB
  obtain ⟨T0, B, KX, T, DD⟩ := Gn
  conv in (List.take 2 dlTurn) => (whnf; arg 2; whnf; arg 2; whnf)
  generalize hQ : (fun f s' => f = Flow.next ∧ Got g L' s _ _ _ s') = Q
  k_steps
  all_goals (subst hQ; refine' Got.intro ?eF ?eN ⟨_, rfl⟩; (case eF => assumption); (case eN => assumption))
end
/-- how a turn ends, the name's text meaning r -/
def TurnDone (w : World) (mg mb : Str → Option Value) (loose : List Str) (mean : ExcName → Option Value) (base : Heap) (A₀ : Around) (outer : List Env) (g₀ : Heap) (L : Addr) (s : Shared) (led : List (Addr × Obj)) (cv av : Value) (vn d : Addr) (r : Option Str) (f : Flow) (s' : Shared) : Prop :=
  ∃ g h tk uL uN, s' = { s with heap := h, toks := tk } ∧ Gnd w mg mb loose mean base A₀ outer g₀ g ∧ Fr g L h (dlM uL uN cv av vn d) ∧ News g L h led ∧
    match r with | some r => ∃ t, f = .ret (.str r t) | none => f = .next ∨ f = .cont
section
local macro_rules | `(tactic| walk_at "truthy str") => `(tactic| (k_here; refine KXt.truthy_pos (by assumption) (by assumption) (by decide) ?_; intro k'))
local macro_rules | `(tactic| walk_at "execs cons") => `(tactic| (k_here; dsimp only; walk_at "execs cons"))
set_option maxHeartbeats 4000000 in
theorem turn_empty {w : World} {mg mb : Str → Option Value} {loose : List Str} {mean : ExcName → Option Value} {base : Heap} (KB : (hd.heap_39 w.params).In base) (TB : Top hd.view_39 loose mean mg mb base)
    {L fa cd : Addr} {g₀ g : Heap} (Gn : Gnd w mg mb loose mean base (callerA.deeper (lawEnv L fa cd)) [lawEnv L fa cd] g₀ g) {s : Shared} {L' a I v d vn : Addr} {cdv cv av : Value} {it o : Obj} {vs : List Value} {n : Nat} {tn : Tok} {uL : Option Value}
    (F : Fr g L' s.heap (fun y => if y = Str.ofString "locale" then uL else if y = Str.ofString "name" then some (.str (Str.ofString "") tn) else if y = Str.ofString "varnames" then some (.ref vn) else if y = Str.ofString "category" then some cv else if y = Str.ofString "aliases" then some av else if y = Str.ofString "environ" then some (.ref d) else none)) (N : News g L' s.heap [(I, it), (v, tupObj vs n), (d, o)]) :
    wpAny (model PySem.Challenge.rw_nk0004_01.row.prog w) ((callerA.deeper (lawEnv L fa cd)).deeper (dlEnv L' a cdv)) (execs dlTurn (dlEnv L' a cdv))
      (TurnDone w mg mb loose mean base (callerA.deeper (lawEnv L fa cd)) [lawEnv L fa cd] g₀ L' s [(I, it), (v, tupObj vs n), (d, o)] cv av vn d none) (fun _ _ => False) s := by
  revert KB
  w_top off
  k_fill
  intro KB
  obtain ⟨T0, B, KX, T, D⟩ := Gn
  conv in dlTurn => whnf
  generalize hQ : TurnDone w mg mb loose mean base _ _ g₀ L' s _ cv av vn d none = Q
  k_steps
  all_goals (subst hQ; exact ⟨g, _, _, _, _, rfl, ⟨T0, B, KX, T, D⟩, by assumption, by assumption, .inr rfl⟩)
end
/-- the row «if locale:» -/
theorem if_row {prog : Program} {w : World} {A : Around} {E : Value → Shared → Prop} {s : Shared} {L' a : Addr} {cdv v : Value} {m : Str → Option Value} {Q : Flow → Shared → Prop} (hn : s.heap.Ns L' m) (hm : m (Str.ofString "locale") = some v)
    (hv : v = .none ∨ ∃ y t, v = .str y t ∧ y.length ≤ 16777216) (hT : yes v = true → ∀ k, wpAny (model prog w) A (execs dlText (dlEnv L' a cdv)) Q E { s with toks := k }) (hF : yes v = false → ∀ k, Q .next { s with toks := k }) :
    wpAny (model prog w) A (execs (dlTurn.drop 2) (dlEnv L' a cdv)) Q E s := by
  obtain ⟨pos, px, e⟩ : ∃ pos px, dlTurn.drop 2 = [Stmt.If (.Name (Str.ofString "locale") px) dlText [] pos] := ⟨_, _, rfl⟩
  rw [e]
  refine wpAny_execs_cons (wpAny_If (wpAny_isTrue_value (name_at (m₃ := m) (v := v) rfl rfl (by decide) hn hm (truth_of hv fun k => ?_))))
  cases q : yes v with
  | true =>
    simp only [if_true]
    refine wpAny_mono (hT q k) (fun f s' h => ?_) fun _ _ h => h
    cases f with
    | next => exact wpAny_execs_nil h
    | brk => exact h
    | cont => exact h
    | ret r => exact h
  | false =>
    simp only [Bool.false_eq_true, if_false]
    exact wpAny_execs_nil (wpAny_execs_nil (hF q k))
section
variable {w : World} {mg mb : Str → Option Value} {loose : List Str} {mean : ExcName → Option Value} {base : Heap} {L fa cd : Addr} {g₀ g : Heap} {L' a I v d vn : Addr} {cdv cv av : Value} {it o : Obj} {vs : List Value} {n : Nat} {b : Int} {ps : List Int}
theorem nm_facts : ∀ k : Fin 6, Nat.ble 1 (nmAt k).length = true ∧ Nat.ble (nmAt k).length 1000 = true := by decide +kernel
theorem TurnDone.of_text {A₀ : Around} {outer : List Env} {s s' : Shared} {led : List (Addr × Obj)} {nm : Value} {r : Option Str} {f : Flow} {h : Heap} {tk : Nat} (e : s = { s' with heap := h, toks := tk })
    (H : TextEnds w mg mb loose mean base A₀ outer g₀ L' s led (restM nm cv av vn d) r f s'') : TurnDone w mg mb loose mean base A₀ outer g₀ L' s' led cv av vn d r f s'' := by
  obtain ⟨g, h, tk, u, rfl, Gn, F, N, hr⟩ := H
  subst e
  refine ⟨g, h, tk, u, some nm, rfl, Gn, F, N, ?_⟩
  cases r with
  | some r => exact hr
  | none => exact .inl hr
/-- a turn over the k-th name -/
theorem turn_name (KB : (hd.heap_39 w.params).In base) (TB : Top hd.view_39 loose mean mg mb base) (Gn : Gnd w mg mb loose mean base (callerA.deeper (lawEnv L fa cd)) [lawEnv L fa cd] g₀ g) (ha : AlOk b av) (lo : (d == sysModules) = false)
    (fit : ∀ k : Nat, k < 6 → 0 ≤ ps.getD k 0 ∧ ps.getD k 0 ≤ 10) (he : EnvI w ps 6 o) {k : Nat} (hk : k < 6) {s : Shared} {tn : Tok} {uL : Option Value}
    (F : Fr g L' s.heap (dlM uL (some (.str (nmAt k) tn)) cv av vn d)) (N : News g L' s.heap [(I, it), (v, tupObj vs n), (d, o)]) :
    wpAny (model PySem.Challenge.rw_nk0004_01.row.prog w) ((callerA.deeper (lawEnv L fa cd)).deeper (dlEnv L' a cdv)) (execs dlTurn (dlEnv L' a cdv))
      (TurnDone w mg mb loose mean base (callerA.deeper (lawEnv L fa cd)) [lawEnv L fa cd] g₀ L' s [(I, it), (v, tupObj vs n), (d, o)] cv av vn d (resOf b (ps.getD k 0).toNat)) (fun _ _ => False) s := by
  obtain ⟨kvs, D, hd, hf, _, hD⟩ := he
  have hEnv := (hD k hk).1 hk
  have f1 := Nat.le_of_ble_eq_true (nm_facts ⟨k, hk⟩).1
  have f2 := Nat.le_of_ble_eq_true (nm_facts ⟨k, hk⟩).2
  by_cases h10 : 10 ≤ ps.getD k 0
  · have e10 : ps.getD k 0 = 10 := by have := (fit k hk).2; omega
    have er : resOf b (ps.getD k 0).toNat = none := by rw [e10]; exact rfl
    rw [er]
    refine execs_two (P := Got g L' s _ (restM (.str (nmAt k) tn) cv av vn d) (fun u => u = .none)) 2 (got_none KB TB Gn lo hd hf f1 f2 (hEnv.1 h10) F N) ?_
    rintro s' ⟨h, tk, u, rfl, F, N, rfl⟩
    exact if_row (v := .none) F.ns rfl (.inl rfl) (fun q => absurd q Bool.false_ne_true) fun _ k => ⟨g, h, k, _, _, rfl, Gn, F, N, .inl rfl⟩
  · obtain ⟨x, hl, hx⟩ := hEnv.2 (by omega)
    refine execs_two (P := Got g L' s _ (restM (.str (nmAt k) tn) cv av vn d) (fun u => ∃ t, u = .str x t)) 2 (got_some KB TB Gn lo hd hf f1 f2 hl F N) ?_
    rintro s' ⟨h, tk, u, rfl, F, N, t, rfl⟩
    have hp : (ps.getD k 0).toNat < 10 := by have := (fit k hk).1; omega
    have hlen : x.length ≤ 1000 := by
      rcases hx with rfl | ⟨_, q, hq, rfl⟩
      · exact Nat.le_of_ble_eq_true (one_facts ⟨_, hp⟩).2.1
      · exact Nat.le_of_ble_eq_true (two_facts ⟨_, hp⟩ ⟨q, hq⟩).2.2.2
    refine if_row (v := .str x t) F.ns rfl (.inr ⟨x, t, rfl, by omega⟩) (fun _ k' => ?_) fun qf k' => ?_
    · exact wpAny_mono (text_of KB TB Gn ha hk hp hx F N) (fun f s'' H => TurnDone.of_text rfl H) fun _ _ h => h
    · have h0 : x.length = 0 := by simpa [yes] using qf
      have p0 : (ps.getD k 0).toNat = 0 := by
        rcases hx with rfl | ⟨_, q, hq, rfl⟩
        · rcases (one_facts ⟨_, hp⟩).2.2 with z | z
          · exact z
          · have := Nat.le_of_ble_eq_true z
            have e : (txAt (ps.getD k 0).toNat).length = 0 := h0
            exact absurd this (by show ¬ 1 ≤ (txAt (ps.getD k 0).toNat).length; omega)
        · have := Nat.le_of_ble_eq_true (two_facts ⟨_, hp⟩ ⟨q, hq⟩).2.2.1
          exact absurd this (by
            have e : (txAt (ps.getD k 0).toNat ++ (colon ++ txAt q)).length = 0 := h0
            show ¬ 1 ≤ (txAt (ps.getD k 0).toNat ++ (colon ++ txAt q)).length
            omega)
      have er : resOf b (ps.getD k 0).toNat = none := by rw [p0]; exact rfl
      rw [er]
      exact ⟨g, h, k', _, _, rfl, Gn, F, N, .inl rfl⟩
end
end Mine
end
section
open PySem PySem.W PyProof.Rows PySem.Calls
set_option maxRecDepth 100000
namespace Mine
inductive NamesAre : List Value → List (Option Nat) → Prop
  | nil : NamesAre [] []
  | empty (t : Tok) {vs ns} : NamesAre vs ns → NamesAre (.str (Str.ofString "") t :: vs) (none :: ns)
  | name (k : Nat) (t : Tok) {vs ns} : k < 6 → NamesAre vs ns → NamesAre (.str (nmAt k) t :: vs) (some k :: ns)
theorem NamesAre.length {vs : List Value} {ns : List (Option Nat)} (h : NamesAre vs ns) : vs.length = ns.length := by
  induction h with
  | nil => rfl
  | empty t r ih => simp [ih]
  | name k t hk r ih => simp [ih]
theorem NamesAre.nth {vs : List Value} {ns : List (Option Nat)} (h : NamesAre vs ns) : ∀ {i : Nat} {v : Value}, vs[i]? = some v → (ns[i]? = some none ∧ ∃ t, v = .str (Str.ofString "") t) ∨ ∃ k t, k < 6 ∧ ns[i]? = some (some k) ∧ v = .str (nmAt k) t := by
  induction h with
  | nil => intro i v h; simp at h
  | empty t r ih =>
    intro i v h
    cases i with
    | zero => exact .inl ⟨rfl, t, by simpa using h.symm⟩
    | succ i => exact ih (by simpa using h)
  | name k t hk r ih =>
    intro i v h
    cases i with
    | zero => exact .inr ⟨k, t, hk, rfl, by simpa using h.symm⟩
    | succ i => exact ih (by simpa using h)
def resN (b : Int) (ps : List Int) : Option Nat → Option Str
  | none => none
  | some k => resOf b (ps.getD k 0).toNat
def optIdx : Nat → List (Option Nat)
  | 0 => [some 2, some 3, some 4, some 5]
  | 1 => [some 0, some 2, some 3, some 4, some 5]
  | 2 => [some 1, some 0, some 2, some 3, some 4, some 5]
  | _ => [none, some 1, some 2, some 3, some 4, some 5]
theorem kept_row (b : Int) (ps : List Int) (j : Nat) : kept (rowOf b ps j) = (optIdx j).filterMap (resN b ps) := by
  have key : ∀ l : List Nat, kept (l.map (meant b ps)) = (l.map some).filterMap (resN b ps) := by
    intro l
    induction l with
    | nil => rfl
    | cons k r ih =>
      rw [List.map_cons, List.map_cons, List.filterMap_cons]
      unfold kept at ih ⊢
      rw [List.filter_cons, ih]
      have e : resN b ps (some k) = if meant b ps k == Str.ofString "" then none else some (meant b ps k) := rfl
      rw [e]
      cases q : meant b ps k == Str.ofString "" <;> simp
  unfold rowOf
  rw [key]
  match j with
  | 0 => rfl
  | 1 => rfl
  | 2 => rfl
  | n + 3 => rfl
theorem filterMap_take {α β : Type} {f : α → Option β} : ∀ {l : List α} {i : Nat} {c : α} {x : β}, l[i]? = some c → f c = some x → (∀ a ∈ l.take i, f a = none) → ∃ r, l.filterMap f = x :: r
  | [], i, c, x, h, _, _ => by simp at h
  | a :: l, 0, c, x, h, hf, _ => by
    have e : a = c := by simpa using h
    subst e
    exact ⟨_, by rw [List.filterMap_cons, hf]⟩
  | a :: l, i + 1, c, x, h, hf, hn => by
    have e : f a = none := hn a (by simp)
    rw [List.filterMap_cons, e]
    exact filterMap_take (i := i) (by simpa using h) hf fun b hb => hn b (by simp [hb])
/-- how default_locale's loop ends -/
def DlDone (w : World) (mg mb : Str → Option Value) (loose : List Str) (mean : ExcName → Option Value) (base : Heap) (A₀ : Around) (outer : List Env) (g₀ : Heap) (L : Addr) (s : Shared) (led : List (Addr × Obj)) (R : List Str) (f : Flow) (s' : Shared) : Prop :=
  ∃ g h tk m, s' = { s with heap := h, toks := tk } ∧ Gnd w mg mb loose mean base A₀ outer g₀ g ∧ Fr g L h m ∧ News g L h led ∧ ((f = .next ∧ R = []) ∨ ∃ x r t, f = .ret (.str x t) ∧ R = x :: r)
theorem name_in {uL uN : Option Value} {cv av u : Value} {vn d : Addr} : (fun z => if z = Str.ofString "name" then some u else dlM uL uN cv av vn d z) = dlM uL (some u) cv av vn d := by
  funext z
  show (if z = Str.ofString "name" then some u else if z = Str.ofString "locale" then uL else if z = Str.ofString "name" then uN else _) = if z = Str.ofString "locale" then uL else if z = Str.ofString "name" then some u else _
  by_cases h1 : z = Str.ofString "name"
  · subst h1
    rw [if_pos rfl, if_neg (by decide), if_pos rfl]
  · rw [if_neg h1, if_neg h1, if_neg h1]
section
variable {w : World} {mg mb : Str → Option Value} {loose : List Str} {mean : ExcName → Option Value} {base : Heap} {L fa cd : Addr} {g₀ g : Heap} {L' a v d : Addr} {cdv cv av : Value} {o : Obj} {vs : List Value} {n : Nat} {b : Int} {ps : List Int}
theorem loop_dl (KB : (hd.heap_39 w.params).In base) (TB : Top hd.view_39 loose mean mg mb base) (Gn : Gnd w mg mb loose mean base (callerA.deeper (lawEnv L fa cd)) [lawEnv L fa cd] g₀ g) (ha : AlOk b av) (lo : (d == sysModules) = false)
    (fit : ∀ k : Nat, k < 6 → 0 ≤ ps.getD k 0 ∧ ps.getD k 0 ≤ 10) (he : EnvI w ps 6 o) {names : List (Option Nat)} (hvs : NamesAre vs names) {s : Shared} {uL uN : Option Value} {px py pos : Pos}
    (F : Fr g L' s.heap (dlM uL uN cv av v d)) (N : News g L' s.heap [(v, tupObj vs n), (d, o)]) :
    wpAny (model PySem.Challenge.rw_nk0004_01.row.prog w) ((callerA.deeper (lawEnv L fa cd)).deeper (dlEnv L' a cdv)) (exec (.For (.Name (Str.ofString "name") px) (.Name (Str.ofString "varnames") py) dlTurn [] pos) (dlEnv L' a cdv))
      (DlDone w mg mb loose mean base (callerA.deeper (lawEnv L fa cd)) [lawEnv L fa cd] g₀ L' s [(v, tupObj vs n), (d, o)] (names.filterMap (resN b ps))) (fun _ _ => False) s := by
  refine For_names (env := dlEnv L' a cdv) rfl rfl rfl Gn F N (fun Q' hq => name_at (m₃ := dlM uL uN cv av v d) rfl rfl (by decide) F.ns rfl hq)
    (fun i m => (∃ uL uN, m = dlM uL uN cv av v d) ∧ ∀ c ∈ names.take i, resN b ps c = none) ⟨⟨uL, uN, rfl⟩, by simp⟩ ?_ ?_
  · rintro i u g m h tk I it hi ⟨⟨uL, uN, rfl⟩, hJ⟩ Gn F N
    rw [name_in] at F
    have step : ∀ {c : Option Nat}, names[i]? = some c → ∀ {f : Flow} {s' : Shared}, TurnDone w mg mb loose mean base (callerA.deeper (lawEnv L fa cd)) [lawEnv L fa cd] g₀ L' { s with heap := h, toks := tk } [(I, it), (v, tupObj vs n), (d, o)] cv av v d (resN b ps c) f s' →
        TurnEnds w mg mb loose mean base (callerA.deeper (lawEnv L fa cd)) [lawEnv L fa cd] g₀ (dlEnv L' a cdv).locals s ((I, it) :: (v, tupObj vs n) :: [(d, o)]) (fun m => (∃ uL uN, m = dlM uL uN cv av v d) ∧ ∀ c ∈ names.take (i + 1), resN b ps c = none)
          (DlDone w mg mb loose mean base (callerA.deeper (lawEnv L fa cd)) [lawEnv L fa cd] g₀ L' s [(v, tupObj vs n), (d, o)] (names.filterMap (resN b ps))) f s' := by
      rintro c hc f s' ⟨g, h, tk, uL, uN, rfl, Gn, F, N, hr⟩
      cases q : resN b ps c with
      | none =>
        rw [q] at hr
        refine .inl ⟨hr, g, h, tk, _, rfl, Gn, F, N, ⟨uL, uN, rfl⟩, fun c' hc' => ?_⟩
        rw [List.take_add_one, hc] at hc'
        rcases List.mem_append.mp hc' with z | z
        · exact hJ c' z
        · have e : c' = c := by simpa using z
          rw [e, q]
      | some r =>
        rw [q] at hr
        obtain ⟨t, rfl⟩ := hr
        obtain ⟨r', e⟩ := filterMap_take hc q hJ
        exact .inr ⟨_, rfl, g, h, tk, _, rfl, Gn, F, fun p hp => N p (.tail _ hp), .inr ⟨r, r', t, rfl, e⟩⟩
    rcases hvs.nth hi with ⟨hc, t, rfl⟩ | ⟨k, t, hk, hc, rfl⟩
    · exact wpAny_mono (turn_empty KB TB Gn F N) (fun f s' H => step hc H) fun _ _ h => h
    · exact wpAny_mono (turn_name KB TB Gn ha lo fit he hk F N) (fun f s' H => step hc H) fun _ _ h => h
  · rintro g m h tk ⟨_, hJ⟩ Gn F N
    refine ⟨g, h, tk, m, rfl, Gn, F, N, .inl ⟨rfl, ?_⟩⟩
    rw [hvs.length, List.take_length] at hJ
    exact List.filterMap_eq_nil_iff.mpr hJ
end
end Mine
end
section
open PySem PySem.W PyProof.Rows PySem.Calls
set_option maxRecDepth 100000
namespace Mine
theorem frame_in {cv av : Value} {v d : Addr} : (fun y => if y = Str.ofString "varnames" then some (Value.ref v) else List.lookup y [(Str.ofString "environ", Value.ref d), (Str.ofString "aliases", av), (Str.ofString "category", cv)]) = dlM none none cv av v d := by
  funext y
  show _ = (if y = Str.ofString "locale" then none else if y = Str.ofString "name" then none else if y = Str.ofString "varnames" then some (Value.ref v) else if y = Str.ofString "category" then some cv else if y = Str.ofString "aliases" then some av else if y = Str.ofString "environ" then some (.ref d) else none)
  by_cases h1 : y = Str.ofString "locale"
  · subst h1
    rw [if_pos rfl, if_neg (by decide)]
    rfl
  by_cases h2 : y = Str.ofString "name"
  · subst h2
    rw [if_neg (by decide), if_neg (by decide), if_pos rfl]
    rfl
  rw [if_neg h1, if_neg h2]
  by_cases h3 : y = Str.ofString "varnames"
  · rw [if_pos h3, if_pos h3]
  rw [if_neg h3, if_neg h3]
  by_cases h4 : y = Str.ofString "category"
  · subst h4
    rw [if_pos rfl]
    rfl
  by_cases h5 : y = Str.ofString "aliases"
  · subst h5
    rw [if_neg h4, if_pos rfl]
    rfl
  by_cases h6 : y = Str.ofString "environ"
  · subst h6
    rw [if_neg h4, if_neg h5, if_pos rfl]
    rfl
  rw [if_neg h4, if_neg h5, if_neg h6]
  have q4 : (y == Str.ofString "category") = false := beq_eq_false_iff_ne.mpr h4
  have q5 : (y == Str.ofString "aliases") = false := beq_eq_false_iff_ne.mpr h5
  have q6 : (y == Str.ofString "environ") = false := beq_eq_false_iff_ne.mpr h6
  simp [List.lookup, q4, q5, q6]
theorem frame_twice {cv av : Value} {v v' d : Addr} : (fun y => if y = Str.ofString "varnames" then some (Value.ref v) else (fun y => if y = Str.ofString "varnames" then some (Value.ref v') else List.lookup y [(Str.ofString "environ", Value.ref d), (Str.ofString "aliases", av), (Str.ofString "category", cv)]) y) = dlM none none cv av v d := by
  rw [← frame_in]
  funext y
  by_cases h : y = Str.ofString "varnames" <;> simp [h]
theorem to_dl {g h : Heap} {L : Addr} {cv av : Value} {v d : Addr} (F : Fr g L h (fun y => if y = Str.ofString "varnames" then some (Value.ref v) else List.lookup y [(Str.ofString "environ", Value.ref d), (Str.ofString "aliases", av), (Str.ofString "category", cv)])) : Fr g L h (dlM none none cv av v d) := by
  rw [frame_in] at F
  exact F
theorem to_dl2 {g h : Heap} {L : Addr} {cv av : Value} {v v' d : Addr} (F : Fr g L h (fun y => if y = Str.ofString "varnames" then some (Value.ref v) else (fun y => if y = Str.ofString "varnames" then some (Value.ref v') else List.lookup y [(Str.ofString "environ", Value.ref d), (Str.ofString "aliases", av), (Str.ofString "category", cv)]) y)) : Fr g L h (dlM none none cv av v d) := by
  rw [frame_twice] at F
  exact F
theorem two_news {g h : Heap} {L : Addr} {news : List (Addr × Obj)} {p q : Addr × Obj} (N : News g L h news) (hp : p ∈ news) (hq : q ∈ news) : News g L h [p, q] := fun x hx => by
  rcases List.mem_cons.mp hx with rfl | hx
  · exact N _ hp
  · rw [List.mem_singleton.mp hx]
    exact N _ hq
/-- the law's answer -/
def Done (base : Heap) (L : Addr) (s : Shared) (f : Flow) (s' : Shared) : Prop := f = .ret (.bool true) ∧ ∃ h tk m, s' = { s with heap := h, toks := tk } ∧ Fr base L h m
theorem Done.intro {base h : Heap} {L : Addr} {s : Shared} {b : Bool} {tk : Nat} {m : Str → Option Value} (hb : b = true) (F : Fr base L h m) : Done base L s (.ret (.bool b)) { s with heap := h, toks := tk } := by
  subst hb
  exact ⟨rfl, h, tk, m, rfl, F⟩
end Mine
end
section
open PySem PySem.W PyProof.Rows PySem.Calls
set_option maxRecDepth 100000
namespace Mine
theorem flew_base {h₀ B : Heap} {l : List Env} {e : Addr} {cls a0 : Value} {h : Heap} (hB : h₀.StaysIn B) (hf : Heap.FlyingW B l e cls a0 h) : h₀.StaysIn h := fun b o q => hf.1 b o (hB b o q)
section
variable {prog : Program} {w : World} {A : Around} {E : Value → Shared → Prop} {s' : Shared} {h₀ h : Heap} {L a e : Addr} {m : Str → Option Value} {name : Str} {scope : Scope} {cd : Value}
  {b₀ : Stmt} {suite : List Stmt} {pos np : Pos} {rest : List ExceptHandler} {Q : Flow → Shared → Prop} {news : List (Addr × Obj)} {K : Frag}
  {p : Program} {loose : List Str} {mean : ExcName → Option Value} {mg mb : Str → Option Value} {x : Str} {X T' : String}
/-- a raise from a def below, caught in a frame that has cells -/
theorem caught_law (hfr : A.frames = some [envOfC name scope L a cd]) (F : Fr h₀ L h m) (hsm : h.UpToSlots s'.heap) (R : RaisedN h₀ [envOfC name scope L a cd] e (.type X) news s'.heap)
    (KX : K.In h₀) (T : Top p loose mean mg mb h₀) (ex : nsIn K mainGlobals x = some none) (hv : bootBuiltins x = some (.type T')) (hn' : x ≠ "__name__")
    (hexc : isSubtype (.type T') (.type "BaseException") = pure true) (hnt : isSubtype (.type ((Manifest.find? T').elim "type" fun y => y.metatype)) (.type "tuple") = pure false) (hsub : isSubtype (.type X) (.type T') = pure true)
    (k : ∀ h', Fr h₀ L h' m → News h₀ L h' news → wpAny (model prog w) (A.mark (some (.ref e))) (execs (b₀ :: suite) (envOfC name scope L a cd)) Q E { s' with heap := h' })
    (hk : scope.kind = .function := by rfl) (hx : (envOfC name scope L a cd).kindOf x = some .globalImplicit := by rfl) (hd : (x == ("__debug__" : Str)) = false := by decide)
    (hE : PassesOwnAt (model prog w) (A.mark (some (.ref e))) A (envOfC name scope L a cd) E := by passes_own) :
    wpAny (model prog w) A (noteFrame (.ref e) (envOfC name scope L a cd))
      (fun _ s₂ => wpAny (model prog w) A (setFlight (.ref e) none) (fun _ s₃ =>
        wpAny (model prog w) A (handleBy (.ref e) (envOfC name scope L a cd) (.ExceptHandler (some (.Name x np)) none (b₀ :: suite) pos :: rest)) Q E s₃) E s₂) E s' := by
  obtain ⟨B, a0, hB, hl, hfl⟩ := R
  have hL : B.get? L = none := by
    obtain ⟨_, ⟨L', _, hf, hn', _⟩, _⟩ := hfl.2.2.1
    obtain rfl : L = L' := Option.some.inj hf
    exact hn'
  have TR : TopRead p loose mg mb h₀ := topRead_of T
  refine wpAny_looks_onW hfr rfl hfl fun h₄ hheld₄ hsm₄ => ?_
  refine wpAny_landsW hheld₄ fun h₅ hheld hsm₅' => ?_
  have hsm₅ := hsm₄.trans hsm₅'
  have F₅ := F.of_stays (flew_base hB hheld) (hsm.trans hsm₅)
  obtain ⟨ob, hob, hobc⟩ := hheld.there
  refine wpAny_handleBy_builtin (X := X) (T := T') (b := true) hexc hnt hsub (Calls.Name_function_global hk hx (Calls.loadGlobal_builtin (env := envOfC name scope L a cd) (TR.g.keeps F₅.keep) (mg_none_of KX TR.g ex) (TR.b.keeps F₅.keep) ((TR.builtins x hn').trans hv) ⟨rfl, ⟨ob, hob, hobc⟩, ?_⟩) hd)
  refine lands_againW hheld fun h₆ hfl₆ hsm₆ => ?_
  have F₆ := F.of_stays (flew_base hB hfl₆) ((hsm.trans hsm₅).trans hsm₆)
  exact wpAny_passesOwnAt hE (k h₆ F₆ fun q hq => ⟨hfl₆.1 _ _ (hl q hq).1, (fun z => by have := (hl q hq).1; rw [z, hL] at this; cases this), (hl q hq).2⟩)
end
end Mine
end
section
open PySem PySem.W PyProof.Rows PySem.Calls
set_option maxRecDepth 100000
namespace Mine
section
local macro_rules | `(tactic| walk_at "compareOp Eq str str") => `(tactic| (k_here; refine eq_is (beq_self_eq_true _) ?_))
local macro_rules | `(tactic| walk_at "exec Try") => `(tactic| refine wpAny_Try_except ?_)
local macro_rules | `(tactic| walk_at "call ref") => `(tactic| (k_here; k_dflt (refine wpAny_call ?_; refine' enter_def ?k1 ?k2 ?k3 ?k4 ?k5 ?kA ?kF ?kK ?k6 ?k7 ?k8 ?k9 ?kB ?_ ?c2 ?c3 ?c4 ?c5; (case kA => exact rfl); (case kF => exact rfl); (case kK => exact rfl); (case k1 => k_asm); (case k2 => k_asm); (case k3 => k_asm); (case k4 => k_asm); (case k5 => k_asm); (case k6 => k_is); (case k7 => k_is); (case k8 => k_room); (case k9 => first | exact BindsTo.of_eq rfl | exact binds_K (by k_in) rfl (by k_is) rfl rfl rfl); (case c5 => decide); (case kB => exact locs rfl); (case c2 => exact rfl); (case c3 => exact rfl); (case c4 => exact rfl); k_whole); intro g' L' h' F' N' B' X' T' D' FG'; (try dsimp only); (try k_fold)))
local macro_rules | `(tactic| walk_at "exec For Name Name cons nil") => `(tactic| refine Mine.hold ?_)
set_option maxHeartbeats 4000000 in
theorem stage9_0 {w : World} {mg mb : Str → Option Value} {loose : List Str} {mean : ExcName → Option Value} {base : Heap} (G : Gr w mg mb loose mean base)
    {s : Shared} {L l fa cd : Addr} {a b : Int} {t tb t1 t2 t3 t4 tq : Tok} {av dv : Value} {d Dr lc tc : Addr} {ps : List Int} {o : Obj} {u : Str → Option Value}
    (F : Fr base L s.heap (fun y => if y = Str.ofString "category" then some (.none) else if y = Str.ofString "due" then some dv else if y = Str.ofString "row" then some (.ref Dr) else if y = Str.ofString "aliases" then some av else if y = Str.ofString "which" then some (.int b tb) else if y = Str.ofString "k" then u y else if y = Str.ofString "environ" then some (.ref d) else if y = Str.ofString "setting" then some (.int a t) else if y = Str.ofString "script" then some (.ref l) else none))
    (N : News base L s.heap [(tc, ({ cls := .type "tuple", data := .seq #[.str (Str.ofString "") t1, .str (Str.ofString "LC_NUMERIC") t2] } : Obj)), (lc, W.listOf #[.str (Str.ofString "LC_NUMERIC") t3, .str (Str.ofString "LC_TIME") t4] 0), (d, o)]) (lo : (d == sysModules) = false)
    (fit : ∀ k : Nat, k < 6 → 0 ≤ ps.getD k 0 ∧ ps.getD k 0 ≤ 10) (he : EnvI w ps 6 o) (ha : AlOk b av) (hc : a.fmod 5 = 0) (hd : DueOk (kept (rowOf b ps 0)) dv) :
    wpAny (model PySem.Challenge.rw_nk0004_01.row.prog w) (callerA.deeper (lawEnv L fa cd)) (execs (lawBody.drop 12) (lawEnv L fa cd)) (Done base L s) (fun _ _ => False) s := by
  obtain ⟨KX, T, B⟩ := G
  revert KX
  w_top off
  k_fill
  intro KX
  conv in (List.drop 12 lawBody) => whnf
  generalize hQ : Done base L s = Q
  rw [kept_row] at hd
  k_steps
  unfold Mine.Hold
  refine' wpAny_mono (loop_dl (names := optIdx 0) (ps := ps) KX T ⟨KtsTurn.refl, ?gB, ?gX, ?gT, ?gD⟩ ha lo fit he ?gV (to_dl ?gF) (two_news ?gN ?gP ?gQ)) ?_ (fun _ _ h => h.elim)
  case gF => with_unfolding_all assumption
  case gB => assumption
  case gX => assumption
  case gT => assumption
  case gD => assumption
  case gN => assumption
  case gP => k_mem
  case gQ => k_mem
  case gV => exact (.name 2 _ (by decide) (.name 3 _ (by decide) (.name 4 _ (by decide) (.name 5 _ (by decide) .nil))))
  rintro f s' ⟨g, h, tk, m, rfl, Gn, Fd, Nd, hr⟩
  rcases hr with ⟨rfl, hR⟩ | ⟨x, r, tx, rfl, hR⟩
  · rcases hd with ⟨hd, rfl⟩ | ⟨y, r', ty, hd, rfl⟩
    · k_steps
      refine leaveS0_ Fd Nd Gn.T0 ?_
      intro Fe Ne
      try dsimp only
      k_steps
      subst hQ
      refine' Done.intro (by rw [hc]; decide) ?eF
      case eF => assumption
    · rw [hR] at hd
      cases hd
  · rcases hd with ⟨hd, rfl⟩ | ⟨y, r', ty, hd, rfl⟩
    · rw [hR] at hd
      cases hd
    · rw [hR] at hd
      obtain ⟨rfl, rfl⟩ := List.cons.inj hd
      try dsimp only
      refine leaveS0_ Fd Nd Gn.T0 ?_
      intro Fe Ne
      try dsimp only
      k_steps
      subst hQ
      refine' Done.intro (by rw [hc]; decide) ?eF
      case eF => assumption
set_option maxHeartbeats 4000000 in
theorem stage9_1 {w : World} {mg mb : Str → Option Value} {loose : List Str} {mean : ExcName → Option Value} {base : Heap} (G : Gr w mg mb loose mean base)
    {s : Shared} {L l fa cd : Addr} {a b : Int} {t tb t1 t2 t3 t4 tq : Tok} {av dv : Value} {d Dr lc tc : Addr} {ps : List Int} {o : Obj} {u : Str → Option Value}
    (F : Fr base L s.heap (fun y => if y = Str.ofString "category" then some (.str (Str.ofString "LC_TIME") tq) else if y = Str.ofString "due" then some dv else if y = Str.ofString "row" then some (.ref Dr) else if y = Str.ofString "aliases" then some av else if y = Str.ofString "which" then some (.int b tb) else if y = Str.ofString "k" then u y else if y = Str.ofString "environ" then some (.ref d) else if y = Str.ofString "setting" then some (.int a t) else if y = Str.ofString "script" then some (.ref l) else none))
    (N : News base L s.heap [(tc, ({ cls := .type "tuple", data := .seq #[.str (Str.ofString "") t1, .str (Str.ofString "LC_NUMERIC") t2] } : Obj)), (lc, W.listOf #[.str (Str.ofString "LC_NUMERIC") t3, .str (Str.ofString "LC_TIME") t4] 0), (d, o)]) (lo : (d == sysModules) = false)
    (fit : ∀ k : Nat, k < 6 → 0 ≤ ps.getD k 0 ∧ ps.getD k 0 ≤ 10) (he : EnvI w ps 6 o) (ha : AlOk b av) (hc : a.fmod 5 = 1) (hd : DueOk (kept (rowOf b ps 1)) dv) :
    wpAny (model PySem.Challenge.rw_nk0004_01.row.prog w) (callerA.deeper (lawEnv L fa cd)) (execs (lawBody.drop 12) (lawEnv L fa cd)) (Done base L s) (fun _ _ => False) s := by
  obtain ⟨KX, T, B⟩ := G
  revert KX
  w_top off
  k_fill
  intro KX
  conv in (List.drop 12 lawBody) => whnf
  generalize hQ : Done base L s = Q
  rw [kept_row] at hd
  k_steps
  unfold Mine.Hold
  refine' wpAny_mono (loop_dl (names := optIdx 1) (ps := ps) KX T ⟨KtsTurn.refl, ?gB, ?gX, ?gT, ?gD⟩ ha lo fit he ?gV (to_dl2 ?gF) (two_news ?gN ?gP ?gQ)) ?_ (fun _ _ h => h.elim)
  case gF => with_unfolding_all assumption
  case gB => assumption
  case gX => assumption
  case gT => assumption
  case gD => assumption
  case gN => assumption
  case gP => k_mem
  case gQ => k_mem
  case gV => exact (.name 0 _ (by decide) (.name 2 _ (by decide) (.name 3 _ (by decide) (.name 4 _ (by decide) (.name 5 _ (by decide) .nil)))))
  rintro f s' ⟨g, h, tk, m, rfl, Gn, Fd, Nd, hr⟩
  rcases hr with ⟨rfl, hR⟩ | ⟨x, r, tx, rfl, hR⟩
  · rcases hd with ⟨hd, rfl⟩ | ⟨y, r', ty, hd, rfl⟩
    · k_steps
      refine leaveS0_ Fd Nd Gn.T0 ?_
      intro Fe Ne
      try dsimp only
      k_steps
      subst hQ
      refine' Done.intro (by rw [hc]; decide) ?eF
      case eF => assumption
    · rw [hR] at hd
      cases hd
  · rcases hd with ⟨hd, rfl⟩ | ⟨y, r', ty, hd, rfl⟩
    · rw [hR] at hd
      cases hd
    · rw [hR] at hd
      obtain ⟨rfl, rfl⟩ := List.cons.inj hd
      try dsimp only
      refine leaveS0_ Fd Nd Gn.T0 ?_
      intro Fe Ne
      try dsimp only
      k_steps
      subst hQ
      refine' Done.intro (by rw [hc]; decide) ?eF
      case eF => assumption
end
end Mine
end
section
open PySem PySem.W PyProof.Rows PySem.Calls
set_option maxRecDepth 100000
namespace Mine
section
local macro_rules | `(tactic| walk_at "compareOp Eq str str") => `(tactic| (k_here; refine eq_is (beq_self_eq_true _) ?_))
local macro_rules | `(tactic| walk_at "exec Try") => `(tactic| refine wpAny_Try_except ?_)
local macro_rules | `(tactic| walk_at "call ref") => `(tactic| (k_here; k_dflt (refine wpAny_call ?_; refine' enter_def ?k1 ?k2 ?k3 ?k4 ?k5 ?kA ?kF ?kK ?k6 ?k7 ?k8 ?k9 ?kB ?_ ?c2 ?c3 ?c4 ?c5; (case kA => exact rfl); (case kF => exact rfl); (case kK => exact rfl); (case k1 => k_asm); (case k2 => k_asm); (case k3 => k_asm); (case k4 => k_asm); (case k5 => k_asm); (case k6 => k_is); (case k7 => k_is); (case k8 => k_room); (case k9 => first | exact BindsTo.of_eq rfl | exact binds_K (by k_in) rfl (by k_is) rfl rfl rfl); (case c5 => decide); (case kB => exact locs rfl); (case c2 => exact rfl); (case c3 => exact rfl); (case c4 => exact rfl); k_whole); intro g' L' h' F' N' B' X' T' D' FG'; (try dsimp only); (try k_fold)))
local macro_rules | `(tactic| walk_at "exec For Name Name cons nil") => `(tactic| refine Mine.hold ?_)
set_option maxHeartbeats 4000000 in
theorem stage9_2 {w : World} {mg mb : Str → Option Value} {loose : List Str} {mean : ExcName → Option Value} {base : Heap} (G : Gr w mg mb loose mean base)
    {s : Shared} {L l fa cd : Addr} {a b : Int} {t tb t1 t2 t3 t4 tq : Tok} {av dv : Value} {d Dr lc tc : Addr} {ps : List Int} {o : Obj} {u : Str → Option Value}
    (F : Fr base L s.heap (fun y => if y = Str.ofString "category" then some (.ref lc) else if y = Str.ofString "due" then some dv else if y = Str.ofString "row" then some (.ref Dr) else if y = Str.ofString "aliases" then some av else if y = Str.ofString "which" then some (.int b tb) else if y = Str.ofString "k" then u y else if y = Str.ofString "environ" then some (.ref d) else if y = Str.ofString "setting" then some (.int a t) else if y = Str.ofString "script" then some (.ref l) else none))
    (N : News base L s.heap [(tc, ({ cls := .type "tuple", data := .seq #[.str (Str.ofString "") t1, .str (Str.ofString "LC_NUMERIC") t2] } : Obj)), (lc, W.listOf #[.str (Str.ofString "LC_NUMERIC") t3, .str (Str.ofString "LC_TIME") t4] 0), (d, o)]) (lo : (d == sysModules) = false)
    (fit : ∀ k : Nat, k < 6 → 0 ≤ ps.getD k 0 ∧ ps.getD k 0 ≤ 10) (he : EnvI w ps 6 o) (ha : AlOk b av) (hc : a.fmod 5 = 2) (hd : DueOk (kept (rowOf b ps 2)) dv) :
    wpAny (model PySem.Challenge.rw_nk0004_01.row.prog w) (callerA.deeper (lawEnv L fa cd)) (execs (lawBody.drop 12) (lawEnv L fa cd)) (Done base L s) (fun _ _ => False) s := by
  obtain ⟨KX, T, B⟩ := G
  revert KX
  w_top off
  k_fill
  intro KX
  conv in (List.drop 12 lawBody) => whnf
  generalize hQ : Done base L s = Q
  rw [kept_row] at hd
  k_steps
  unfold Mine.Hold
  refine' wpAny_mono (loop_dl (names := optIdx 2) (ps := ps) KX T ⟨KtsTurn.refl, ?gB, ?gX, ?gT, ?gD⟩ ha lo fit he ?gV (to_dl2 ?gF) (two_news ?gN ?gP ?gQ)) ?_ (fun _ _ h => h.elim)
  case gF => with_unfolding_all assumption
  case gB => assumption
  case gX => assumption
  case gT => assumption
  case gD => assumption
  case gN => assumption
  case gP => k_mem
  case gQ => k_mem
  case gV => exact (.name 1 _ (by decide) (.name 0 _ (by decide) (.name 2 _ (by decide) (.name 3 _ (by decide) (.name 4 _ (by decide) (.name 5 _ (by decide) .nil))))))
  rintro f s' ⟨g, h, tk, m, rfl, Gn, Fd, Nd, hr⟩
  rcases hr with ⟨rfl, hR⟩ | ⟨x, r, tx, rfl, hR⟩
  · rcases hd with ⟨hd, rfl⟩ | ⟨y, r', ty, hd, rfl⟩
    · k_steps
      refine leaveS0_ Fd Nd Gn.T0 ?_
      intro Fe Ne
      try dsimp only
      k_steps
      subst hQ
      refine' Done.intro (by rw [hc]; decide) ?eF
      case eF => assumption
    · rw [hR] at hd
      cases hd
  · rcases hd with ⟨hd, rfl⟩ | ⟨y, r', ty, hd, rfl⟩
    · rw [hR] at hd
      cases hd
    · rw [hR] at hd
      obtain ⟨rfl, rfl⟩ := List.cons.inj hd
      try dsimp only
      refine leaveS0_ Fd Nd Gn.T0 ?_
      intro Fe Ne
      try dsimp only
      k_steps
      subst hQ
      refine' Done.intro (by rw [hc]; decide) ?eF
      case eF => assumption
set_option maxHeartbeats 4000000 in
theorem stage9_3 {w : World} {mg mb : Str → Option Value} {loose : List Str} {mean : ExcName → Option Value} {base : Heap} (G : Gr w mg mb loose mean base)
    {s : Shared} {L l fa cd : Addr} {a b : Int} {t tb t1 t2 t3 t4 tq : Tok} {av dv : Value} {d Dr lc tc : Addr} {ps : List Int} {o : Obj} {u : Str → Option Value}
    (F : Fr base L s.heap (fun y => if y = Str.ofString "category" then some (.ref tc) else if y = Str.ofString "due" then some dv else if y = Str.ofString "row" then some (.ref Dr) else if y = Str.ofString "aliases" then some av else if y = Str.ofString "which" then some (.int b tb) else if y = Str.ofString "k" then u y else if y = Str.ofString "environ" then some (.ref d) else if y = Str.ofString "setting" then some (.int a t) else if y = Str.ofString "script" then some (.ref l) else none))
    (N : News base L s.heap [(tc, ({ cls := .type "tuple", data := .seq #[.str (Str.ofString "") t1, .str (Str.ofString "LC_NUMERIC") t2] } : Obj)), (lc, W.listOf #[.str (Str.ofString "LC_NUMERIC") t3, .str (Str.ofString "LC_TIME") t4] 0), (d, o)]) (lo : (d == sysModules) = false)
    (fit : ∀ k : Nat, k < 6 → 0 ≤ ps.getD k 0 ∧ ps.getD k 0 ≤ 10) (he : EnvI w ps 6 o) (ha : AlOk b av) (hc : a.fmod 5 = 3) (hd : DueOk (kept (rowOf b ps 3)) dv) :
    wpAny (model PySem.Challenge.rw_nk0004_01.row.prog w) (callerA.deeper (lawEnv L fa cd)) (execs (lawBody.drop 12) (lawEnv L fa cd)) (Done base L s) (fun _ _ => False) s := by
  obtain ⟨KX, T, B⟩ := G
  revert KX
  w_top off
  k_fill
  intro KX
  conv in (List.drop 12 lawBody) => whnf
  generalize hQ : Done base L s = Q
  rw [kept_row] at hd
  k_steps
  unfold Mine.Hold
  refine' wpAny_mono (loop_dl (names := optIdx 3) (ps := ps) KX T ⟨KtsTurn.refl, ?gB, ?gX, ?gT, ?gD⟩ ha lo fit he ?gV (to_dl2 ?gF) (two_news ?gN ?gP ?gQ)) ?_ (fun _ _ h => h.elim)
  case gF => with_unfolding_all assumption
  case gB => assumption
  case gX => assumption
  case gT => assumption
  case gD => assumption
  case gN => assumption
  case gP => k_mem
  case gQ => k_mem
  case gV => exact (.empty _ (.name 1 _ (by decide) (.name 2 _ (by decide) (.name 3 _ (by decide) (.name 4 _ (by decide) (.name 5 _ (by decide) .nil))))))
  rintro f s' ⟨g, h, tk, m, rfl, Gn, Fd, Nd, hr⟩
  rcases hr with ⟨rfl, hR⟩ | ⟨x, r, tx, rfl, hR⟩
  · rcases hd with ⟨hd, rfl⟩ | ⟨y, r', ty, hd, rfl⟩
    · k_steps
      refine leaveS0_ Fd Nd Gn.T0 ?_
      intro Fe Ne
      try dsimp only
      k_steps
      subst hQ
      refine' Done.intro (by rw [hc]; decide) ?eF
      case eF => assumption
    · rw [hR] at hd
      cases hd
  · rcases hd with ⟨hd, rfl⟩ | ⟨y, r', ty, hd, rfl⟩
    · rw [hR] at hd
      cases hd
    · rw [hR] at hd
      obtain ⟨rfl, rfl⟩ := List.cons.inj hd
      try dsimp only
      refine leaveS0_ Fd Nd Gn.T0 ?_
      intro Fe Ne
      try dsimp only
      k_steps
      subst hQ
      refine' Done.intro (by rw [hc]; decide) ?eF
      case eF => assumption
end
end Mine
end
section
open PySem PySem.W PyProof.Rows PySem.Calls
set_option maxRecDepth 100000
namespace Mine
section
local macro_rules | `(tactic| walk_at "compareOp Eq str str") => `(tactic| (k_here; refine eq_is (beq_self_eq_true _) ?_))
local macro_rules | `(tactic| walk_at "exec Try") => `(tactic| refine wpAny_Try_except ?_)
local macro_rules | `(tactic| walk_at "call ref") => `(tactic| (k_here; k_dflt (refine wpAny_call ?_; refine' enter_def ?k1 ?k2 ?k3 ?k4 ?k5 ?kA ?kF ?kK ?k6 ?k7 ?k8 ?k9 ?kB ?_ ?c2 ?c3 ?c4 ?c5; (case kA => exact rfl); (case kF => exact rfl); (case kK => exact rfl); (case k1 => k_asm); (case k2 => k_asm); (case k3 => k_asm); (case k4 => k_asm); (case k5 => k_asm); (case k6 => k_is); (case k7 => k_is); (case k8 => k_room); (case k9 => first | exact BindsTo.of_eq rfl | exact binds_K (by k_in) rfl (by k_is) rfl rfl rfl); (case c5 => decide); (case kB => exact locs rfl); (case c2 => exact rfl); (case c3 => exact rfl); (case c4 => exact rfl); k_whole); intro g' L' h' F' N' B' X' T' D' FG'; (try dsimp only); (try k_fold)))
local macro_rules | `(tactic| walk_at "exec For Name Name cons nil") => `(tactic| refine Mine.hold ?_)
set_option maxHeartbeats 4000000 in
theorem stage9_4 {w : World} {mg mb : Str → Option Value} {loose : List Str} {mean : ExcName → Option Value} {base : Heap} (G : Gr w mg mb loose mean base)
    {s : Shared} {L l fa cd : Addr} {a b : Int} {t tb t1 t2 t3 t4 tq : Tok} {av dv : Value} {d Dr lc tc : Addr} {ps : List Int} {o : Obj} {u : Str → Option Value}
    (F : Fr base L s.heap (fun y => if y = Str.ofString "category" then some (.int 7 tq) else if y = Str.ofString "due" then some dv else if y = Str.ofString "row" then some (.ref Dr) else if y = Str.ofString "aliases" then some av else if y = Str.ofString "which" then some (.int b tb) else if y = Str.ofString "k" then u y else if y = Str.ofString "environ" then some (.ref d) else if y = Str.ofString "setting" then some (.int a t) else if y = Str.ofString "script" then some (.ref l) else none))
    (N : News base L s.heap [(tc, ({ cls := .type "tuple", data := .seq #[.str (Str.ofString "") t1, .str (Str.ofString "LC_NUMERIC") t2] } : Obj)), (lc, W.listOf #[.str (Str.ofString "LC_NUMERIC") t3, .str (Str.ofString "LC_TIME") t4] 0), (d, o)]) (lo : (d == sysModules) = false)
    (fit : ∀ k : Nat, k < 6 → 0 ≤ ps.getD k 0 ∧ ps.getD k 0 ≤ 10) (he : EnvI w ps 6 o) (ha : AlOk b av) (hc : a.fmod 5 = 4) (hd : DueOk (kept (rowOf b ps 0)) dv) :
    wpAny (model PySem.Challenge.rw_nk0004_01.row.prog w) (callerA.deeper (lawEnv L fa cd)) (execs (lawBody.drop 12) (lawEnv L fa cd)) (Done base L s) (fun _ _ => False) s := by
  obtain ⟨KX, T, B⟩ := G
  revert KX
  w_top off
  k_fill
  intro KX
  conv in (List.drop 12 lawBody) => whnf
  generalize hQ : Done base L s = Q
  k_steps
  refine' caught_law (T' := "TypeError") ?gA ?gF ?gU ?gR KX T ?gE PyProof.Rows.Boot.«TypeError» ?gN PySem.F.isExc_TypeError PySem.F.notTuple_TypeError ?gS ?_
  case gA => rfl
  case gR => assumption
  case gS => rw [isSubtype_type]; kernel_rfl
  case gU => assumption
  case gF => assumption
  case gE => k_is
  case gN => decide
  intro h9 F9 N9
  k_steps
  subst hQ
  refine' Done.intro (by rw [hc]; decide) ?eF
  case eF => assumption
end
end Mine
end
section
open PySem PySem.W PyProof.Rows PySem.Calls
set_option maxRecDepth 100000
namespace Mine
section
variable {w : World} {mg mb : Str → Option Value} {loose : List Str} {mean : ExcName → Option Value} {base : Heap}
set_option maxHeartbeats 4000000 in
theorem stage9 (G : Gr w mg mb loose mean base) {s : Shared} {L l fa cd : Addr} (H : S8 w base L l s.heap) :
    wpAny (model PySem.Challenge.rw_nk0004_01.row.prog w) (callerA.deeper (lawEnv L fa cd)) (execs (lawBody.drop 12) (lawEnv L fa cd)) (Done base L s) (fun _ _ => False) s := by
  obtain ⟨a, b, t, tb, t1, t2, t3, t4, av, dv, cv, d, Dr, lc, tc, ps, o, u, j, F, N, lo, fit, he, ha, hj, hj4, hd, hc⟩ := H
  have ej : ∀ c : Int, a.fmod 5 = c → c.fmod 4 = (j : Int) := fun c e => by rw [← e]; exact hj
  rcases hc with ⟨hc, rfl⟩ | ⟨hc, tq, rfl⟩ | ⟨hc, rfl⟩ | ⟨hc, rfl⟩ | ⟨hc, tq, rfl⟩
  · obtain rfl : j = 0 := by
      have := ej 0 hc
      have e : (0 : Int).fmod 4 = 0 := by decide
      omega
    with_reducible exact stage9_0 (L := L) (l := l) (fa := fa) (cd := cd) (s := s) (tq := t) G F N lo fit he ha hc hd
  · obtain rfl : j = 1 := by
      have := ej 1 hc
      have e : (1 : Int).fmod 4 = 1 := by decide
      omega
    with_reducible exact stage9_1 (L := L) (l := l) (fa := fa) (cd := cd) (s := s) G F N lo fit he ha hc hd
  · obtain rfl : j = 2 := by
      have := ej 2 hc
      have e : (2 : Int).fmod 4 = 2 := by decide
      omega
    with_reducible exact stage9_2 (L := L) (l := l) (fa := fa) (cd := cd) (s := s) (tq := t) G F N lo fit he ha hc hd
  · obtain rfl : j = 3 := by
      have := ej 3 hc
      have e : (3 : Int).fmod 4 = 3 := by decide
      omega
    with_reducible exact stage9_3 (L := L) (l := l) (fa := fa) (cd := cd) (s := s) (tq := t) G F N lo fit he ha hc hd
  · obtain rfl : j = 0 := by
      have := ej 4 hc
      have e : (4 : Int).fmod 4 = 0 := by decide
      omega
    with_reducible exact stage9_4 (L := L) (l := l) (fa := fa) (cd := cd) (s := s) G F N lo fit he ha hc hd
theorem then_ {M : Model} {A : Around} {env : Env} {s : Shared} {P : Heap → Prop} {L : Addr} {bl mid rest : List Stmt} (n : Nat) (e1 : bl.take n = mid) (e2 : bl.drop n = rest)
    (h₁ : wpAny M A (execs mid env) (Nxt s P) (fun _ _ => False) s)
    (h₂ : ∀ s' : Shared, P s'.heap → wpAny M A (execs rest env) (Done base L s') (fun _ _ => False) s') : wpAny M A (execs bl env) (Done base L s) (fun _ _ => False) s := by
  subst e1 e2
  refine execs_two (P := fun s' => ∃ h tk, s' = { s with heap := h, toks := tk } ∧ P h) n h₁ ?_
  rintro s' ⟨h, tk, rfl, hp⟩
  exact h₂ { s with heap := h, toks := tk } hp
/-- the stages in a row -/
theorem chain {M : Model} {A : Around} {env : Env} {L : Addr} {b : List Stmt} {P1 P2 P3 P4 P5 P6 P7 P8 : Heap → Prop} {s : Shared}
    (h1 : wpAny M A (execs (b.take 3) env) (Nxt s P1) (fun _ _ => False) s)
    (h2 : ∀ s : Shared, P1 s.heap → wpAny M A (execs ((b.drop 3).take 2) env) (Nxt s P2) (fun _ _ => False) s)
    (h3 : ∀ s : Shared, P2 s.heap → wpAny M A (execs ((b.drop 5).take 2) env) (Nxt s P3) (fun _ _ => False) s)
    (h4 : ∀ s : Shared, P3 s.heap → wpAny M A (execs ((b.drop 7).take 1) env) (Nxt s P4) (fun _ _ => False) s)
    (h5 : ∀ s : Shared, P4 s.heap → wpAny M A (execs ((b.drop 8).take 1) env) (Nxt s P5) (fun _ _ => False) s)
    (h6 : ∀ s : Shared, P5 s.heap → wpAny M A (execs ((b.drop 9).take 1) env) (Nxt s P6) (fun _ _ => False) s)
    (h7 : ∀ s : Shared, P6 s.heap → wpAny M A (execs ((b.drop 10).take 1) env) (Nxt s P7) (fun _ _ => False) s)
    (h8 : ∀ s : Shared, P7 s.heap → wpAny M A (execs ((b.drop 11).take 1) env) (Nxt s P8) (fun _ _ => False) s)
    (h9 : ∀ s : Shared, P8 s.heap → wpAny M A (execs (b.drop 12) env) (Done base L s) (fun _ _ => False) s) : wpAny M A (execs b env) (Done base L s) (fun _ _ => False) s := by
  refine then_ 3 rfl rfl h1 fun s H => ?_
  refine then_ (rest := b.drop 5) 2 rfl (List.drop_drop ..) (h2 s H) fun s H => ?_
  refine then_ (rest := b.drop 7) 2 rfl (List.drop_drop ..) (h3 s H) fun s H => ?_
  refine then_ (rest := b.drop 8) 1 rfl (List.drop_drop ..) (h4 s H) fun s H => ?_
  refine then_ (rest := b.drop 9) 1 rfl (List.drop_drop ..) (h5 s H) fun s H => ?_
  refine then_ (rest := b.drop 10) 1 rfl (List.drop_drop ..) (h6 s H) fun s H => ?_
  refine then_ (rest := b.drop 11) 1 rfl (List.drop_drop ..) (h7 s H) fun s H => ?_
  refine then_ (rest := b.drop 12) 1 rfl (List.drop_drop ..) (h8 s H) fun s H => ?_
  exact h9 s H
set_option maxHeartbeats 4000000 in
theorem law_body (G : Gr w mg mb loose mean base) {s : Shared} {L l fa cd : Addr} {vs : List Value} {ns : List Int} {c0 c1 c2 : Obj}
    (hL : base.IsList l vs.toArray) (hI : IntsAre vs ns) (hlen : ns.length ≤ 63) (F : Fr base L s.heap (fun y => if y = Str.ofString "script" then some (.ref l) else none))
    (N : News base L s.heap [(L + 1 + 1 + 1, c2), (L + 1 + 1, c1), (L + 1, c0)]) (d0 : c0.data = .cell none) (d1 : c1.data = .cell none) (d2 : c2.data = .cell none) :
    wpAny (model PySem.Challenge.rw_nk0004_01.row.prog w) (callerA.deeper (lawEnv L fa cd)) (execs lawBody (lawEnv L fa cd)) (Done base L s) (fun _ _ => False) s := by
  with_reducible exact chain (b := lawBody) (env := lawEnv L fa cd) (stage1 (L := L) (l := l) (fa := fa) (cd := cd) G hL hI hlen F N d0 d1 d2) (fun s H => stage2 (L := L) (l := l) (fa := fa) (cd := cd) (s := s) G H) (fun s H => stage3 (L := L) (l := l) (fa := fa) (cd := cd) (s := s) G H) (fun s H => stage4 (L := L) (l := l) (fa := fa) (cd := cd) (s := s) G H) (fun s H => stage5 (L := L) (l := l) (fa := fa) (cd := cd) (s := s) G H) (fun s H => stage6 (L := L) (l := l) (fa := fa) (cd := cd) (s := s) G H) (fun s H => stage7 (L := L) (l := l) (fa := fa) (cd := cd) (s := s) G H) (fun s H => stage8 (L := L) (l := l) (fa := fa) (cd := cd) (s := s) G H) (fun s H => stage9 (L := L) (l := l) (fa := fa) (cd := cd) (s := s) G H)
end
end Mine
end
open PySem PySem.W PyProof.Rows
set_option maxRecDepth 100000 in
set_option maxHeartbeats 8000000 in
theorem PySem.Challenge.cw_nk0004_01_holds : PySem.Challenge.rw_nk0004_01.Holds :=
  Mine.hd (by
  w_strict (
    w_top off
    k_go0
    change wpAny (model PySem.Challenge.rw_nk0004_01.row.prog _) (callerA.deeper (Mine.lawEnv _ _ _)) (execs Mine.lawBody (Mine.lawEnv _ _ _)) _ _ _
    refine' wpAny_mono (Mine.law_body ⟨?gK, ?gT, ?gB⟩ ?gL ?gI ?gH ?gF ?gN ?g0 ?g1 ?g2) ?_ (fun _ _ h => h.elim)
    case gN => assumption
    case gT => assumption
    case gB => assumption
    case gK => assumption
    case gF => with_unfolding_all assumption
    case gL => assumption
    case gI => assumption
    case gH => omega
    case g0 => with_unfolding_all assumption
    case g1 => with_unfolding_all assumption
    case g2 => with_unfolding_all assumption
    rintro f s' ⟨rfl, h, tk, m, rfl, F⟩
    k_steps))
