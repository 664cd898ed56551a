import PyProof.Rows.All
import Wide.All
import OpenK.AllK
import Wide.FinOn
import PySem.Challenge.RW_kg0007_01
open PySem PySem.W PyProof.Rows
set_option Elab.async false
namespace Mine
section
open PySem.Spec PySem.Calls PyProof.Rows.LCg PyProof.Rows.LCt

/-- the tuple that the comprehension goes over is one of the call's own -/
def TupAt (ax : Addr) (its : Array Value) (news : List (Addr × Obj)) : Prop := False ∨ ∃ o, (ax, o) ∈ news ∧ o.cls = .type "tuple" ∧ ∃ n, o.data = .seq its n
theorem TupAt.of {ax : Addr} {its : Array Value} {k : Nat} {news : List (Addr × Obj)} (hm : (ax, ({ cls := .type "tuple", data := .seq its k } : Obj)) ∈ news) : TupAt ax its news := .inr ⟨_, hm, rfl, _, rfl⟩
theorem TupAt.tup {h₀ h : Heap} {L ax : Addr} {its : Array Value} {news : List (Addr × Obj)} (x : TupAt ax its news) (N : News h₀ L h news) : h.IsTuple ax its := by
  rcases x with x | ⟨o, hm, r⟩
  · exact x.elim
  · exact ⟨o, (N _ hm).1, r⟩

section
variable {prog : Program} {w : World} {A : Around} {E : Value → Shared → Prop} {s : Shared} {h₀ : Heap} {L : Addr} {m : Str → Option Value} {env : Env}
theorem tup_st {ax I : Addr} {its : Array Value} (i : Nat) (h h' : Heap) (o : Obj) (nw : List (Addr × Obj)) (st : h.IsTupleIter I ax i ∧ h.IsTuple ax its) (e : h.get? I = some o) (e' : h'.get? I = some o)
    (hk : ∀ b o, h₀.get? b = some o → h'.get? b = some o) (N : News h₀ L h' nw) (S : TupAt ax its nw) : h'.IsTupleIter I ax i ∧ h'.IsTuple ax its := by
  refine ⟨?_, S.tup N⟩
  obtain ⟨o', q, r⟩ := st.1
  rw [e] at q
  cases q
  exact ⟨o, e', r⟩

/-- what is asked of the source: a written tuple of n items, and the turns -/
def MineSrc (prog : Program) (w : World) (A : Around) (h₀ : Heap) (L : Addr) (m : Str → Option Value) (env : Env) (ct elt : Expr) (x : Str) (scope : Scope) (cl : List (Str × Addr)) (Fin : Shared → List Value → List (Addr × Obj) → Prop) (xv : Value) (s₁ : Shared) : Prop :=
  ∃ ax its n news, xv = .ref ax ∧ A.handled = none ∧ Fr h₀ L s₁.heap m ∧ News h₀ L s₁.heap news ∧ TupAt ax its news ∧ its.size = n ∧ n ≤ sizeLine ∧
    ∀ g : Heap, CompRestT prog w A h₀ L m env ct elt x scope cl { s₁ with heap := g } (TupAt ax its) (fun i v => its[i]? = some v) (Fin { s₁ with heap := g }) n 0 [] news
theorem MineSrc.intro {ct elt : Expr} {x : Str} {scope : Scope} {cl : List (Str × Addr)} {Fin : Shared → List Value → List (Addr × Obj) → Prop} {ax : Addr} {its : Array Value} {k n : Nat} {news : List (Addr × Obj)} {s₁ : Shared}
    (hh : A.handled = none) (F : Fr h₀ L s₁.heap m) (N : News h₀ L s₁.heap news) (hm : (ax, ({ cls := .type "tuple", data := .seq its k } : Obj)) ∈ news) (hn : its.size = n) (hsz : n ≤ sizeLine)
    (h : ∀ g : Heap, CompRestT prog w A h₀ L m env ct elt x scope cl { s₁ with heap := g } (TupAt ax its) (fun i v => its[i]? = some v) (Fin { s₁ with heap := g }) n 0 [] news) :
    MineSrc prog w A h₀ L m env ct elt x scope cl Fin (.ref ax) s₁ :=
  ⟨ax, its, n, news, rfl, hh, F, N, .inr ⟨_, hm, rfl, _, rfl⟩, hn, hsz, h⟩

theorem listComp_tup {ct elt iter : Expr} {x : Str} {px : Pos} {scope : Scope} {cl : List (Str × Addr)} {pos : Pos} {Q : Value → Shared → Prop} (F₀ : Fr h₀ L s.heap m)
    (hclos : closureFor scope env = pure cl) (hcell : ∀ y ∈ scope.names, y.2 ≠ .cell) (hkind : scope.kind = .function)
    (hnames : ∀ y ∈ scope.names, y.2 = .local → scope.names.lookup y.1 = some .local) (hx : scope.names.lookup x = some .local)
    (h : wpAny (model prog w) A (eval iter env) (MineSrc prog w A h₀ L m env ct elt x scope cl (fun s₂ => FinE h₀ L m s₂ Q)) E s)
    (hs : ∀ x, foldedSetIterable iter env x = pure x := by intro _; rfl) :
    wpAny (model prog w) A (eval (.ListComp elt [⟨.Name x px, iter, [ct], 0⟩] scope pos) env) Q E s := by
  rw [eval_ListComp]
  refine wpAny_comprehension_free (use := none) rfl hs hclos hkind hnames (wpAny_mono h (fun xv s₁ h₁ => ?_) fun _ _ e => e)
  obtain ⟨ax, its, n, news, rfl, hh, F, N, S, rfl, hsz, R⟩ := h₁
  have ht := S.tup N
  have hlt : ax < s₁.heap.objs.size := by obtain ⟨_, e, _⟩ := ht; exact Heap.lt_size e
  refine wpAny_pyIter_tuple ht ?_
  have up : ∀ b o, s₁.heap.get? b = some o → (s₁.heap.push { cls := .type "tuple_iterator", data := .fields #[.ref ax, .int 0 0] }).get? b = some o := fun b o e => Heap.get?_push_of_some _ e
  refine block_T (Walks.tuple hh s₁.heap.objs.size ax (Nat.ne_of_lt hlt) its) hsz (fun i h st => by obtain ⟨o, e, _⟩ := st.1; exact ⟨o, e⟩) tup_st hcell hkind hx ⟨⟨_, Heap.get?_push_size _ rfl, rfl, rfl⟩, ht.push _⟩ (fun b hb => ?_)
    (F.keeps up) (N.grown up) (Nat.ne_of_lt F.ns.lt) (next_is_new F) (fun p hp => Nat.ne_of_lt (Heap.lt_size (N p hp).1)) S (R _) ?_
  · show b < (s₁.heap.push _).objs.size
    rw [Heap.size_push]
    rcases List.mem_cons.mp hb with rfl | hb
    · exact Nat.lt_succ_self _
    · rw [List.mem_singleton.mp hb]; exact Nat.lt_succ_of_lt hlt
  · intro D C h tk m' ys news' F' N' o1 hn hC₀ hD₀ hCL hDL hCD offC fin
    refine ⟨m', hn, fun h'' hs'' => fin D h'' tk (F'.change hs'' hCL hC₀) (fun p hp => ?_) o1⟩
    refine ⟨hs''.extBut _ _ ?_ (N' p hp).1, (N' p hp).2⟩
    rcases List.mem_cons.mp hp with rfl | hp
    · exact Ne.symm hCD
    · exact offC p hp
end
end
/-- 1 in a leap year, else 0 -/
def leapI (y : Int) : Int := if Int.fmod y 4 = 0 ∧ (Int.fmod y 100 ≠ 0 ∨ Int.fmod y 400 = 0) then 1 else 0
/-- days before the year -/
def dby (y : Int) : Int := (y - 1) * 365 + Int.fdiv (y - 1) 4 - Int.fdiv (y - 1) 100 + Int.fdiv (y - 1) 400
/-- the table of the months' days -/
def dimT (k : Int) : Int := [(-1 : Int), 31, 28, 31, 30, 31, 30, 31, 31, 30, 31, 30, 31].getD k.toNat 0
/-- the table of the days before the months -/
def dbmT (k : Int) : Int := [(-1 : Int), 0, 31, 59, 90, 120, 151, 181, 212, 243, 273, 304, 334].getD k.toNat 0
/-- days in the month -/
def dimF (y m : Int) : Int := if m = 2 ∧ leapI y = 1 then 29 else dimT m
/-- days before the month -/
def dbmF (y m : Int) : Int := dbmT m + (if 2 < m ∧ leapI y = 1 then 1 else 0)
/-- the day's number -/
def ordF (y m d : Int) : Int := dby y + dbmF y m + d
/-- the weekday -/
def wd (y m d : Int) : Int := (ordF y m d + 6).fmod 7

theorem leapI_is (y : Int) : (leapI y = 1 ∧ Int.fmod y 4 = 0 ∧ (Int.fmod y 100 ≠ 0 ∨ Int.fmod y 400 = 0)) ∨ (leapI y = 0 ∧ (Int.fmod y 4 ≠ 0 ∨ (Int.fmod y 100 = 0 ∧ Int.fmod y 400 ≠ 0))) := by
  unfold leapI
  split <;> omega
theorem dby_next (y : Int) : dby (y + 1) = dby y + 365 + leapI y := by
  have h := leapI_is y
  unfold dby
  simp only [Int.fdiv_eq_ediv_of_nonneg _ (show (0 : Int) ≤ 4 by decide), Int.fdiv_eq_ediv_of_nonneg _ (show (0 : Int) ≤ 100 by decide), Int.fdiv_eq_ediv_of_nonneg _ (show (0 : Int) ≤ 400 by decide),
    Int.fmod_eq_emod_of_nonneg _ (show (0 : Int) ≤ 4 by decide), Int.fmod_eq_emod_of_nonneg _ (show (0 : Int) ≤ 100 by decide), Int.fmod_eq_emod_of_nonneg _ (show (0 : Int) ≤ 400 by decide)] at *
  omega
theorem dimT_ge (m : Int) (h1 : 1 ≤ m) (h2 : m ≤ 12) : 28 ≤ dimT m := by
  have h : m = 1 ∨ m = 2 ∨ m = 3 ∨ m = 4 ∨ m = 5 ∨ m = 6 ∨ m = 7 ∨ m = 8 ∨ m = 9 ∨ m = 10 ∨ m = 11 ∨ m = 12 := by omega
  rcases h with h | h | h | h | h | h | h | h | h | h | h | h <;> subst h <;> decide
theorem dimF_is (y m : Int) : m < 1 ∨ 12 < m ∨ (28 ≤ dimF y m ∧ (m ≠ 2 ∨ dimF y m = 29 ∨ Int.fmod y 4 ≠ 0 ∨ (Int.fmod y 100 = 0 ∧ Int.fmod y 400 ≠ 0))) := by
  by_cases h1 : m < 1
  · exact .inl h1
  by_cases h2 : 12 < m
  · exact .inr (.inl h2)
  refine .inr (.inr ?_)
  have g := dimT_ge m (by omega) (by omega)
  have l := leapI_is y
  unfold dimF
  split <;> omega
theorem dimF_29 {y m : Int} (h : m = 2) (l : leapI y = 1) : 29 = dimF y m := by
  unfold dimF
  rw [if_pos ⟨h, l⟩]
theorem dimF_ne {y m : Int} (h : ¬ m = 2) : dimT m = dimF y m := by
  unfold dimF
  rw [if_neg fun q => h q.1]
theorem dimF_28 {y m : Int} (l : ¬ leapI y = 1) : dimT m = dimF y m := by
  unfold dimF
  rw [if_neg fun q => l q.2]
theorem dbmF_hi {y m : Int} (h : 2 < m) : (dbmT m + if decide (leapI y = 1) = true then 1 else 0) = dbmF y m := by
  unfold dbmF
  simp only [decide_eq_true_eq, h, true_and]
theorem dbmF_lo {y m : Int} (h : ¬ 2 < m) : (dbmT m + if decide (2 < m) = true then 1 else 0) = dbmF y m := by
  unfold dbmF
  simp only [decide_eq_true_eq, h, false_and]
theorem dimF_two (y : Int) : dimF y 2 = 28 + leapI y := by
  have l := leapI_is y
  unfold dimF
  rw [show dimT 2 = 28 from by decide]
  split <;> omega
/-- Conway's rule within the year -/
theorem wd_same {y m d : Int} (hm : 2 < m) (e : (dbmT m + d) % 7 = 3) : wd y m d = wd y 2 (dimF y 2) := by
  have l := leapI_is y
  rw [dimF_two]
  unfold wd ordF dbmF
  rw [show dbmT 2 = 31 from by decide]
  simp only [Int.fmod_eq_emod_of_nonneg _ (show (0 : Int) ≤ 7 by decide)]
  generalize dby y = D
  generalize dbmT m = a at *
  generalize leapI y = q at *
  split <;> split <;> omega
/-- and from year to year -/
theorem wd_next {y e k : Int} (h : e = 27 + k) : wd (y + 1) 2 e = (wd y 2 (dimF y 2) + k).fmod 7 := by
  rw [dimF_two]
  unfold wd ordF dbmF
  rw [show dbmT 2 = 31 from by decide, dby_next]
  simp only [Int.fmod_eq_emod_of_nonneg _ (show (0 : Int) ≤ 7 by decide), Int.lt_irrefl, false_and, if_false]
  omega
theorem wd_29 (y : Int) : wd (y + 1) 2 29 = (wd y 2 (dimF y 2) + 2).fmod 7 := wd_next (by decide)
theorem wd_28 (y : Int) : wd (y + 1) 2 28 = (wd y 2 (dimF y 2) + 1).fmod 7 := wd_next (by decide)

theorem test_off {a b : Int} {p q : Prop} (h : a = b) (hq : q) : if (a != b) = true then p else q := by
  subst h
  rw [if_neg (by simp)]
  exact hq
/-- a turn leaves the ledger as it was -/
theorem turn_end {h₀ : Heap} {L I C D : Addr} {m : Str → Option Value} {s₁ : Shared} {oI oC oD : Obj} {S : List (Addr × Obj) → Prop} {rest : Value → List (Addr × Obj) → Prop} {y : Value} {h' : Heap} {tk : Nat} {news : List (Addr × Obj)}
    (F : Fr h₀ L h' m) (N : News h₀ L h' ((I, oI) :: (C, oC) :: (D, oD) :: news)) (off : LCg.Off3 I C D news) (hS : S news) (r : rest y news) :
    LCg.CompEnd h₀ L m s₁ I oI C oC D oD S rest y { s₁ with heap := h', toks := tk } := LCg.CompEnd.intro F N news (fun _ hp => hp) off hS r
/-- an item of a table of the top by its month -/
theorem month_item {prog : Program} {w : World} {A : Around} {E : Value → Shared → Prop} {s : Shared} {h₀ : Heap} {L a : Addr} {m : Str → Option Value} {K : Frag} {od : Option Addr} {sl : Array (Option Value)} {n : Nat} {value slice : Expr}
    {vs : List Value} {ns : List Int} {k : Int} {u : Tok} {Q : Value → Shared → Prop} (g : Int → Int) (X : K.In h₀) (F : Fr h₀ L s.heap m) (ho : K.lookup a = some ⟨.type "list", od, .seq vs.toArray n, sl⟩) (hi : IntsAre vs ns)
    (hg : ∀ i : Int, ns.getD i.toNat 0 = g i) (hn : ns.length = 13) (h1 : 1 ≤ k) (h2 : k ≤ 12) (h : ∀ t, Q (.int (g k) t) s)
    (hs : subscripted slice false (.ref a) (.int k u) = operate [.ref a, .int k u] (getItem (.ref a) (.int k u)) := by with_unfolding_all rfl) :
    wpAny (model prog w) A (subscriptTail value slice (.ref a) (.int k u)) Q E s :=
  item_anyK (listIn X F ho) hi (by omega) (by rw [hn]; omega) (by omega) (fun t => by rw [hg]; exact h t) hs
end Mine
open Mine
local macro_rules | `(tactic| walk_at "eval ListComp") => `(tactic| (k_here; lct_look; lcg_calm; k_dflt (refine listComp_tup (F₀ := by k_asm) (by with_unfolding_all rfl) (by decide) (by rfl) (by decide) (by rfl) ?_)))
local macro_rules | `(tactic| walk_at "MineSrc") => `(tactic| (k_here; k_dflt (refine MineSrc.intro (n := 9) (by rfl) (by k_asm) (by k_asm) (by k_mem) (by rfl) (by exact Nat.le_of_ble_eq_true rfl) ?_; intro g')))
local macro_rules | `(tactic| walk_at "ite") => `(tactic| (k_here; k_dflt (refine test_off ?te ?_; (case te => exact wd_same (by decide) (by decide))); walk_say "MINE test"))
local macro_rules | `(tactic| walk_at "CompRestT") => `(tactic| (with_unfolding_all (refine LCt.CompRestT.succ ?_; intro v' I' oI' C' oC' D' m' h' tk' E' hv' hC' hx' F' N' off' ne'; lcg_open hv'; (have off9 := off'); (try simp only [LCg.Off3, and_true] at off'))))
local macro_rules | `(tactic| walk_at "CompEnd") => `(tactic| (k_here; (try dsimp only); k_dflt (refine' turn_end ?tF ?tN ?tO ?tS ?_; (case tF => k_asm); (case tN => k_asm); (case tO => assumption); (case tS => exact TupAt.of (by k_mem))); (try dsimp only); walk_say "MINE turn"))
local macro_rules | `(tactic| walk_at "subscriptTail Name Name ref int") => `(tactic| (k_here; (with_reducible show wpAny _ _ (subscriptTail _ _ (Value.ref _) (Value.int _ _)) _ _ _); k_dflt (first
  | (refine' month_item dimT ?kx ?kf ?ko ?ki ?kg ?kn ?k1 ?k2 ?_ ?ks; (case kx => k_asm); (case kf => k_asm); (case ko => k_is); (case ki => l_ints); (case kg => exact fun _ => rfl); (case kn => rfl); (case k1 => omega); (case k2 => omega); (case ks => with_unfolding_all rfl); k_whole)
  | (refine' month_item dbmT ?kx ?kf ?ko ?ki ?kg ?kn ?k1 ?k2 ?_ ?ks; (case kx => k_asm); (case kf => k_asm); (case ko => k_is); (case ki => l_ints); (case kg => exact fun _ => rfl); (case kn => rfl); (case k1 => omega); (case k2 => omega); (case ks => with_unfolding_all rfl); k_whole)); intro _; walk_say "MINE item"))
set_option maxRecDepth 100000 in
set_option maxHeartbeats 8000000 in
theorem PySem.Challenge.cw_kg0007_01_holds : PySem.Challenge.rw_kg0007_01.Holds := by
  k_with "tree" => simp only [leapI, dby, dimF, dbmF, ordF, wd]
  k_with "tree" => (first | exact dbmF_hi (by assumption) | exact dbmF_lo (by assumption) | exact dimF_29 (by assumption) (by assumption) | exact dimF_ne (by assumption) | exact dimF_28 (by assumption))
  k_with "fact _days_in_month" => exact dimF_is
  k_with "call ref" => k_call_by "_is_leap" (fun y => decide (leapI y = 1))
  k_with "call ref" => k_call_by "_days_before_year" dby
  k_with "call ref" => k_call_rec "_days_in_month" dimF (fun _ m => 1 ≤ m ∧ m ≤ 12) (fun _ _ => 2)
  k_with "call ref" => k_call_rec "_days_before_month" dbmF (fun _ m => 1 ≤ m ∧ m ≤ 12) (fun _ _ => 2)
  k_with "call ref" => k_call_rec "_ymd2ord" ordF (fun y m d => 1 ≤ m ∧ m ≤ 12 ∧ 1 ≤ d ∧ (d ≤ 28 ∨ d ≤ dimF y m ∨ (m = 2 ∧ d = 29 ∧ Int.fmod y 4 = 0 ∧ (Int.fmod y 100 ≠ 0 ∨ Int.fmod y 400 = 0)))) (fun _ _ _ => 4)
  k_with "call ref" => k_call_rec "_law_weekday" wd (fun y m d => 1 ≤ m ∧ m ≤ 12 ∧ 1 ≤ d ∧ (d ≤ 28 ∨ d ≤ dimF y m ∨ (m = 2 ∧ d = 29 ∧ Int.fmod y 4 = 0 ∧ (Int.fmod y 100 ≠ 0 ∨ Int.fmod y 400 = 0)))) (fun _ _ _ => 6)
  k_with "end" => simp only [wd_29, wd_28] at *
  open_k
