import PyProof.Rows.All
import Wide.All
import OpenK.AllK
import Wide.FinOn
import Lean
import PySem.Challenge.RW_iu0044_01
open PySem PySem.W PyProof.Rows PySem.Spec PySem.Calls PyProof.V
set_option Elab.async false
set_option maxRecDepth 100000
namespace Mine
set_option maxHeartbeats 8000000 in
open_top hd for PySem.Challenge.rw_iu0044_01
/-! ### the text's own pieces, read off the program -/
def defAt (k : Nat) : Stmt := (PySem.Challenge.pw_iu0044_01.main.body[k]?).getD (.Pass default)
def fnBody : Stmt → List Stmt
  | .FunctionDef _ _ b _ _ _ _ _ _ _ => b
  | _ => []
def fnScope : Stmt → Scope
  | .FunctionDef _ _ _ _ _ _ sc _ _ _ => sc
  | _ => default
def fnParams : Stmt → Arguments
  | .FunctionDef _ a _ _ _ _ _ _ _ _ => a
  | _ => default
def inOf : Stmt → List Stmt
  | .For _ _ b _ _ => b
  | .While _ b _ _ => b
  | .If _ b _ _ => b
  | _ => []
def nth (l : List Stmt) (k : Nat) : Stmt := (l[k]?).getD (.Pass default)

theorem fr_names {g h : Heap} {L : Addr} {m : Str → Option Value} (ps : List (Str × Value)) (hp : ∀ p ∈ ps, m p.1 = some p.2) (F : Fr g L h m) : Fr g L h (kstB m ps) := by
  have e : kstB m ps = m := by
    funext y
    exact kstB_eq hp fun _ => rfl
  rw [e]; exact F
theorem news_sub {g h : Heap} {L : Addr} {l l' : List (Addr × Obj)} (N : News g L h l) (hs : ∀ p ∈ l', p ∈ l) : News g L h l' := fun p hp => N p (hs p hp)

section
variable {prog : Program} {w : World} {A : Around} {E : Value → Shared → Prop} {s : Shared} {env : Env} {g : Heap} {x : Str} {body : List Stmt} {Q : Flow → Shared → Prop}

/-- the end of a turn of a loop whose iterator lies at I -/
def TurnEnd (g : Heap) (L I : Addr) (oI : Obj) (J : (Str → Option Value) → List (Addr × Obj) → Prop) (s : Shared) (Q : Flow → Shared → Prop) (f : Flow) (s₂ : Shared) : Prop :=
  match f with
  | .ret v => Q (.ret v) s₂
  | .brk => Q .next s₂
  | _ => ∃ h' tk' m' news', s₂ = { s with heap := h', toks := tk' } ∧ Fr g L h' m' ∧ News g L h' ((I, oI) :: news') ∧ (∀ p ∈ news', p.1 ≠ I) ∧ J m' news'

theorem range_inv {r : Addr} {a₀ b₀ : Int} {t₀ u₀ v₀ : Tok} {n : Nat} {m₀ : Str → Option Value} {news : List (Addr × Obj)} (J : Nat → (Str → Option Value) → List (Addr × Obj) → Prop)
    (hh : A.handled = none) (hr : IsRange s.heap r a₀ b₀ 1 t₀ u₀ v₀) (hsmall : Builtin.Range.small a₀ b₀ 1 = true) (hn : Builtin.Range.rangeSize a₀ b₀ 1 = (n : Int)) (F : Fr g env.locals s.heap m₀) (N : News g env.locals s.heap news) (hj : J 0 m₀ news)
    (turn : ∀ i t m₁ news₁ h tk I oI, i < n → J i m₁ news₁ → (∀ p ∈ news₁, p.1 ≠ I) →
      Fr g env.locals h (fun y => if y = x then some (.int (a₀ + (i : Int)) t) else m₁ y) → News g env.locals h ((I, oI) :: news₁) →
      wpAny (model prog w) A (execs body env) (TurnEnd g env.locals I oI (J (i + 1)) s Q) E { s with heap := h, toks := tk })
    (done : ∀ m₁ news₁ h tk, J n m₁ news₁ → Fr g env.locals h m₁ → News g env.locals h news₁ → Q .next { s with heap := h, toks := tk }) :
    wpAny (model prog w) A (pyIter (.ref r)) (fun it s₂ => LoopAtV prog w A g env x body Q E it s₂) E s := by
  refine wpAny_pyIter_range hr hsmall ?_
  have W : Walks prog w A s.heap.objs.size [s.heap.objs.size] [s.heap.objs.size] n (fun i v => i < n ∧ ∃ t, v = .int (a₀ + i * 1) t)
      (fun i h => IsRangeIter h s.heap.objs.size (a₀ + (i : Nat) * 1) ((n : Int) - (i : Nat)) 1) := (Walks.range hh _ a₀ 1 n).bound
  refine ⟨s.heap.objs.size, _, _, n, _, _, m₀, news, J, rfl, W, ?_, ?_, ?_, (by show IsRangeIter _ _ _ _ _; rw [hn]; simpa using Heap.get?_push_size _ rfl), F.push _, (fun p hp => ⟨Heap.get?_push_of_some _ (N p hp).1, (N p hp).2⟩), hj, ?_, ?_⟩
  · intro hm
    exact absurd F.ns.lt ((List.mem_singleton.mp hm) ▸ Nat.lt_irrefl _)
  · intro b hb
    rw [List.mem_singleton.mp hb]
    exact next_is_new F
  · intro p hp hI
    exact absurd (Heap.lt_size (N p hp).1) ((List.mem_singleton.mp hI) ▸ Nat.lt_irrefl _)
  · rintro i v m₁ news₁ s₁ own ⟨hh', tk', rfl⟩ hin ⟨_, t, rfl⟩ hJ hoff hown hget hall hst F₁ N₁
    have e1 : a₀ + (i : Int) * 1 = a₀ + (i : Int) := by omega
    rw [e1] at F₁
    obtain ⟨oI, hoI⟩ : ∃ o, hh'.get? s.heap.objs.size = some o := ⟨_, hst⟩
    have hI : (s.heap.objs.size, oI) ∈ own := hall s.heap.objs.size (List.mem_singleton.mpr rfl) (next_is_new F) oI hoI
    have hoff' : ∀ p ∈ news₁, p.1 ≠ s.heap.objs.size := fun p hp e => hoff p hp (List.mem_singleton.mpr e)
    have N₂ : News g env.locals hh' ((s.heap.objs.size, oI) :: news₁) := fun p hp => N₁ p ((List.mem_cons.mp hp).elim (fun h => List.mem_append.mpr (.inl (h ▸ hI))) fun h => List.mem_append.mpr (.inr h))
    refine wpAny_mono (turn i t m₁ news₁ hh' tk' s.heap.objs.size oI hin hJ hoff' F₁ N₂) (fun f s₂ p => ?_) fun _ _ e => e
    have back : ∀ p ∈ own, p = (s.heap.objs.size, oI) := fun p hp => by
      have h1 := List.mem_singleton.mp (hown p hp)
      have h2 := hget p hp
      rw [h1] at h2
      have h3 := hget _ hI
      have h4 := Option.some.inj (h2.symm.trans h3)
      exact Prod.ext h1 h4
    have fin : TurnEnd g env.locals s.heap.objs.size oI (J (i + 1)) s Q .next s₂ → LoopStepU g env.locals [s.heap.objs.size] own (J (i + 1)) { s with heap := hh', toks := tk' } .next s₂ := by
      rintro ⟨h', tk, m', news', e, F', N', hn', hm⟩
      refine ⟨rfl, h', tk, m', news', e, F', fun p hp => ?_, fun p hp hq => hn' p hp (List.mem_singleton.mp hq), hm⟩
      rcases List.mem_append.mp hp with hp | hp
      · rw [back p hp]; exact N' _ (.head _)
      · exact N' _ (.tail _ hp)
    cases f with
    | ret v => exact .ret p
    | brk => exact .brk p
    | next => exact .next (fin p)
    | cont => exact .cont (fin p)
  · rintro h' tk' m' news' F' N' _ hJ
    exact done m' news' h' tk' hJ F' N'
end
theorem fr_turn {g h : Heap} {L : Addr} {m : Str → Option Value} {x : Str} {v : Value} (ps : List (Str × Value)) (hp : ∀ p ∈ ps, m p.1 = some p.2) (F : Fr g L h (fun y => if y = x then some v else m y)) :
    Fr g L h (fun y => if y = x then some v else kstB m ps y) := by
  have e : kstB m ps = m := by
    funext y
    exact kstB_eq hp fun _ => rfl
  rw [e]; exact F
theorem kstB_self {m : Str → Option Value} {ps : List (Str × Value)} (hp : ∀ p ∈ ps, m p.1 = some p.2) : kstB m ps = m := by
  funext y
  exact kstB_eq hp fun _ => rfl

theorem wp_execs_app {M : Model} {Γ : PySem.Ctx} {env : Env} {r : List Stmt} {Q : Flow → Pos → Shared → Prop} {E : Value → Pos → Shared → Prop} : ∀ (l : List Stmt) (p : Pos) (s : Shared),
    PySem.Sem.wp M Γ (execs l env) (fun f p' s' => match f with | .next => PySem.Sem.wp M Γ (execs r env) Q E p' s' | f => Q f p' s') E p s → PySem.Sem.wp M Γ (execs (l ++ r) env) Q E p s
  | [], p, s, h => h
  | st :: l, p, s, h => by
    rw [execs_cons, PySem.Sem.wp_bind'] at h
    show PySem.Sem.wp M Γ (execs (st :: (l ++ r)) env) Q E p s
    rw [execs_cons, PySem.Sem.wp_bind']
    refine PySem.Sem.wp_mono M Γ _ (fun f p' s' h' => ?_) (fun _ _ _ h' => h') _ _ h
    cases f with
    | next => exact wp_execs_app l p' s' h'
    | _ => exact h'
theorem execs_app {M : Model} {A : Around} {E : Value → Shared → Prop} {s : Shared} {env : Env} {l r : List Stmt} {Q : Flow → Shared → Prop}
    (h : wpAny M A (execs l env) (fun f s' => match f with | .next => wpAny M A (execs r env) Q E s' | f => Q f s') E s) : wpAny M A (execs (l ++ r) env) Q E s := by
  intro Γ p hΓ
  refine wp_execs_app l p s (PySem.Sem.wp_mono M Γ _ (fun f p' s' h' => ?_) (fun _ _ _ h' => h') p s (h Γ p hΓ))
  cases f with
  | next => exact h' Γ p' hΓ
  | _ => exact h'

section
variable {prog : Program} {w : World} {A₀ A : Around} {s : Shared} {base h₀ : Heap} {outer : List Env} {L : Addr} {m mg mb : Str → Option Value} {env : Env}
  {R : Result → Shared → Prop} {name qual : Str} {params : Arguments} {body : List Stmt} {scope : Scope} {dV kV doc pm cdv ct oc : Value} {an od : Option Addr} {osl : Array (Option Value)} {f : Addr} {args : Args} {binds : List (Str × Value)}
  {K : Frag} {p : Program} {loose : List Str} {mean : ExcName → Option Value}

/-- entering a def: everything that stood stays as it was -/
theorem enter_ext (B : Below A₀ base outer h₀) (F : Fr h₀ L s.heap m) (X₀ : K.In h₀) (T : Top p loose mean mg mb h₀) (hA : A.frames = some (env :: outer)) (hf : env.frame = some L) (hke : env.scope.kind = .function)
    (ho : K.lookup f = some ⟨oc, od, .func (fnOf name qual params body scope dV kV doc pm an cdv ct), osl⟩) (hcd : codeIn K cdv qual = true) (hroom : A.depth < recursionLimit)
    (hbind : BindsTo s (fnOf name qual params body scope dV kV doc pm an cdv ct) args binds) (hloc : ∀ y ∈ binds, scope.names.lookup y.1 = some .local)
    (h : ∀ g L' h₁ tk, g = s.heap → Fr g L' h₁ (fun y => binds.reverse.lookup y) → Below A base (env :: outer) g → K.In g → Top p loose mean mg mb g →
      wpAny (model prog w) (A.deeper (envX qual scope L' f cdv [])) (execs body (envX qual scope L' f cdv []))
        (fun fl s' => R (.ok (.ret (match fl with | .ret v => v | _ => .none))) s')
        (fun e s' => wpAny (model prog w) (A.deeper (envX qual scope L' f cdv [])) (leaving (envX qual scope L' f cdv []) e) (fun _ s'' => R (.error e) s'') (fun e' s'' => R (.error e') s'') s')
        { s with heap := h₁, toks := tk })
    (hcell : ∀ x ∈ scope.names, x.2 ≠ .cell) (hco : scope.isCoroutine = false := by rfl) (hgen : scope.isGenerator = false := by rfl) (hk : scope.kind = .function := by rfl) : codeAny (model prog w) A (.call (.ref f) args) R s := by
  have st : h₀.StaysIn s.heap := fun b o e => F.keep b o e
  have B₁ := pushX B F hf hke
  have B₂ : Below A base (env :: outer) s.heap := ⟨hA, fun b o e => st b o (B.stays b o e), B₁.frames⟩
  refine codeAny_call_def (fd := fnX name qual params body scope [] dV kV doc pm an cdv ct) (body := body) (binds := binds) hroom ((X₀.keeps F.keep) _ _ ho) rfl (T.nolimit.keeps F.keep) (codeRec_of (X₀.keeps F.keep) hcd) rfl hbind hcell hloc (fun h₁ hns hk₁ => ?_) hco hgen hk
  exact h s.heap s.heap.objs.size h₁ _ rfl ⟨hns, hk₁, Nat.le_refl _⟩ B₂ (X₀.keeps st) (T.keeps st)
end

/-! ### rules of our own: an item at an index that may lie below nought -/
def wrapAt (ns : List Int) (k : Int) : Int := ns.getD (if k < 0 then (k + (ns.length : Int)).toNat else k.toNat) 0
section
variable {prog : Program} {w : World} {A : Around} {E : Value → Shared → Prop} {s : Shared} {h₀ : Heap} {L D : Addr} {news : List (Addr × Obj)} {vs : List Value} {ns : List Int} {n : Nat} {k : Int} {u : Tok}
theorem sub_wrap {value slice : PySem.Expr} {Q : Value → Shared → Prop} (N : News h₀ L s.heap news) (hm : (D, W.listOf vs.toArray n) ∈ news) (hi : IntsAre vs ns) (h0 : -(ns.length : Int) ≤ k) (h1 : k < ns.length) (hfit : (ns.length : Int) < 2 ^ 62)
    (h : ∀ t, Q (.int (wrapAt ns k) t) s)
    (hs : subscripted slice false (.ref D) (.int k u) = operate [.ref D, .int k u] (getItem (.ref D) (.int k u)) := by with_unfolding_all rfl) :
    wpAny (model prog w) A (subscriptTail value slice (.ref D) (.int k u)) Q E s := by
  have hl : s.heap.IsList D vs.toArray := PySem.IsL.isList (n := n) (N _ hm).1
  have hsz : vs.toArray.size = ns.length := by simp [hi.length]
  by_cases hk : k < 0
  · obtain ⟨t, hx⟩ := hi.get (k + ns.length).toNat _ (ints_getD (k := k + ns.length) (by omega) (by omega))
    refine tail_any hl.typeIs slot_list_getitem.lookup (wpAny_getItem_list_neg hl hk (by rw [hsz]; exact h0) (by omega) (by rw [hsz]; simpa using hx) ?_) hs
    have e := h t
    unfold wrapAt at e
    rw [if_pos hk] at e
    exact e
  · refine tail_any hl.typeIs slot_list_getitem.lookup (getItem_intsK hl hi (by omega) h1 (by omega) fun t => ?_) hs
    have e := h t
    unfold wrapAt at e
    rw [if_neg hk] at e
    exact e
end
local macro_rules | `(tactic| walk_at "subscriptTail") => `(tactic| (k_here; (with_reducible show wpAny _ _ (subscriptTail _ _ (Value.ref _) (Value.int (_ - _) _)) _ _ _); k_dflt (refine' sub_wrap ?k1 ?k2 ?k3 ?k4 ?k5 ?k6 ?_ ?k7; (case k1 => k_asm); (case k2 => k_mem); (case k3 => with_reducible assumption); (case k4 => omega); (case k5 => omega); (case k6 => omega); (case k7 => with_unfolding_all rfl); k_whole); intro _; (try dsimp only)))
section
variable {prog : Program} {w : World} {A : Around} {E : Value → Shared → Prop} {s : Shared} {h₀ : Heap} {L : Addr} {m : Str → Option Value} {news : List (Addr × Obj)}
theorem min3_rule {a b c : Int} {t u x : Tok} {Q : Value → Shared → Prop} (hh : A.handled = none) (F : Fr h₀ L s.heap m) (N : News h₀ L s.heap news)
    (h : ∀ h' tk t', Fr h₀ L h' m → News h₀ L h' news → Q (.int (min (min a b) c) t') { s with heap := h', toks := tk }) :
    wpAny (model prog w) A (call (.builtin "min") [.int a t, .int b u, .int c x]) Q E s := by
  refine min_three_ints hh fun h' tk hk => ?_
  have key := fun tok => h h' tk tok (F.grownK hk) (N.grown hk)
  by_cases hba : b < a <;> by_cases hc1 : c < b <;> by_cases hc2 : c < a <;> simp only [hba, hc1, hc2, if_true, if_false] at key ⊢
  all_goals first
    | (have e : min (min a b) c = a := by omega) ; rw [e] at key; exact key _
    | (have e : min (min a b) c = b := by omega) ; rw [e] at key; exact key _
    | (have e : min (min a b) c = c := by omega) ; rw [e] at key; exact key _
end
local macro_rules | `(tactic| walk_at "call builtin:min") => `(tactic| (k_here; (with_reducible show wpAny _ _ (call (Value.builtin "min") [Value.int _ _, Value.int _ _, Value.int _ _]) _ _ _); k_dflt (refine' min3_rule ?k1 ?k2 ?k3 ?_; (case k1 => with_unfolding_all rfl); (case k2 => k_asm); (case k3 => k_asm); k_whole); intro h' tk' t' F' N'; (try k_sweep)))

/-- where the walk is to halt -/
def Hold (P : Prop) : Prop := P
theorem Hold.mk {P : Prop} (h : Hold P) : P := h
local macro_rules | `(tactic| walk_at "pyIter ref") => `(tactic| k_extra "hold")
local macro_rules | `(tactic| walk_at "exec For Name Call cons nil") => `(tactic| k_extra "hold for")

/-- a fact kept from the walk's own closers -/
structure Known (P : Prop) : Prop where
  out : P
section
variable {prog : Program} {w : World} {A : Around} {E : Value → Shared → Prop} {s : Shared}
theorem eq_known {x y : Str} {t u : Tok} {b : Bool} {Q : Value → Shared → Prop} (hb : Known ((x == y) = b)) (h : Q (.bool b) s) : wpAny (model prog w) A (compareOp .Eq (.str x t) (.str y u)) Q E s :=
  PyProof.Rows.eq_str (by rw [hb.out]; exact h)
theorem ne_known {x y : Str} {t u : Tok} {b : Bool} {Q : Value → Shared → Prop} (hb : Known ((x == y) = b)) (h : Q (.bool (!b)) s) : wpAny (model prog w) A (compareOp .NotEq (.str x t) (.str y u)) Q E s :=
  PyProof.Rows.ne_str (by unfold bne; rw [hb.out]; exact h)
end
local macro_rules | `(tactic| walk_at "compareOp Eq str str") => `(tactic| (k_here; (with_reducible refine eq_known (by assumption) ?_); (try dsimp only)))
local macro_rules | `(tactic| walk_at "compareOp NotEq str str") => `(tactic| (k_here; (with_reducible refine ne_known (by assumption) ?_); (try dsimp only)))
local macro_rules | `(tactic| walk_at "exec If") => `(tactic| k_extra "hold if")

def eqAt (x y : Str) (i j : Nat) : Bool := Txt.item x (i : Int) == Txt.item y (j : Int)
/-! ### the plain law, first part: the table of edits by rows -/
/-- the least number of edits between the first i letters and the first j letters; e i j: letter i is letter j -/
def Dm (e : Nat → Nat → Bool) (sw : Bool) (i j : Nat) : Int :=
  match i, j with
  | 0, j => (j : Int)
  | i + 1, 0 => (i : Int) + 1
  | i + 1, j + 1 =>
    let b := min (min (Dm e sw i (j + 1) + 1) (Dm e sw (i + 1) j + 1)) (Dm e sw i j + if e i j then 0 else 1)
    if sw && decide (0 < i) && decide (0 < j) && e i (j - 1) && e (i - 1) j && !(e i j) then min b (Dm e sw (i - 1) (j - 1) + 1) else b
termination_by i + j
decreasing_by all_goals omega

section
variable {e : Nat → Nat → Bool} {sw : Bool}
theorem Dm_zero_left (j : Nat) : Dm e sw 0 j = j := by rw [Dm]
theorem Dm_zero_right (i : Nat) : Dm e sw i 0 = i := by
  cases i with
  | zero => rw [Dm]
  | succ i => rw [Dm]; omega
theorem Dm_succ (i j : Nat) : Dm e sw (i + 1) (j + 1) =
    if (sw && decide (0 < i) && decide (0 < j) && e i (j - 1) && e (i - 1) j && !(e i j)) = true then
      min (min (min (Dm e sw i (j + 1) + 1) (Dm e sw (i + 1) j + 1)) (Dm e sw i j + if e i j then 0 else 1)) (Dm e sw (i - 1) (j - 1) + 1)
    else min (min (Dm e sw i (j + 1) + 1) (Dm e sw (i + 1) j + 1)) (Dm e sw i j + if e i j then 0 else 1) := by
  rw [Dm]
/-- the base of a cell, without the swap -/
def baseAt (e : Nat → Nat → Bool) (sw : Bool) (i j : Nat) : Int := min (min (Dm e sw i (j + 1) + 1) (Dm e sw (i + 1) j + 1)) (Dm e sw i j + if e i j then 0 else 1)
theorem Dm_le_base (i j : Nat) : Dm e sw (i + 1) (j + 1) ≤ baseAt e sw i j := by
  rw [Dm_succ]; unfold baseAt
  split <;> omega
end

/-- a row of the list kept by the code: the first j places hold f, the others nought, the last holds l -/
def prow (f : Nat → Int) (n j : Nat) (l : Int) : List Int := (List.range n).map (fun q => if q < j then f q else 0) ++ [l]
theorem prow_length (f : Nat → Int) (n j : Nat) (l : Int) : (prow f n j l).length = n + 1 := by simp [prow]
theorem prow_get {f : Nat → Int} {n j : Nat} {l : Int} {q : Nat} (hq : q < n) : (prow f n j l).getD q 0 = if q < j then f q else 0 := by
  unfold prow
  simp [List.getD_eq_getElem?_getD, List.getElem?_append, hq]
theorem prow_last {f : Nat → Int} {n j : Nat} {l : Int} : (prow f n j l).getD n 0 = l := by
  unfold prow
  simp [List.getD_eq_getElem?_getD, List.getElem?_append]
theorem prow_wrap {f : Nat → Int} {n j : Nat} {l : Int} {q : Nat} (hq : q ≤ n) (hj : q ≤ j) : wrapAt (prow f n j l) ((q : Int) - 1) = if q = 0 then l else f (q - 1) := by
  unfold wrapAt
  rw [prow_length]
  by_cases h : q = 0
  · subst h
    have e1 : (((0 : Nat) : Int) - 1 < 0) := by omega
    rw [if_pos e1, if_pos rfl]
    have e2 : (((0 : Nat) : Int) - 1 + ((n + 1 : Nat) : Int)).toNat = n := by omega
    rw [e2, prow_last]
  · have e1 : ¬ ((q : Int) - 1 < 0) := by omega
    rw [if_neg e1, if_neg h]
    have e2 : ((q : Int) - 1).toNat = q - 1 := by omega
    rw [e2, prow_get (by omega), if_pos (by omega)]
theorem prow_set {f : Nat → Int} {n j : Nat} {l : Int} {v : Int} (hj : j < n) (hv : v = f j) : (prow f n j l).set j v = prow f n (j + 1) l := by
  subst hv
  apply List.ext_getElem
  · simp [prow]
  · intro q h1 h2
    have hq : q < n + 1 := by simpa [prow_length] using h2
    rw [List.getElem_set]
    by_cases e1 : j = q
    · subst e1
      rw [if_pos rfl]
      simp [prow, hj]
    · rw [if_neg e1]
      simp only [prow, List.getElem_append, List.length_map, List.length_range]
      split
      · simp only [List.getElem_map, List.getElem_range]
        by_cases h3 : q < j
        · rw [if_pos h3, if_pos (by omega)]
        · rw [if_neg h3, if_neg (by omega)]
      · rfl
theorem prow_zero (f : Nat → Int) (n : Nat) (l : Int) : prow f n 0 l = List.replicate n 0 ++ [l] := by
  unfold prow
  congr 1
  apply List.ext_getElem
  · simp
  · intro q h1 h2
    simp
theorem prow_full {f : Nat → Int} {n : Nat} {l : Int} : prow f n n l = (List.range n).map f ++ [l] := by
  unfold prow
  congr 1
  apply List.map_congr_left
  intro q hq
  rw [if_pos (List.mem_range.mp hq)]
theorem eqAt_cost (x y : Str) (i j : Nat) : (if (Txt.item x (i : Int) != Txt.item y (j : Int)) = true then (1 : Int) else 0) = if eqAt x y i j then 0 else 1 := by
  unfold eqAt
  by_cases h : Txt.item x (i : Int) = Txt.item y (j : Int)
  · simp [h]
  · simp [h]
theorem row_base {e : Nat → Nat → Bool} {sw : Bool} {n i q : Nat} {c : Int} (hq : q < n) (hc : c = if e i q then 0 else 1) :
    min (min ((prow (fun q => Dm e sw i (q + 1)) n n (Dm e sw i 0)).getD (q : Int).toNat 0 + 1) (wrapAt (prow (fun q => Dm e sw (i + 1) (q + 1)) n q (Dm e sw (i + 1) 0)) ((q : Int) - 1) + 1)) (wrapAt (prow (fun q => Dm e sw i (q + 1)) n n (Dm e sw i 0)) ((q : Int) - 1) + c) = baseAt e sw i q := by
  have e1 : (q : Int).toNat = q := by omega
  rw [e1, prow_get hq, if_pos hq, prow_wrap (j := q) (by omega) (Nat.le_refl _), prow_wrap (j := n) (by omega) (by omega), hc]
  unfold baseAt
  by_cases h : q = 0
  · subst h; simp
  · rw [if_neg h, if_neg h]
    have e2 : q - 1 + 1 = q := by omega
    rw [e2]
theorem Dm_false (e : Nat → Nat → Bool) (i j : Nat) : Dm e false (i + 1) (j + 1) = baseAt e false i j := by
  rw [Dm_succ]; simp [baseAt]
theorem first_row (e : Nat → Nat → Bool) (sw : Bool) (n : Nat) : rangeKs 1 ((n : Int) + 1 - 1).toNat ++ [0] = prow (fun q => Dm e sw 0 (q + 1)) n n (Dm e sw 0 0) := by
  rw [prow_full, Dm_zero_left]
  have e1 : ((n : Int) + 1 - 1).toNat = n := by omega
  rw [e1]
  unfold rangeKs
  congr 1
  apply List.map_congr_left
  intro q _
  rw [Dm_zero_left]
  omega

theorem ite_lt_min (a c : Int) : (if a < c then a else c) = min c a := by split <;> omega
theorem set_twice {ns : List Int} {j : Nat} {b v : Int} {C : Prop} [Decidable C] (hj : j < ns.length) :
    (if C then (ns.set (j : Int).toNat b).set (j : Int).toNat (min ((ns.set (j : Int).toNat b).getD (j : Int).toNat 0) v) else ns.set (j : Int).toNat b) = ns.set (j : Int).toNat (if C then min b v else b) := by
  have e : (j : Int).toNat = j := by omega
  rw [e]
  split
  · rw [List.set_set]
    congr 1
    simp [List.getD_eq_getElem?_getD, hj]
  · rfl
theorem prow_wrap2 {f : Nat → Int} {n : Nat} {l : Int} {q : Nat} (hq : q ≤ n) (h0 : 0 < q) : wrapAt (prow f n n l) ((q : Int) - 2) = if q = 1 then l else f (q - 2) := by
  have e : ((q : Int) - 2) = ((q - 1 : Nat) : Int) - 1 := by omega
  rw [e, prow_wrap (by omega) (by omega)]
  by_cases h : q = 1
  · subst h; simp
  · rw [if_neg (by omega), if_neg h]
    congr 1
/-- a cell of damerau_levenshtein -/
theorem dam_cell {x y : Str} {n i q : Nat} {b : Int} {rs : List Int} (hq : q < n) (hb : b = baseAt (eqAt x y) true i q) (hr : 0 < i → rs = prow (fun q => Dm (eqAt x y) true (i - 1) (q + 1)) n n (Dm (eqAt x y) true (i - 1) 0)) :
    (if (decide (0 < i) && decide (0 < q) && (Txt.item x (i : Int) == Txt.item y ((q : Int) - 1)) && (Txt.item x ((i : Int) - 1) == Txt.item y (q : Int)) && !(Txt.item x (i : Int) == Txt.item y (q : Int))) = true then min b (wrapAt rs ((q : Int) - 2) + 1) else b) = Dm (eqAt x y) true (i + 1) (q + 1) := by
  rw [Dm_succ]
  have hb' := hb
  unfold baseAt at hb'
  rw [← hb']
  by_cases hi : 0 < i
  · by_cases h0 : 0 < q
    · have e1 : ((i : Int) - 1) = ((i - 1 : Nat) : Int) := by omega
      have e2 : ((q : Int) - 1) = ((q - 1 : Nat) : Int) := by omega
      have hw : wrapAt rs ((q : Int) - 2) = Dm (eqAt x y) true (i - 1) (q - 1) := by
        rw [hr hi, prow_wrap2 (by omega) h0]
        by_cases h1 : q = 1
        · subst h1; simp
        · rw [if_neg h1]
          have e3 : q - 2 + 1 = q - 1 := by omega
          rw [e3]
      rw [hw, e1, e2]
      rfl
    · have e : decide (0 < q) = false := by simp [h0]
      rw [e]
      simp
  · have e : decide (0 < i) = false := by simp [hi]
    rw [e]
    simp

section
variable {e : Nat → Nat → Bool} {sw : Bool}
theorem Dm_cases (i j : Nat) : Dm e sw (i + 1) (j + 1) = Dm e sw i (j + 1) + 1 ∨ Dm e sw (i + 1) (j + 1) = Dm e sw (i + 1) j + 1 ∨ Dm e sw (i + 1) (j + 1) = Dm e sw i j + (if e i j then 0 else 1) ∨
    (0 < i ∧ 0 < j ∧ sw = true ∧ e i (j - 1) = true ∧ e (i - 1) j = true ∧ Dm e sw (i + 1) (j + 1) = Dm e sw (i - 1) (j - 1) + 1) := by
  rw [Dm_succ]
  split
  · rename_i h
    simp only [Bool.and_eq_true, decide_eq_true_eq, Bool.not_eq_true'] at h
    obtain ⟨⟨⟨⟨⟨h1, h2⟩, h3⟩, h4⟩, h5⟩, h6⟩ := h
    by_cases hc : Dm e sw (i - 1) (j - 1) + 1 ≤ min (min (Dm e sw i (j + 1) + 1) (Dm e sw (i + 1) j + 1)) (Dm e sw i j + if e i j then 0 else 1)
    · exact .inr (.inr (.inr ⟨h2, h3, h1, h4, h5, by omega⟩))
    · omega
  · omega
theorem Dm_le_left (i j : Nat) : Dm e sw (i + 1) (j + 1) ≤ Dm e sw i (j + 1) + 1 := by
  have h := Dm_le_base (e := e) (sw := sw) i j
  unfold baseAt at h
  omega
theorem Dm_le_up (i j : Nat) : Dm e sw (i + 1) (j + 1) ≤ Dm e sw (i + 1) j + 1 := by
  have h := Dm_le_base (e := e) (sw := sw) i j
  unfold baseAt at h
  omega
theorem Dm_le_sub (i j : Nat) : Dm e sw (i + 1) (j + 1) ≤ Dm e sw i j + (if e i j then 0 else 1) := by
  have h := Dm_le_base (e := e) (sw := sw) i j
  unfold baseAt at h
  omega
theorem Dm_nonneg (i j : Nat) : 0 ≤ Dm e sw i j := by
  suffices h : ∀ n i j, i + j ≤ n → 0 ≤ Dm e sw i j from h _ i j (Nat.le_refl _)
  intro n
  induction n with
  | zero =>
    intro i j h
    have h1 : i = 0 := by omega
    have h2 : j = 0 := by omega
    subst h1; subst h2
    rw [Dm_zero_left]; omega
  | succ n ih =>
    intro i j h
    cases i with
    | zero => rw [Dm_zero_left]; omega
    | succ i =>
      cases j with
      | zero => rw [Dm_zero_right]; omega
      | succ j =>
        have c1 := ih i (j + 1) (by omega)
        have c2 := ih (i + 1) j (by omega)
        have c3 := ih i j (by omega)
        rcases Dm_cases (e := e) (sw := sw) i j with q | q | q | ⟨h1, h2, _, _, _, q⟩
        · omega
        · omega
        · split at q <;> omega
        · have c4 := ih (i - 1) (j - 1) (by omega)
          omega
/-- every row that comes earlier holds a number not above the last cell -/
theorem row_below (m n i : Nat) (hi : i ≤ m) : ∃ j, j ≤ n ∧ Dm e sw i j ≤ Dm e sw m n := by
  suffices h : ∀ k m n, m + n ≤ k → i ≤ m → ∃ j, j ≤ n ∧ Dm e sw i j ≤ Dm e sw m n from h _ m n (Nat.le_refl _) hi
  intro k
  induction k with
  | zero =>
    intro m n h hi
    have h1 : i = m := by omega
    exact ⟨n, Nat.le_refl _, by rw [h1]; omega⟩
  | succ k ih =>
    intro m n h hi
    by_cases him : i = m
    · exact ⟨n, Nat.le_refl _, by rw [him]; omega⟩
    · cases m with
      | zero => omega
      | succ m =>
        cases n with
        | zero => exact ⟨0, Nat.le_refl _, by rw [Dm_zero_right, Dm_zero_right]; omega⟩
        | succ n =>
          rcases Dm_cases (e := e) (sw := sw) m n with q | q | q | ⟨h1, h2, _, _, _, q⟩
          · obtain ⟨j, hj, hd⟩ := ih m (n + 1) (by omega) (by omega)
            exact ⟨j, hj, by omega⟩
          · obtain ⟨j, hj, hd⟩ := ih (m + 1) n (by omega) (by omega)
            exact ⟨j, by omega, by omega⟩
          · obtain ⟨j, hj, hd⟩ := ih m n (by omega) (by omega)
            exact ⟨j, by omega, by split at q <;> omega⟩
          · by_cases him' : i = m
            · refine ⟨n, by omega, ?_⟩
              have h3 := Dm_le_sub (e := e) (sw := sw) (m - 1) (n - 1)
              have e1 : m - 1 + 1 = m := by omega
              have e2 : n - 1 + 1 = n := by omega
              rw [e1, e2] at h3
              rw [him']
              split at h3 <;> omega
            · obtain ⟨j, hj, hd⟩ := ih (m - 1) (n - 1) (by omega) (by omega)
              exact ⟨j, by omega, by omega⟩
theorem early_law {m n i : Nat} {l : Int} (hi : i ≤ m) (h : ∀ c ∈ prow (fun q => Dm e sw i (q + 1)) n n (Dm e sw i 0), l < c) : l < Dm e sw m n := by
  obtain ⟨j, hj, hd⟩ := row_below (e := e) (sw := sw) m n i hi
  have hm : Dm e sw i j ∈ prow (fun q => Dm e sw i (q + 1)) n n (Dm e sw i 0) := by
    rw [prow_full]
    cases j with
    | zero => simp
    | succ j =>
      apply List.mem_append_left
      exact List.mem_map.mpr ⟨j, List.mem_range.mpr (by omega), rfl⟩
  have := h _ hm
  omega
theorem last_cell {m n : Nat} : wrapAt (prow (fun q => Dm e sw m (q + 1)) n n (Dm e sw m 0)) ((n : Int) - 1) = Dm e sw m n := by
  rw [prow_wrap (Nat.le_refl _) (Nat.le_refl _)]
  by_cases h : n = 0
  · subst h; simp
  · rw [if_neg h]
    have e1 : n - 1 + 1 = n := by omega
    rw [e1]
theorem Dm_comm {e' : Nat → Nat → Bool} (he : ∀ i j, e' j i = e i j) (i j : Nat) : Dm e' sw j i = Dm e sw i j := by
  suffices h : ∀ n i j, i + j ≤ n → Dm e' sw j i = Dm e sw i j from h _ i j (Nat.le_refl _)
  intro n
  induction n with
  | zero =>
    intro i j h
    have h1 : i = 0 := by omega
    have h2 : j = 0 := by omega
    subst h1; subst h2
    rw [Dm_zero_left, Dm_zero_left]
  | succ n ih =>
    intro i j h
    cases i with
    | zero => rw [Dm_zero_left, Dm_zero_right]
    | succ i =>
      cases j with
      | zero => rw [Dm_zero_left, Dm_zero_right]
      | succ j =>
        rw [Dm_succ, Dm_succ, ih i (j + 1) (by omega), ih (i + 1) j (by omega), ih i j (by omega)]
        simp only [he]
        have c : (sw && decide (0 < j) && decide (0 < i) && e (i - 1) j && e i (j - 1) && !(e i j)) = (sw && decide (0 < i) && decide (0 < j) && e i (j - 1) && e (i - 1) j && !(e i j)) := by
          cases sw <;> cases (decide (0 < i)) <;> cases (decide (0 < j)) <;> cases e i (j - 1) <;> cases e (i - 1) j <;> cases e i j <;> rfl
        rw [c]
        split
        · rename_i h9
          simp only [Bool.and_eq_true, decide_eq_true_eq, Bool.not_eq_true'] at h9
          rw [ih (i - 1) (j - 1) (by omega)]
          omega
        · omega
end
theorem Dm_bound (e : Nat → Nat → Bool) (sw : Bool) (i j : Nat) : Dm e sw i j ≤ (i : Int) + (j : Int) := by
  induction i with
  | zero => rw [Dm_zero_left]; omega
  | succ i ih =>
    cases j with
    | zero => rw [Dm_zero_right]; omega
    | succ j =>
      have := Dm_le_left (e := e) (sw := sw) i j
      omega

/-! ### the plain law, second part: the search by layers finds the least number of edits -/
section
variable {α : Type} [DecidableEq α]
theorem nodup_len : ∀ {l G : List α}, l.Nodup → (∀ x ∈ l, x ∈ G) → l.length ≤ G.length
  | [], _, _, _ => by simp
  | x :: l, G, hn, hs => by
    have hx : x ∈ G := hs x (.head _)
    have hn' := List.nodup_cons.mp hn
    have ih := nodup_len (l := l) (G := G.erase x) hn'.2 (fun y hy => by
      have hne : y ≠ x := fun q => hn'.1 (q ▸ hy)
      exact (List.mem_erase_of_ne hne).mpr (hs y (.tail _ hy)))
    rw [List.length_erase_of_mem hx] at ih
    have h1 : 0 < G.length := List.length_pos_of_mem hx
    rw [List.length_cons]
    omega
end
def grid8 : List (Nat × Nat) := (List.range 8).flatMap fun a => (List.range 8).map fun b => (a, b)
theorem grid8_length : grid8.length = 64 := by decide +kernel
theorem mem_grid8 {p : Nat × Nat} (h1 : p.1 ≤ 7) (h2 : p.2 ≤ 7) : p ∈ grid8 := by
  unfold grid8
  exact List.mem_flatMap.mpr ⟨p.1, List.mem_range.mpr (by omega), List.mem_map.mpr ⟨p.2, List.mem_range.mpr (by omega), rfl⟩⟩
theorem vis_len {vis : List (Nat × Nat)} {m n : Nat} (hm : m ≤ 7) (hn : n ≤ 7) (hd : vis.Nodup) (h : ∀ p ∈ vis, p.1 ≤ m ∧ p.2 ≤ n) : vis.length ≤ 64 := by
  have := nodup_len (G := grid8) hd fun p hp => mem_grid8 (by have := (h p hp).1; omega) (by have := (h p hp).2; omega)
  rw [grid8_length] at this
  exact this

section
variable (e : Nat → Nat → Bool) (sw : Bool) (m n : Nat)
def succs (i j : Nat) : List (Nat × Nat) :=
  (if i < m then [(i + 1, j)] else []) ++ (if j < n then [(i, j + 1)] else []) ++
    (if i < m ∧ j < n then (if (sw && decide (i + 1 < m) && decide (j + 1 < n) && e i (j + 1) && e (i + 1) j) = true then [(i + 1, j + 1), (i + 2, j + 2)] else [(i + 1, j + 1)]) else [])

theorem succs_len (i j : Nat) : (succs e sw m n i j).length ≤ 4 := by
  unfold succs
  simp only [List.length_append]
  split <;> split <;> split <;> (try split) <;> simp <;> omega

structure Bfs (k : Int) (vis us : List (Nat × Nat)) (X : Nat × Nat → Prop) : Prop where
  g1 : ∀ p ∈ vis, p.1 ≤ m ∧ p.2 ≤ n ∧ Dm e sw p.1 p.2 ≤ k
  g2 : ∀ a b, a ≤ m → b ≤ n → Dm e sw a b < k → (a, b) ∈ vis
  g3 : ∀ a b, (a, b) ∈ vis → Dm e sw a b = k → a < m → b < n → e a b = true → (a + 1, b + 1) ∈ vis ∨ X (a + 1, b + 1)
  g4 : ∀ a b, (a, b) ∈ vis → Dm e sw a b = k → ∀ p ∈ succs e sw m n a b, p ∈ us
  g5 : ∀ p ∈ us, p.1 ≤ m ∧ p.2 ≤ n ∧ Dm e sw p.1 p.2 ≤ k + 1
  g6 : vis.Nodup
  g7 : us.length ≤ 4 * vis.length

variable {e sw m n}
theorem Dm_match {i j : Nat} (h : e i j = true) : Dm e sw (i + 1) (j + 1) ≤ Dm e sw i j := by
  have := Dm_le_sub (e := e) (sw := sw) i j
  rw [if_pos h] at this
  omega
theorem Dm_swap (hd : ∀ i j k l, e i l = true → e k l = true → e k j = true → e i j = true) {i j : Nat} (hs : sw = true) (h1 : e i (j + 1) = true) (h2 : e (i + 1) j = true) : Dm e sw (i + 2) (j + 2) ≤ Dm e sw i j + 1 := by
  by_cases h3 : e (i + 1) (j + 1) = true
  · have h4 := hd i j (i + 1) (j + 1) h1 h3 h2
    have a1 := Dm_match (sw := sw) h3
    have a2 := Dm_match (sw := sw) h4
    have a3 : Dm e sw (i + 2) (j + 2) = Dm e sw (i + 1 + 1) (j + 1 + 1) := rfl
    omega
  · rw [show i + 2 = (i + 1) + 1 from rfl, show j + 2 = (j + 1) + 1 from rfl, Dm_succ, if_pos (by simp [hs, h1, h2, h3])]
    have e1 : i + 1 - 1 = i := rfl
    have e2 : j + 1 - 1 = j := rfl
    rw [e1, e2]
    omega
theorem succs_sound (hd : ∀ i j k l, e i l = true → e k l = true → e k j = true → e i j = true) {i j : Nat} (hi : i ≤ m) (hj : j ≤ n) : ∀ p ∈ succs e sw m n i j, p.1 ≤ m ∧ p.2 ≤ n ∧ Dm e sw p.1 p.2 ≤ Dm e sw i j + 1 := by
  have hup : i < m → Dm e sw (i + 1) j ≤ Dm e sw i j + 1 := fun _ => by
    cases j with
    | zero => rw [Dm_zero_right, Dm_zero_right]; omega
    | succ j => exact Dm_le_left i j
  have hle : j < n → Dm e sw i (j + 1) ≤ Dm e sw i j + 1 := fun _ => by
    cases i with
    | zero => rw [Dm_zero_left, Dm_zero_left]; omega
    | succ i => exact Dm_le_up i j
  have hsub : Dm e sw (i + 1) (j + 1) ≤ Dm e sw i j + 1 := by
    have := Dm_le_sub (e := e) (sw := sw) i j
    split at this <;> omega
  intro p hp
  unfold succs at hp
  rcases List.mem_append.mp hp with hp | hp
  · rcases List.mem_append.mp hp with hp | hp
    · split at hp
      · rename_i h
        rcases List.mem_singleton.mp hp with rfl
        exact ⟨h, hj, hup h⟩
      · cases hp
    · split at hp
      · rename_i h
        rcases List.mem_singleton.mp hp with rfl
        exact ⟨hi, h, hle h⟩
      · cases hp
  · split at hp
    · rename_i h
      split at hp
      · rename_i hc
        simp only [Bool.and_eq_true, decide_eq_true_eq] at hc
        obtain ⟨⟨⟨⟨c1, c2⟩, c3⟩, c4⟩, c5⟩ := hc
        rcases List.mem_cons.mp hp with rfl | hp
        · exact ⟨h.1, h.2, hsub⟩
        · rcases List.mem_singleton.mp hp with rfl
          exact ⟨c2, c3, Dm_swap hd c1 c4 c5⟩
      · rcases List.mem_singleton.mp hp with rfl
        exact ⟨h.1, h.2, hsub⟩
    · cases hp

/-- one turn of the inner loop -/
theorem Bfs.step (hd : ∀ i j k l, e i l = true → e k l = true → e k j = true → e i j = true) {k : Int} {vis us : List (Nat × Nat)} {i j : Nat} (B : Bfs e sw m n k vis us (fun p => p = (i, j))) (hv : (i, j) ∉ vis) (hi : i ≤ m) (hj : j ≤ n) (hk : Dm e sw i j ≤ k) :
    Dm e sw i j = k ∧ Bfs e sw m n k ((i, j) :: vis) (us ++ succs e sw m n i j) (fun p => p = if i < m ∧ j < n ∧ e i j = true then (i + 1, j + 1) else (i, j)) := by
  have hik : Dm e sw i j = k := by
    have : ¬ Dm e sw i j < k := fun h => hv (B.g2 i j hi hj h)
    omega
  refine ⟨hik, ?_, ?_, ?_, ?_, ?_, ?_, ?_⟩
  · intro p hp
    rcases List.mem_cons.mp hp with rfl | hp
    · exact ⟨hi, hj, hk⟩
    · exact B.g1 p hp
  · intro a b ha hb h
    exact .tail _ (B.g2 a b ha hb h)
  · intro a b hab hdk ham hbn he
    rcases List.mem_cons.mp hab with q | hab
    · have q1 : a = i := congrArg Prod.fst q
      have q2 : b = j := congrArg Prod.snd q
      subst q1; subst q2
      exact .inr (by rw [if_pos ⟨ham, hbn, he⟩])
    · rcases B.g3 a b hab hdk ham hbn he with h | h
      · exact .inl (.tail _ h)
      · exact .inl (by rw [h]; exact .head _)
  · intro a b hab hdk p hp
    rcases List.mem_cons.mp hab with q | hab
    · have q1 : a = i := congrArg Prod.fst q
      have q2 : b = j := congrArg Prod.snd q
      subst q1; subst q2
      exact List.mem_append_right _ hp
    · exact List.mem_append_left _ (B.g4 a b hab hdk p hp)
  · intro p hp
    rcases List.mem_append.mp hp with hp | hp
    · exact B.g5 p hp
    · have := succs_sound hd hi hj p hp
      exact ⟨this.1, this.2.1, by omega⟩
  · exact List.nodup_cons.mpr ⟨hv, B.g6⟩
  · have := succs_len e sw m n i j
    have := B.g7
    simp only [List.length_append, List.length_cons]
    omega

/-- what a while's turn begins with -/
structure Lay (k : Int) (vis ps : List (Nat × Nat)) : Prop where
  w0 : 0 ≤ k
  w1 : ∀ a b, (a, b) ∈ vis ↔ a ≤ m ∧ b ≤ n ∧ Dm e sw a b < k
  w2 : ∀ p ∈ ps, p.1 ≤ m ∧ p.2 ≤ n ∧ Dm e sw p.1 p.2 ≤ k
  w3 : ∀ a b, a ≤ m → b ≤ n → Dm e sw a b = k → ∃ t, t ≤ a ∧ t ≤ b ∧ (a - t, b - t) ∈ ps ∧ ∀ r, r < t → e (a - t + r) (b - t + r) = true
  w4 : vis.Nodup

theorem Lay.start : Lay (e := e) (sw := sw) (m := m) (n := n) 0 [] [(0, 0)] where
  w0 := Int.le_refl 0
  w1 := fun a b => ⟨fun h => (by cases h), fun h => by have := Dm_nonneg (e := e) (sw := sw) a b; omega⟩
  w2 := fun p hp => by
    rcases List.mem_singleton.mp hp with rfl
    exact ⟨Nat.zero_le _, Nat.zero_le _, by show Dm e sw 0 0 ≤ 0; rw [Dm_zero_left]; omega⟩
  w3 := by
    intro a
    induction a with
    | zero =>
      intro b _ _ hz
      rw [Dm_zero_left] at hz
      have hb0 : b = 0 := by omega
      subst hb0
      exact ⟨0, Nat.le_refl _, Nat.le_refl _, .head _, fun r hr => absurd hr (Nat.not_lt_zero _)⟩
    | succ a ih =>
      intro b ha hb hz
      cases b with
      | zero => rw [Dm_zero_right] at hz; omega
      | succ b =>
        rcases Dm_cases (e := e) (sw := sw) a b with q | q | q | ⟨_, _, _, _, _, q⟩
        · have := Dm_nonneg (e := e) (sw := sw) a (b + 1); omega
        · have := Dm_nonneg (e := e) (sw := sw) (a + 1) b; omega
        · have h0 := Dm_nonneg (e := e) (sw := sw) a b
          by_cases he : e a b = true
          · rw [if_pos he] at q
            obtain ⟨t, t1, t2, t3, t4⟩ := ih b (by omega) (by omega) (by omega)
            refine ⟨t + 1, by omega, by omega, ?_, ?_⟩
            · have e1 : a + 1 - (t + 1) = a - t := by omega
              have e2 : b + 1 - (t + 1) = b - t := by omega
              rw [e1, e2]; exact t3
            · intro r hr
              have e1 : a + 1 - (t + 1) = a - t := by omega
              have e2 : b + 1 - (t + 1) = b - t := by omega
              rw [e1, e2]
              by_cases hrt : r < t
              · exact t4 r hrt
              · have e3 : a - t + r = a := by omega
                have e4 : b - t + r = b := by omega
                rw [e3, e4]; exact he
          · rw [if_neg he] at q; omega
        · have := Dm_nonneg (e := e) (sw := sw) (a - 1) (b - 1); omega
  w4 := List.nodup_nil

theorem Lay.bfs {k : Int} {vis ps : List (Nat × Nat)} (W : Lay (e := e) (sw := sw) (m := m) (n := n) k vis ps) : Bfs e sw m n k vis [] (fun _ => False) where
  g1 := fun p hp => by have := (W.w1 p.1 p.2).mp hp; exact ⟨this.1, this.2.1, by omega⟩
  g2 := fun a b ha hb h => (W.w1 a b).mpr ⟨ha, hb, h⟩
  g3 := fun a b h hk => by have := (W.w1 a b).mp h; omega
  g4 := fun a b h hk => by have := (W.w1 a b).mp h; omega
  g5 := fun p hp => by cases hp
  g6 := W.w4
  g7 := by simp

theorem Lay.next {k : Int} {vis vis' ps us : List (Nat × Nat)} (W : Lay (e := e) (sw := sw) (m := m) (n := n) k vis ps) (B : Bfs e sw m n k vis' us (fun _ => False)) (hp : ∀ p ∈ ps, p ∈ vis') :
    Lay (e := e) (sw := sw) (m := m) (n := n) (k + 1) vis' us := by
  have full : ∀ a b, a ≤ m → b ≤ n → Dm e sw a b = k → (a, b) ∈ vis' := by
    intro a b ha hb hk
    obtain ⟨t, t1, t2, t3, t4⟩ := W.w3 a b ha hb hk
    have go : ∀ r, r ≤ t → (a - t + r, b - t + r) ∈ vis' := by
      intro r
      induction r with
      | zero => intro _; exact hp _ t3
      | succ r ih =>
        intro hr
        have h1 := ih (by omega)
        have he := t4 r (by omega)
        have hb1 := B.g1 _ h1
        have hm := Dm_match (sw := sw) he
        by_cases hlt : Dm e sw (a - t + r) (b - t + r) = k
        · rcases B.g3 _ _ h1 hlt (by omega) (by omega) he with h | h
          · exact h
          · exact h.elim
        · refine B.g2 _ _ (by omega) (by omega) ?_
          have h2 : Dm e sw (a - t + r) (b - t + r) ≤ k := hb1.2.2
          have e1 : a - t + (r + 1) = a - t + r + 1 := rfl
          have e2 : b - t + (r + 1) = b - t + r + 1 := rfl
          rw [e1, e2]
          omega
    have := go t (Nat.le_refl _)
    have e1 : a - t + t = a := by omega
    have e2 : b - t + t = b := by omega
    rw [e1, e2] at this
    exact this
  have w1 : ∀ a b, (a, b) ∈ vis' ↔ a ≤ m ∧ b ≤ n ∧ Dm e sw a b < k + 1 := by
    intro a b
    constructor
    · intro h
      have : a ≤ m ∧ b ≤ n ∧ Dm e sw a b ≤ k := B.g1 _ h
      exact ⟨this.1, this.2.1, by omega⟩
    · rintro ⟨ha, hb, h⟩
      by_cases hk : Dm e sw a b = k
      · exact full a b ha hb hk
      · exact B.g2 a b ha hb (by omega)
  have hk0 := W.w0
  refine ⟨by omega, w1, B.g5, ?_, B.g6⟩
  intro a
  induction a with
  | zero =>
    intro b ha hb hk
    rw [Dm_zero_left] at hk
    cases b with
    | zero => omega
    | succ b =>
      have hb' : Dm e sw 0 b = k := by rw [Dm_zero_left]; omega
      have hv := full 0 b (Nat.zero_le _) (by omega) hb'
      refine ⟨0, Nat.le_refl _, Nat.zero_le _, ?_, fun r hr => absurd hr (Nat.not_lt_zero _)⟩
      refine B.g4 0 b hv hb' _ ?_
      unfold succs
      exact List.mem_append_left _ (List.mem_append_right _ (by rw [if_pos (by omega)]; exact .head _))
  | succ a ih =>
    intro b ha hb hk
    cases b with
    | zero =>
      rw [Dm_zero_right] at hk
      have hb' : Dm e sw a 0 = k := by rw [Dm_zero_right]; omega
      have hv := full a 0 (by omega) (Nat.zero_le _) hb'
      refine ⟨0, Nat.zero_le _, Nat.le_refl _, ?_, fun r hr => absurd hr (Nat.not_lt_zero _)⟩
      refine B.g4 a 0 hv hb' _ ?_
      unfold succs
      exact List.mem_append_left _ (List.mem_append_left _ (by rw [if_pos (by omega)]; exact .head _))
    | succ b =>
      rcases Dm_cases (e := e) (sw := sw) a b with q | q | q | ⟨h1, h2, h3, h4, h5, q⟩
      · have hb' : Dm e sw a (b + 1) = k := by omega
        have hv := full a (b + 1) (by omega) (by omega) hb'
        refine ⟨0, Nat.zero_le _, Nat.zero_le _, ?_, fun r hr => absurd hr (Nat.not_lt_zero _)⟩
        refine B.g4 a (b + 1) hv hb' _ ?_
        unfold succs
        exact List.mem_append_left _ (List.mem_append_left _ (by rw [if_pos (by omega)]; exact .head _))
      · have hb' : Dm e sw (a + 1) b = k := by omega
        have hv := full (a + 1) b (by omega) (by omega) hb'
        refine ⟨0, Nat.zero_le _, Nat.zero_le _, ?_, fun r hr => absurd hr (Nat.not_lt_zero _)⟩
        refine B.g4 (a + 1) b hv hb' _ ?_
        unfold succs
        exact List.mem_append_left _ (List.mem_append_right _ (by rw [if_pos (by omega)]; exact .head _))
      · by_cases he : e a b = true
        · rw [if_pos he] at q
          obtain ⟨t, t1, t2, t3, t4⟩ := ih b (by omega) (by omega) (by omega)
          refine ⟨t + 1, by omega, by omega, ?_, ?_⟩
          · have e1 : a + 1 - (t + 1) = a - t := by omega
            have e2 : b + 1 - (t + 1) = b - t := by omega
            rw [e1, e2]; exact t3
          · intro r hr
            have e1 : a + 1 - (t + 1) = a - t := by omega
            have e2 : b + 1 - (t + 1) = b - t := by omega
            rw [e1, e2]
            by_cases hrt : r < t
            · exact t4 r hrt
            · have e3 : a - t + r = a := by omega
              have e4 : b - t + r = b := by omega
              rw [e3, e4]; exact he
        · rw [if_neg he] at q
          have hb' : Dm e sw a b = k := by omega
          have hv := full a b (by omega) (by omega) hb'
          refine ⟨0, Nat.zero_le _, Nat.zero_le _, ?_, fun r hr => absurd hr (Nat.not_lt_zero _)⟩
          refine B.g4 a b hv hb' _ ?_
          unfold succs
          refine List.mem_append_right _ ?_
          rw [if_pos ⟨by omega, by omega⟩]
          split
          · exact .head _
          · exact .head _
      · have hb' : Dm e sw (a - 1) (b - 1) = k := by omega
        have hv := full (a - 1) (b - 1) (by omega) (by omega) hb'
        refine ⟨0, Nat.zero_le _, Nat.zero_le _, ?_, fun r hr => absurd hr (Nat.not_lt_zero _)⟩
        refine B.g4 (a - 1) (b - 1) hv hb' _ ?_
        unfold succs
        refine List.mem_append_right _ ?_
        have e1 : a - 1 + 1 = a := by omega
        have e2 : b - 1 + 1 = b := by omega
        rw [if_pos ⟨by omega, by omega⟩, e1, e2, if_pos (by simp only [Bool.and_eq_true, decide_eq_true_eq]; exact ⟨⟨⟨⟨h3, by omega⟩, by omega⟩, h5⟩, h4⟩)]
        have e3 : a - 1 + 2 = a + 1 := by omega
        have e4 : b - 1 + 2 = b + 1 := by omega
        rw [e3, e4]
        exact .tail _ (.head _)
end

/-! ### what every walk of a def of the text knows -/
structure CX (w : World) (loose : List Str) (mean : ExcName → Option Value) (mg mb : Str → Option Value) (dp un : Nat) (gd : Option (List Code)) (cn : Str) (cs : Scope) (L₀ a : Addr) (ccd : Value) (cl : List (Str × Addr)) (outer : List Env) (base g : Heap) : Prop where
  B : Below (ktrTop dp un gd cn cs L₀ a ccd cl outer) base (envX cn cs L₀ a ccd cl :: outer) g
  X : (hd.heap_39 w.params).In g
  T : Top hd.view_39 loose mean mg mb g
  hk : cs.kind = .function
  hdp : dp + 1 < recursionLimit
  hun : un + 8 < cLine

/-! ### levenshtein -/
def levBody : List Stmt := fnBody (defAt 1)
def levScope : Scope := fnScope (defAt 1)
def levOuter : Stmt := nth levBody 2
def levInner : Stmt := nth (inOf levOuter) 1
abbrev levEnv (L : Addr) : Env := envX (Str.ofString "levenshtein") levScope L 22 (.ref 21) []
section
variable {w : World} {loose : List Str} {mean : ExcName → Option Value} {mg mb : Str → Option Value} {dp un : Nat} {gd : Option (List Code)} {cn : Str} {cs : Scope} {L₀ a : Addr} {ccd : Value} {cl : List (Str × Addr)} {outer : List Env} {base g : Heap} {L : Addr} {s : Shared} {Q : Flow → Shared → Prop} {E : Value → Shared → Prop}
set_option maxHeartbeats 8000000 in
theorem lev_in_turn (C : CX w loose mean mg mb dp un gd cn cs L₀ a ccd cl outer base g) {I T O J : Addr} {oI oJ : Obj} {m : Str → Option Value} {x y : Str} {tx ty ti tj : Tok} {i j : Nat} {lim : Value} {vs us : List Value} {ns ms : List Int} {nT nO : Nat}
    (hx : x.length ≤ 7) (hy : y.length ≤ 7) (hi : i < x.length) (hj : j < y.length)
    (iT : IntsAre vs ns) (iO : IntsAre us ms) (lT : ns.length = y.length + 1) (lO : ms.length = y.length + 1) (hTI : @Ne Nat T I) (hOI : @Ne Nat O I) (hTO : @Ne Nat T O) (hTJ : @Ne Nat T J)
    (F : Fr g L s.heap (fun z => if z = Str.ofString "y" then some (.int (j : Int) tj) else if z = Str.ofString "thisrow" then some (.ref T) else if z = Str.ofString "oneago" then some (.ref O) else if z = Str.ofString "x" then some (.int (i : Int) ti) else if z = Str.ofString "seq1" then some (.str x tx) else if z = Str.ofString "seq2" then some (.str y ty) else if z = Str.ofString "limit" then some lim else m z))
    (N : News g L s.heap [(I, oI), (T, W.listOf vs.toArray nT), (O, W.listOf us.toArray nO), (J, oJ)])
    (ret : ∀ h' tk' m' vs', Fr g L h' m' → (∀ p ∈ [(Str.ofString "thisrow", Value.ref T), (Str.ofString "oneago", .ref O), (Str.ofString "x", .int (i : Int) ti), (Str.ofString "seq1", .str x tx), (Str.ofString "seq2", .str y ty), (Str.ofString "limit", lim)], m' p.1 = some p.2) →
      News g L h' [(I, oI), (T, W.listOf vs'.toArray nT), (O, W.listOf us.toArray nO), (J, oJ)] →
      IntsAre vs' (ns.set (j : Int).toNat (min (min (ms.getD (j : Int).toNat 0 + 1) (wrapAt ns ((j : Int) - 1) + 1)) (wrapAt ms ((j : Int) - 1) + if (Txt.item x (i : Int) != Txt.item y (j : Int)) = true then 1 else 0))) →
      Q .next { s with heap := h', toks := tk' }) :
    wpAny (model PySem.Challenge.rw_iu0044_01.row.prog w) ((ktrTop dp un gd cn cs L₀ a ccd cl outer).deeper (levEnv L)) (execs (inOf levInner) (levEnv L)) Q E s := by
  obtain ⟨B, X, T', hk, hdp, hun⟩ := C
  have e : inOf levInner = inOf levInner := rfl
  conv at e => rhs; whnf
  have e2 : levScope = levScope := rfl
  conv at e2 => rhs; whnf
  unfold levEnv
  rw [e, e2]
  clear e e2
  k_with_none
  k_steps
  exact ret _ _ _ _ (by assumption) (by kst_all) (by assumption) (by assumption)

set_option maxHeartbeats 8000000 in
theorem lev_inner (C : CX w loose mean mg mb dp un gd cn cs L₀ a ccd cl outer base g) {T O J : Addr} {oJ : Obj} {m : Str → Option Value} {x y : Str} {tx ty ti : Tok} {i : Nat} {lim : Value} {vs us : List Value} {nT nO : Nat}
    (hx : x.length ≤ 7) (hy : y.length ≤ 7) (hi : i < x.length)
    (iT : IntsAre vs (prow (fun q => Dm (eqAt x y) false (i + 1) (q + 1)) y.length 0 (Dm (eqAt x y) false (i + 1) 0))) (iO : IntsAre us (prow (fun q => Dm (eqAt x y) false i (q + 1)) y.length y.length (Dm (eqAt x y) false i 0)))
    (hTO : @Ne Nat T O) (hTJ : @Ne Nat T J)
    (F : Fr g L s.heap (fun z => if z = Str.ofString "thisrow" then some (.ref T) else if z = Str.ofString "oneago" then some (.ref O) else if z = Str.ofString "x" then some (.int (i : Int) ti) else if z = Str.ofString "seq1" then some (.str x tx) else if z = Str.ofString "seq2" then some (.str y ty) else if z = Str.ofString "limit" then some lim else m z))
    (N : News g L s.heap [(T, W.listOf vs.toArray nT), (O, W.listOf us.toArray nO), (J, oJ)])
    (hE : PassesOwn (model PySem.Challenge.rw_iu0044_01.row.prog w) ((ktrTop dp un gd cn cs L₀ a ccd cl outer).deeper (levEnv L)) (levEnv L) E)
    (ret : ∀ h' tk' m' vs', Fr g L h' m' → (∀ p ∈ [(Str.ofString "thisrow", Value.ref T), (Str.ofString "oneago", .ref O), (Str.ofString "x", .int (i : Int) ti), (Str.ofString "seq1", .str x tx), (Str.ofString "seq2", .str y ty), (Str.ofString "limit", lim)], m' p.1 = some p.2) →
      News g L h' [(T, W.listOf vs'.toArray nT), (O, W.listOf us.toArray nO), (J, oJ)] →
      IntsAre vs' (prow (fun q => Dm (eqAt x y) false (i + 1) (q + 1)) y.length y.length (Dm (eqAt x y) false (i + 1) 0)) →
      Q .next { s with heap := h', toks := tk' }) :
    wpAny (model PySem.Challenge.rw_iu0044_01.row.prog w) ((ktrTop dp un gd cn cs L₀ a ccd cl outer).deeper (levEnv L)) (exec levInner (levEnv L)) Q E s := by
  have C' := C
  obtain ⟨B, X, T', hk, hdp, hun⟩ := C'
  have e : levInner = .For (.Name (Str.ofString "y") _) _ (inOf levInner) [] _ := rfl
  have e2 : levScope = levScope := rfl
  conv at e2 => rhs; whnf
  rw [e]
  refine For_invVF F rfl rfl ?_ (hE := hE)
  unfold levEnv
  rw [e2]
  k_with_none
  k_with "hold" => refine Hold.mk ?_
  k_steps
  rw [← e2]
  refine range_inv (n := y.length) (fun q m' news' => ∃ vs', news' = [(T, W.listOf vs'.toArray nT), (O, W.listOf us.toArray nO), (J, oJ)] ∧ IntsAre vs' (prow (fun q => Dm (eqAt x y) false (i + 1) (q + 1)) y.length q (Dm (eqAt x y) false (i + 1) 0)) ∧
    (∀ p ∈ [(Str.ofString "thisrow", Value.ref T), (Str.ofString "oneago", .ref O), (Str.ofString "x", .int (i : Int) ti), (Str.ofString "seq1", .str x tx), (Str.ofString "seq2", .str y ty), (Str.ofString "limit", lim)], m' p.1 = some p.2)) rfl (by assumption) (small_one (by omega) (by omega) (by omega) (by omega)) (by rw [rangeSize_nat]; omega) (by assumption) (by assumption) ⟨vs, rfl, iT, by kst_all⟩ ?_ ?_
  · rintro q t m₁ news₁ h tk I oI hq ⟨vs', rfl, iT', hm⟩ hoff F₁ N₁
    rw [Int.zero_add] at F₁
    have hTI : T ≠ I := hoff _ (.head _)
    have hOI : O ≠ I := hoff _ (.tail _ (.head _))
    have hJI : J ≠ I := hoff _ (.tail _ (.tail _ (.head _)))
    refine lev_in_turn C (lim := lim) (m := m₁) hx hy hi hq iT' iO (prow_length _ _ _ _) (prow_length _ _ _ _) hTI hOI hTO hTJ (fr_turn _ hm F₁) N₁ fun h' tk' m' vs'' F' hm' N' iT'' => ?_
    refine ⟨h', tk', m', _, rfl, F', N', ?_, vs'', rfl, ?_, hm'⟩
    · intro p hp
      rcases List.mem_cons.mp hp with rfl | hp
      · exact hTI
      rcases List.mem_cons.mp hp with rfl | hp
      · exact hOI
      rcases List.mem_cons.mp hp with rfl | hp
      · exact hJI
      · cases hp
    · rw [row_base hq (eqAt_cost x y i q), show (q : Int).toNat = q by omega, prow_set hq (Dm_false _ _ _).symm] at iT''
      exact iT''
  · rintro m₁ news₁ h tk ⟨vs', rfl, iT', hm⟩ F₁ N₁
    exact ret h tk m₁ vs' F₁ hm N₁ iT'

def levTail : List Stmt := (inOf levOuter).drop 2
set_option maxHeartbeats 8000000 in
theorem lev_out_tail (C : CX w loose mean mg mb dp un gd cn cs L₀ a ccd cl outer base g) {T I : Addr} {oI : Obj} {m : Str → Option Value} {x y : Str} {tx ty ti : Tok} {i : Nat} {lim : Value} {us : List Value} {ns : List Int} {nT : Nat}
    (hx : x.length ≤ 7) (hy : y.length ≤ 7) (hi : i < x.length) (hl : lim = .none ∨ ∃ l tl, lim = .int l tl ∧ 0 ≤ l ∧ l < 1000)
    (iO : IntsAre us ns) (lT : ns.length = y.length + 1) 
    (F : Fr g L s.heap (fun z => if z = Str.ofString "x" then some (.int (i : Int) ti) else if z = Str.ofString "thisrow" then some (.ref T) else if z = Str.ofString "seq1" then some (.str x tx) else if z = Str.ofString "seq2" then some (.str y ty) else if z = Str.ofString "limit" then some lim else m z))
    (N : News g L s.heap [(T, W.listOf us.toArray nT), (I, oI)])
    (ret : ∀ h' tk' m', Fr g L h' m' → (∀ p ∈ [(Str.ofString "thisrow", Value.ref T), (Str.ofString "seq1", .str x tx), (Str.ofString "seq2", .str y ty), (Str.ofString "limit", lim)], m' p.1 = some p.2) →
      News g L h' [(T, W.listOf us.toArray nT), (I, oI)] → Q .next { s with heap := h', toks := tk' })
    (early : ∀ h' tk' m' l tl t', lim = .int l tl → Fr g L h' m' → (∀ c ∈ ns, l < c) → Q (.ret (.int (l + 1) t')) { s with heap := h', toks := tk' }) :
    wpAny (model PySem.Challenge.rw_iu0044_01.row.prog w) ((ktrTop dp un gd cn cs L₀ a ccd cl outer).deeper (levEnv L)) (execs levTail (levEnv L)) Q E s := by
  have C' := C
  obtain ⟨B, X, T', hk, hdp, hun⟩ := C'
  have e : levTail = levTail := rfl
  conv at e => rhs; whnf
  have e2 : levScope = levScope := rfl
  conv at e2 => rhs; whnf
  unfold levEnv
  rw [e, e2]
  clear e e2
  k_with_none
  rcases hl with rfl | ⟨l, tl, rfl, hl0, hl1⟩
  · k_steps
    exact ret _ _ _ (by assumption) (by kst_all) (by assumption)
  · k_steps
    all_goals first
      | exact early _ _ _ _ _ _ rfl (by assumption) (fun c hc => Int.lt_of_lt_of_le (by assumption) ((by assumption : ∀ a, a ∈ ns → _ ≤ a) c hc))
      | exact ret _ _ _ (by assumption) (by kst_all) (by assumption)

set_option maxHeartbeats 8000000 in
theorem lev_out_turn (C : CX w loose mean mg mb dp un gd cn cs L₀ a ccd cl outer base g) {T I : Addr} {oI : Obj} {m : Str → Option Value} {x y : Str} {tx ty ti : Tok} {i : Nat} {lim : Value} {us : List Value} {nT : Nat}
    (hx : x.length ≤ 7) (hy : y.length ≤ 7) (hi : i < x.length) (hl : lim = .none ∨ ∃ l tl, lim = .int l tl ∧ 0 ≤ l ∧ l < 1000)
    (iO : IntsAre us (prow (fun q => Dm (eqAt x y) false i (q + 1)) y.length y.length (Dm (eqAt x y) false i 0)))
    (hTI : @Ne Nat T I)
    (F : Fr g L s.heap (fun z => if z = Str.ofString "x" then some (.int (i : Int) ti) else if z = Str.ofString "thisrow" then some (.ref T) else if z = Str.ofString "seq1" then some (.str x tx) else if z = Str.ofString "seq2" then some (.str y ty) else if z = Str.ofString "limit" then some lim else m z))
    (N : News g L s.heap [(I, oI), (T, W.listOf us.toArray nT)])
    (hE : PassesOwn (model PySem.Challenge.rw_iu0044_01.row.prog w) ((ktrTop dp un gd cn cs L₀ a ccd cl outer).deeper (levEnv L)) (levEnv L) E)
    (ret : ∀ h' tk' m' vs' T' nT', Fr g L h' m' → (∀ p ∈ [(Str.ofString "thisrow", Value.ref T'), (Str.ofString "seq1", .str x tx), (Str.ofString "seq2", .str y ty), (Str.ofString "limit", lim)], m' p.1 = some p.2) →
      News g L h' [(I, oI), (T', W.listOf vs'.toArray nT')] → @Ne Nat T' I →
      IntsAre vs' (prow (fun q => Dm (eqAt x y) false (i + 1) (q + 1)) y.length y.length (Dm (eqAt x y) false (i + 1) 0)) →
      Q .next { s with heap := h', toks := tk' })
    (early : ∀ h' tk' m' l tl t', lim = .int l tl → Fr g L h' m' → (∀ c ∈ prow (fun q => Dm (eqAt x y) false (i + 1) (q + 1)) y.length y.length (Dm (eqAt x y) false (i + 1) 0), l < c) → Q (.ret (.int (l + 1) t')) { s with heap := h', toks := tk' }) :
    wpAny (model PySem.Challenge.rw_iu0044_01.row.prog w) ((ktrTop dp un gd cn cs L₀ a ccd cl outer).deeper (levEnv L)) (execs (inOf levOuter) (levEnv L)) Q E s := by
  have C' := C
  obtain ⟨B, X, T', hk, hdp, hun⟩ := C'
  have e : inOf levOuter = inOf levOuter := rfl
  conv at e => rhs; whnf
  have e2 : levScope = levScope := rfl
  conv at e2 => rhs; whnf
  unfold levEnv
  rw [e, e2]
  clear e
  k_with_none
  k_with "hold for" => refine Hold.mk ?_
  k_steps
  clear e2
  dsimp only at *
  rename_i D9 ws9 h1 i9 l9 D8 h2 l8 h3 h4 h5 F9 N9
  have i9' : IntsAre ws9 (prow (fun q => Dm (eqAt x y) false (i + 1) (q + 1)) y.length 0 (Dm (eqAt x y) false (i + 1) 0)) := by
    rw [prow_zero, Dm_zero_right]
    simpa using i9
  refine lev_inner C (T := D9) (O := T) (J := I) (oJ := oI) (nT := 0) (nO := nT) (lim := lim) (ti := ti) (tx := tx) (ty := ty) hx hy hi i9' iO (by omega) (by omega)
    (fr_names [(Str.ofString "thisrow", .ref D9), (Str.ofString "oneago", .ref T), (Str.ofString "x", .int (i : Int) ti), (Str.ofString "seq1", .str x tx), (Str.ofString "seq2", .str y ty), (Str.ofString "limit", lim)] (by kst_all) F9)
    (news_sub N9 ?_) hE ?_
  · intro p hp
    simp only [List.mem_cons, List.not_mem_nil, or_false] at hp ⊢
    rcases hp with rfl | rfl | rfl <;> simp
  · intro h' tk' m' vs' F' hm' N' iT'
    have N2 : News g L h' [(D9, W.listOf vs'.toArray 0), (I, oI)] := news_sub N' (by
      intro p hp
      simp only [List.mem_cons, List.not_mem_nil, or_false] at hp ⊢
      rcases hp with rfl | rfl <;> simp)
    refine lev_out_tail C (m := m') (ti := ti) (tx := tx) (ty := ty) (lim := lim) hx hy hi hl iT' (prow_length _ _ _ _) (fr_names [(Str.ofString "x", .int (i : Int) ti), (Str.ofString "thisrow", .ref D9), (Str.ofString "seq1", .str x tx), (Str.ofString "seq2", .str y ty), (Str.ofString "limit", lim)] ?_ F') N2 ?_ ?_
    · simp only [List.forall_mem_cons] at hm' ⊢
      exact ⟨hm'.2.2.1, hm'.1, hm'.2.2.2.1, hm'.2.2.2.2.1, hm'.2.2.2.2.2.1, by simp⟩
    · intro h2 tk2 m2 F2 hm2 N2
      refine ret h2 tk2 m2 vs' D9 0 F2 hm2 (news_sub N2 ?_) (by omega) iT'
      intro p hp
      simp only [List.mem_cons, List.not_mem_nil, or_false] at hp ⊢
      rcases hp with rfl | rfl <;> simp
    · intro h2 tk2 m2 l tl t' e F2 hc
      exact early h2 tk2 m2 l tl t' e F2 hc

def levHead : List Stmt := levBody.take 2
def levRet : List Stmt := levBody.drop 3
set_option maxHeartbeats 8000000 in
theorem lev_outer (C : CX w loose mean mg mb dp un gd cn cs L₀ a ccd cl outer base g) {T : Addr} {m : Str → Option Value} {x y : Str} {tx ty : Tok} {lim : Value} {us : List Value} {nT : Nat}
    (hx : x.length ≤ 7) (hy : y.length ≤ 7) (hl : lim = .none ∨ ∃ l tl, lim = .int l tl ∧ 0 ≤ l ∧ l < 1000)
    (iO : IntsAre us (prow (fun q => Dm (eqAt x y) false 0 (q + 1)) y.length y.length (Dm (eqAt x y) false 0 0)))
    (F : Fr g L s.heap (fun z => if z = Str.ofString "thisrow" then some (.ref T) else if z = Str.ofString "seq1" then some (.str x tx) else if z = Str.ofString "seq2" then some (.str y ty) else if z = Str.ofString "limit" then some lim else m z))
    (N : News g L s.heap [(T, W.listOf us.toArray nT)])
    (hE : PassesOwn (model PySem.Challenge.rw_iu0044_01.row.prog w) ((ktrTop dp un gd cn cs L₀ a ccd cl outer).deeper (levEnv L)) (levEnv L) E)
    (ret : ∀ h' tk' m' vs' T' nT', Fr g L h' m' → (∀ p ∈ [(Str.ofString "thisrow", Value.ref T'), (Str.ofString "seq1", .str x tx), (Str.ofString "seq2", .str y ty), (Str.ofString "limit", lim)], m' p.1 = some p.2) →
      News g L h' [(T', W.listOf vs'.toArray nT')] →
      IntsAre vs' (prow (fun q => Dm (eqAt x y) false x.length (q + 1)) y.length y.length (Dm (eqAt x y) false x.length 0)) →
      Q .next { s with heap := h', toks := tk' })
    (early : ∀ h' tk' m' l tl t' i, lim = .int l tl → Fr g L h' m' → i ≤ x.length → (∀ c ∈ prow (fun q => Dm (eqAt x y) false i (q + 1)) y.length y.length (Dm (eqAt x y) false i 0), l < c) → Q (.ret (.int (l + 1) t')) { s with heap := h', toks := tk' }) :
    wpAny (model PySem.Challenge.rw_iu0044_01.row.prog w) ((ktrTop dp un gd cn cs L₀ a ccd cl outer).deeper (levEnv L)) (exec levOuter (levEnv L)) Q E s := by
  have C' := C
  obtain ⟨B, X, T', hk, hdp, hun⟩ := C'
  have e : levOuter = .For (.Name (Str.ofString "x") _) _ (inOf levOuter) [] _ := rfl
  have e2 : levScope = levScope := rfl
  conv at e2 => rhs; whnf
  rw [e]
  refine For_invVF F rfl rfl ?_ (hE := hE)
  unfold levEnv
  rw [e2]
  k_with_none
  k_with "hold" => refine Hold.mk ?_
  k_steps
  rw [← e2]
  refine range_inv (n := x.length) (fun q m' news' => ∃ vs' T' nT', news' = [(T', W.listOf vs'.toArray nT')] ∧ IntsAre vs' (prow (fun p => Dm (eqAt x y) false q (p + 1)) y.length y.length (Dm (eqAt x y) false q 0)) ∧
    (∀ p ∈ [(Str.ofString "thisrow", Value.ref T'), (Str.ofString "seq1", .str x tx), (Str.ofString "seq2", .str y ty), (Str.ofString "limit", lim)], m' p.1 = some p.2)) rfl (by assumption) (small_one (by omega) (by omega) (by omega) (by omega)) (by rw [rangeSize_nat]; omega) (by assumption) (by assumption) ⟨us, T, nT, rfl, iO, by kst_all⟩ ?_ ?_
  · rintro q t m₁ news₁ h tk I oI hq ⟨vs', T1, nT1, rfl, iT', hm⟩ hoff F₁ N₁
    rw [Int.zero_add] at F₁
    have hTI : T1 ≠ I := hoff _ (.head _)
    refine lev_out_turn C (lim := lim) (m := m₁) (ti := t) (tx := tx) (ty := ty) hx hy hq hl iT' hTI (fr_turn _ hm F₁) N₁ hE ?_ ?_
    · intro h' tk' m' vs'' T2 nT2 F' hm' N' hT2 iT''
      refine ⟨h', tk', m', [(T2, W.listOf vs''.toArray nT2)], rfl, F', N', ?_, vs'', T2, nT2, rfl, iT'', hm'⟩
      intro p hp
      rcases List.mem_cons.mp hp with rfl | hp
      · exact hT2
      · cases hp
    · intro h' tk' m' l tl t' e3 F' hc
      exact early h' tk' m' l tl t' (q + 1) e3 F' hq hc
  · rintro m₁ news₁ h tk ⟨vs', T1, nT1, rfl, iT', hm⟩ F₁ N₁
    exact ret h tk m₁ vs' T1 nT1 F₁ hm N₁ iT'

set_option maxHeartbeats 8000000 in
theorem lev_end (C : CX w loose mean mg mb dp un gd cn cs L₀ a ccd cl outer base g) {T : Addr} {m : Str → Option Value} {y : Str} {ty : Tok} {us : List Value} {ns : List Int} {nT : Nat}
    (hy : y.length ≤ 7) (iO : IntsAre us ns) (lT : ns.length = y.length + 1)
    (F : Fr g L s.heap (fun z => if z = Str.ofString "thisrow" then some (.ref T) else if z = Str.ofString "seq2" then some (.str y ty) else m z))
    (N : News g L s.heap [(T, W.listOf us.toArray nT)])
    (ret : ∀ h' tk' m' t, Fr g L h' m' → Q (.ret (.int (wrapAt ns ((y.length : Int) - 1)) t)) { s with heap := h', toks := tk' }) :
    wpAny (model PySem.Challenge.rw_iu0044_01.row.prog w) ((ktrTop dp un gd cn cs L₀ a ccd cl outer).deeper (levEnv L)) (execs levRet (levEnv L)) Q E s := by
  obtain ⟨B, X, T', hk, hdp, hun⟩ := C
  have e : levRet = levRet := rfl
  conv at e => rhs; whnf
  have e2 : levScope = levScope := rfl
  conv at e2 => rhs; whnf
  unfold levEnv
  rw [e, e2]
  clear e e2
  k_with_none
  k_steps
  exact ret _ _ _ _ (by assumption)

set_option maxHeartbeats 8000000 in
theorem lev_body (C : CX w loose mean mg mb dp un gd cn cs L₀ a ccd cl outer base g) {m : Str → Option Value} {x y : Str} {tx ty : Tok} {lim : Value}
    (hx : x.length ≤ 7) (hy : y.length ≤ 7) (hl : lim = .none ∨ ∃ l tl, lim = .int l tl ∧ 0 ≤ l ∧ l < 1000)
    (F : Fr g L s.heap (fun z => if z = Str.ofString "seq1" then some (.str x tx) else if z = Str.ofString "seq2" then some (.str y ty) else if z = Str.ofString "limit" then some lim else m z))
    (hE : PassesOwn (model PySem.Challenge.rw_iu0044_01.row.prog w) ((ktrTop dp un gd cn cs L₀ a ccd cl outer).deeper (levEnv L)) (levEnv L) E)
    (ret : ∀ h' tk' m' v t, Fr g L h' m' → (v = Dm (eqAt x y) false x.length y.length ∨ ∃ l tl, lim = .int l tl ∧ v = l + 1 ∧ l < Dm (eqAt x y) false x.length y.length) → Q (.ret (.int v t)) { s with heap := h', toks := tk' }) :
    wpAny (model PySem.Challenge.rw_iu0044_01.row.prog w) ((ktrTop dp un gd cn cs L₀ a ccd cl outer).deeper (levEnv L)) (execs levBody (levEnv L)) Q E s := by
  have C' := C
  obtain ⟨B, X, T', hk, hdp, hun⟩ := C'
  have N : News g L s.heap [] := News.nil
  have e : levBody = levBody := rfl
  conv at e => rhs; whnf
  have e2 : levScope = levScope := rfl
  conv at e2 => rhs; whnf
  unfold levEnv
  rw [e, e2]
  clear e
  k_with_none
  k_with "hold for" => refine Hold.mk ?_
  k_steps
  clear e2
  dsimp only at *
  rename_i D9 ws9 h1 i9 l9 h2 F9 N9
  rw [first_row (eqAt x y) false] at i9
  refine lev_outer C (T := D9) (nT := 0) (lim := lim) (tx := tx) (ty := ty) hx hy hl i9
    (fr_names [(Str.ofString "thisrow", .ref D9), (Str.ofString "seq1", .str x tx), (Str.ofString "seq2", .str y ty), (Str.ofString "limit", lim)] (by kst_all) F9) (news_sub N9 ?_) hE ?_ ?_
  · intro p hp
    simp only [List.mem_cons, List.not_mem_nil, or_false] at hp ⊢
    rcases hp with rfl
    simp
  · intro h' tk' m' vs' T2 nT2 F' hm' N' iT'
    refine lev_end C (m := m') (y := y) (ty := ty) hy iT' (prow_length _ _ _ _) (fr_names [(Str.ofString "thisrow", .ref T2), (Str.ofString "seq2", .str y ty)] ?_ F') N' ?_
    · simp only [List.forall_mem_cons] at hm' ⊢
      exact ⟨hm'.1, hm'.2.2.1, by simp⟩
    · intro h3 tk3 m3 t3 F3
      rw [last_cell]
      exact ret h3 tk3 m3 _ t3 F3 (.inl rfl)
  · intro h' tk' m' l tl t' i e3 F' hi hc
    exact ret h' tk' m' _ t' F' (.inr ⟨l, tl, e3, rfl, early_law hi hc⟩)
end

section
variable {w : World} {loose : List Str} {mean : ExcName → Option Value} {mg mb : Str → Option Value} {dp un : Nat} {gd : Option (List Code)} {cn : Str} {cs : Scope} {a : Addr} {ccd : Value} {cl : List (Str × Addr)} {outer : List Env} {A₀ : Around} {base h₀ : Heap} {L : Addr} {m : Str → Option Value} {s : Shared} {Q E : Value → Shared → Prop}
set_option maxHeartbeats 8000000 in
theorem lev_call_at {args : List Value} (B : Below A₀ base outer h₀) (F : Fr h₀ L s.heap m) (X : (hd.heap_39 w.params).In h₀) (T : Top hd.view_39 loose mean mg mb h₀) (hk : cs.kind = .function)
    (hdp : dp + 1 < recursionLimit) (hun : un + 8 < cLine) {x y : Str} {tx ty : Tok} {lim : Value} (hx : x.length ≤ 7) (hy : y.length ≤ 7) (hl : lim = .none ∨ ∃ l tl, lim = .int l tl ∧ 0 ≤ l ∧ l < 1000)
    (hb : ∀ fd : FuncData, fd.params = (fnParams (defAt 1)) → fd.defaults = .ref 15 → fd.kwdefaults = .none → BindsTo s fd ⟨args, []⟩ [(Str.ofString "seq1", .str x tx), (Str.ofString "seq2", .str y ty), (Str.ofString "limit", lim)])
    (ret : ∀ h' tk' v t, s.heap.StaysIn h' → (v = Dm (eqAt x y) false x.length y.length ∨ ∃ l tl, lim = .int l tl ∧ v = l + 1 ∧ l < Dm (eqAt x y) false x.length y.length) → Q (.int v t) { s with heap := h', toks := tk' }) :
    wpAny (model PySem.Challenge.rw_iu0044_01.row.prog w) (ktrTop dp un gd cn cs L a ccd cl outer) (call (.ref 22) args) Q E s := by
  refine wpAny_call ?_
  k_dflt (refine' enter_ext (binds := [(Str.ofString "seq1", .str x tx), (Str.ofString "seq2", .str y ty), (Str.ofString "limit", lim)]) ?k1 ?k2 ?k3 ?k5 ?kA ?kF ?kK ?k6 ?k7 ?k8 ?k9 ?kB ?_ ?c5 ?c2 ?c3 ?c4; (case kA => exact rfl); (case kF => exact rfl); (case kK => assumption); (case k1 => k_asm); (case k2 => k_asm); (case k3 => k_asm); (case k5 => k_asm); (case k6 => k_is); (case k7 => k_is); (case k8 => ktr_room); (case kB => exact locs rfl); (case k9 => exact hb _ rfl rfl rfl); (case c5 => decide); (case c2 => exact rfl); (case c3 => exact rfl); (case c4 => exact rfl))
  k_whole
  intro g L' h' tk' hg F' B' X' T'
  refine lev_body ⟨B', X', T', hk, hdp, hun⟩ (tx := tx) (ty := ty) (lim := lim) hx hy hl (fr_names [(Str.ofString "seq1", .str x tx), (Str.ofString "seq2", .str y ty), (Str.ofString "limit", lim)] (by kst_all) F') (by passes_own) ?_
  intro h2 tk2 m2 v t F2 hv
  subst hg
  exact ret h2 tk2 v t F2.keep hv

theorem lev_call2 (B : Below A₀ base outer h₀) (F : Fr h₀ L s.heap m) (X : (hd.heap_39 w.params).In h₀) (T : Top hd.view_39 loose mean mg mb h₀) (hk : cs.kind = .function)
    (hdp : dp + 1 < recursionLimit) (hun : un + 8 < cLine) {x y : Str} {tx ty : Tok} (hx : x.length ≤ 7) (hy : y.length ≤ 7)
    (ret : ∀ h' tk' t, s.heap.StaysIn h' → Q (.int (Dm (eqAt x y) false x.length y.length) t) { s with heap := h', toks := tk' }) :
    wpAny (model PySem.Challenge.rw_iu0044_01.row.prog w) (ktrTop dp un gd cn cs L a ccd cl outer) (call (.ref 22) [.str x tx, .str y ty]) Q E s := by
  refine lev_call_at B F X T hk hdp hun (tx := tx) (ty := ty) (lim := .none) hx hy (.inl rfl) (fun fd e1 e2 e3 => ?_) fun h' tk' v t hs hv => ?_
  · obtain ⟨_, _, _, _, _, _, _, _, _, _, _, _, _, _, _⟩ := fd
    cases e1; cases e2; cases e3
    exact BindsTo.of_defaults (T := 15) (items := #[.none]) rfl ((X.keeps F.keep) 15 _ rfl) rfl rfl rfl
  · rcases hv with rfl | ⟨l, tl, e, _⟩
    · exact ret h' tk' t hs
    · cases e
theorem lev_call3 (B : Below A₀ base outer h₀) (F : Fr h₀ L s.heap m) (X : (hd.heap_39 w.params).In h₀) (T : Top hd.view_39 loose mean mg mb h₀) (hk : cs.kind = .function)
    (hdp : dp + 1 < recursionLimit) (hun : un + 8 < cLine) {x y : Str} {tx ty tl : Tok} {l : Int} (hx : x.length ≤ 7) (hy : y.length ≤ 7) (hl0 : 0 ≤ l) (hl1 : l < 1000)
    (ret : ∀ h' tk' v t, s.heap.StaysIn h' → (v = Dm (eqAt x y) false x.length y.length ∨ (v = l + 1 ∧ l < Dm (eqAt x y) false x.length y.length)) → Q (.int v t) { s with heap := h', toks := tk' }) :
    wpAny (model PySem.Challenge.rw_iu0044_01.row.prog w) (ktrTop dp un gd cn cs L a ccd cl outer) (call (.ref 22) [.str x tx, .str y ty, .int l tl]) Q E s := by
  refine lev_call_at B F X T hk hdp hun (tx := tx) (ty := ty) (lim := .int l tl) hx hy (.inr ⟨l, tl, rfl, hl0, hl1⟩) (fun fd e1 e2 e3 => ?_) fun h' tk' v t hs hv => ?_
  · obtain ⟨_, _, _, _, _, _, _, _, _, _, _, _, _, _, _⟩ := fd
    cases e1; cases e2; cases e3
    exact BindsTo.of_defaults (T := 15) (items := #[.none]) rfl ((X.keeps F.keep) 15 _ rfl) rfl rfl rfl
  · rcases hv with rfl | ⟨l', tl', e, hv⟩
    · exact ret h' tk' _ t hs (.inl rfl)
    · cases e
      exact ret h' tk' _ t hs (.inr hv)
end

/-! ### damerau_levenshtein -/
def damBody : List Stmt := fnBody (defAt 2)
def damScope : Scope := fnScope (defAt 2)
def damOuter : Stmt := nth damBody 2
def damInner : Stmt := nth (inOf damOuter) 1
abbrev damEnv (L : Addr) : Env := envX (Str.ofString "damerau_levenshtein") damScope L 30 (.ref 29) []
section
variable {w : World} {loose : List Str} {mean : ExcName → Option Value} {mg mb : Str → Option Value} {dp un : Nat} {gd : Option (List Code)} {cn : Str} {cs : Scope} {L₀ a : Addr} {ccd : Value} {cl : List (Str × Addr)} {outer : List Env} {base g : Heap} {L : Addr} {s : Shared} {Q : Flow → Shared → Prop} {E : Value → Shared → Prop}

def damIf : Stmt := nth (inOf damInner) 4
set_option maxHeartbeats 8000000 in
theorem dam_if (C : CX w loose mean mg mb dp un gd cn cs L₀ a ccd cl outer base g) {I T O W2 J : Addr} {oI oJ : Obj} {m : Str → Option Value} {x y : Str} {tx ty ti tj : Tok} {i j : Nat} {lim tv : Value} {vs us ws : List Value} {ns rs : List Int} {nT nO nW : Nat}
    (hx : x.length ≤ 7) (hy : y.length ≤ 7) (hi : i < x.length) (hj : j < y.length)
    (iT : IntsAre vs ns) (iW : IntsAre ws rs) (lT : ns.length = y.length + 1) (lW : rs.length = y.length + 1) (htw : 0 < i → tv = .ref W2)
    (hTI : @Ne Nat T I) (hTO : @Ne Nat T O) (hTJ : @Ne Nat T J) (hTW : @Ne Nat T W2)
    (F : Fr g L s.heap (fun z => if z = Str.ofString "y" then some (.int (j : Int) tj) else if z = Str.ofString "thisrow" then some (.ref T) else if z = Str.ofString "oneago" then some (.ref O) else if z = Str.ofString "twoago" then some tv else if z = Str.ofString "x" then some (.int (i : Int) ti) else if z = Str.ofString "seq1" then some (.str x tx) else if z = Str.ofString "seq2" then some (.str y ty) else if z = Str.ofString "limit" then some lim else m z))
    (N : News g L s.heap [(I, oI), (T, W.listOf vs.toArray nT), (O, W.listOf us.toArray nO), (W2, W.listOf ws.toArray nW), (J, oJ)])
    (ret : ∀ h' tk' m' vs' ns', Fr g L h' m' → (∀ p ∈ [(Str.ofString "thisrow", Value.ref T), (Str.ofString "oneago", .ref O), (Str.ofString "twoago", tv), (Str.ofString "x", .int (i : Int) ti), (Str.ofString "seq1", .str x tx), (Str.ofString "seq2", .str y ty), (Str.ofString "limit", lim)], m' p.1 = some p.2) →
      News g L h' [(I, oI), (T, W.listOf vs'.toArray nT), (O, W.listOf us.toArray nO), (W2, W.listOf ws.toArray nW), (J, oJ)] →
      IntsAre vs' ns' →
      ns' = (if (decide (0 < i) && decide (0 < j) && (Txt.item x (i : Int) == Txt.item y ((j : Int) - 1)) && (Txt.item x ((i : Int) - 1) == Txt.item y (j : Int)) && !(Txt.item x (i : Int) == Txt.item y (j : Int))) = true then ns.set (j : Int).toNat (min (ns.getD (j : Int).toNat 0) (wrapAt rs ((j : Int) - 2) + 1)) else ns) →
      Q .next { s with heap := h', toks := tk' }) :
    wpAny (model PySem.Challenge.rw_iu0044_01.row.prog w) ((ktrTop dp un gd cn cs L₀ a ccd cl outer).deeper (damEnv L)) (exec damIf (damEnv L)) Q E s := by
  obtain ⟨B, X, T', hk, hdp, hun⟩ := C
  have e : damIf = damIf := rfl
  conv at e => rhs; whnf
  have e2 : damScope = damScope := rfl
  conv at e2 => rhs; whnf
  unfold damEnv
  rw [e, e2]
  clear e e2
  k_with_none
  rcases Nat.eq_zero_or_pos i with hi0 | hi0
  · subst hi0
    k_steps
    exact ret _ _ _ _ ns (by assumption) (by kst_all) (by assumption) (by assumption) (by simp)
  have e3 := htw hi0
  subst e3
  rcases Nat.eq_zero_or_pos j with hj0 | hj0
  · subst hj0
    k_steps
    exact ret _ _ _ _ ns (by assumption) (by kst_all) (by assumption) (by assumption) (by simp)
  generalize hA : (Txt.item x (i : Int) == Txt.item y ((j : Int) - 1)) = bA at ret
  generalize hB : (Txt.item x ((i : Int) - 1) == Txt.item y (j : Int)) = bB at ret
  generalize hC : (Txt.item x (i : Int) == Txt.item y (j : Int)) = bC at ret
  replace hA := Known.mk hA
  replace hB := Known.mk hB
  replace hC := Known.mk hC
  cases bA
  · k_steps
    exact ret _ _ _ _ ns (by assumption) (by kst_all) (by assumption) (by assumption) (by simp)
  cases bB
  · k_steps
    exact ret _ _ _ _ ns (by assumption) (by kst_all) (by assumption) (by assumption) (by simp)
  cases bC
  · k_steps
    refine ret _ _ _ _ _ (by assumption) (by kst_all) (by assumption) (by assumption) ?_
    rw [ite_lt_min, if_pos (by simp [hi0, hj0])]
  k_steps
  exact ret _ _ _ _ ns (by assumption) (by kst_all) (by assumption) (by assumption) (by simp)

set_option maxHeartbeats 8000000 in
theorem dam_in_turn (C : CX w loose mean mg mb dp un gd cn cs L₀ a ccd cl outer base g) {I T O W2 J : Addr} {oI oJ : Obj} {m : Str → Option Value} {x y : Str} {tx ty ti tj : Tok} {i j : Nat} {lim tv : Value} {vs us ws : List Value} {ns ms rs : List Int} {nT nO nW : Nat}
    (hx : x.length ≤ 7) (hy : y.length ≤ 7) (hi : i < x.length) (hj : j < y.length)
    (iT : IntsAre vs ns) (iO : IntsAre us ms) (iW : IntsAre ws rs) (lT : ns.length = y.length + 1) (lO : ms.length = y.length + 1) (lW : rs.length = y.length + 1) (htw : 0 < i → tv = .ref W2)
    (hTI : @Ne Nat T I) (hOI : @Ne Nat O I) (hTO : @Ne Nat T O) (hTJ : @Ne Nat T J) (hTW : @Ne Nat T W2)
    (F : Fr g L s.heap (fun z => if z = Str.ofString "y" then some (.int (j : Int) tj) else if z = Str.ofString "thisrow" then some (.ref T) else if z = Str.ofString "oneago" then some (.ref O) else if z = Str.ofString "twoago" then some tv else if z = Str.ofString "x" then some (.int (i : Int) ti) else if z = Str.ofString "seq1" then some (.str x tx) else if z = Str.ofString "seq2" then some (.str y ty) else if z = Str.ofString "limit" then some lim else m z))
    (N : News g L s.heap [(I, oI), (T, W.listOf vs.toArray nT), (O, W.listOf us.toArray nO), (W2, W.listOf ws.toArray nW), (J, oJ)])
    (ret : ∀ h' tk' m' vs' ns' b, Fr g L h' m' → (∀ p ∈ [(Str.ofString "thisrow", Value.ref T), (Str.ofString "oneago", .ref O), (Str.ofString "twoago", tv), (Str.ofString "x", .int (i : Int) ti), (Str.ofString "seq1", .str x tx), (Str.ofString "seq2", .str y ty), (Str.ofString "limit", lim)], m' p.1 = some p.2) →
      News g L h' [(I, oI), (T, W.listOf vs'.toArray nT), (O, W.listOf us.toArray nO), (W2, W.listOf ws.toArray nW), (J, oJ)] →
      IntsAre vs' ns' →
      b = min (min (ms.getD (j : Int).toNat 0 + 1) (wrapAt ns ((j : Int) - 1) + 1)) (wrapAt ms ((j : Int) - 1) + if (Txt.item x (i : Int) != Txt.item y (j : Int)) = true then 1 else 0) →
      ns' = ns.set (j : Int).toNat (if (decide (0 < i) && decide (0 < j) && (Txt.item x (i : Int) == Txt.item y ((j : Int) - 1)) && (Txt.item x ((i : Int) - 1) == Txt.item y (j : Int)) && !(Txt.item x (i : Int) == Txt.item y (j : Int))) = true then min b (wrapAt rs ((j : Int) - 2) + 1) else b) →
      Q .next { s with heap := h', toks := tk' }) :
    wpAny (model PySem.Challenge.rw_iu0044_01.row.prog w) ((ktrTop dp un gd cn cs L₀ a ccd cl outer).deeper (damEnv L)) (execs (inOf damInner) (damEnv L)) Q E s := by
  have C' := C
  obtain ⟨B, X, T', hk, hdp, hun⟩ := C'
  have e : inOf damInner = inOf damInner := rfl
  conv at e => rhs; whnf
  have e2 : damScope = damScope := rfl
  conv at e2 => rhs; whnf
  unfold damEnv
  rw [e, e2]
  clear e e2
  generalize hcc : (Txt.item x (i : Int) == Txt.item y (j : Int)) = bC at ret
  have hC := Known.mk hcc
  k_with_none
  k_with "hold if" => refine Hold.mk ?_
  k_steps
  dsimp only at *
  rename_i F9 N9 i9 l9 s9
  refine dam_if C (tj := tj) (ti := ti) (tx := tx) (ty := ty) (lim := lim) (tv := tv) (nT := nT) (nO := nO) (nW := nW) hx hy hi hj i9 iW (by rw [l9]; exact lT) lW htw hTI hTO hTJ hTW
    (fr_names [(Str.ofString "y", .int (j : Int) tj), (Str.ofString "thisrow", .ref T), (Str.ofString "oneago", .ref O), (Str.ofString "twoago", tv), (Str.ofString "x", .int (i : Int) ti), (Str.ofString "seq1", .str x tx), (Str.ofString "seq2", .str y ty), (Str.ofString "limit", lim)] (by kst_all) F9) N9 ?_
  intro h' tk' m' vs' ns' F' hm' N' i' e'
  refine wpAny_execs_nil ?_
  refine ret h' tk' m' vs' ns' (min (min (ms.getD (j : Int).toNat 0 + 1) (wrapAt ns ((j : Int) - 1) + 1)) (wrapAt ms ((j : Int) - 1) + if (!bC) = true then 1 else 0)) F' hm' N' i' (by rw [← hcc]; rfl) ?_
  rw [hcc] at e'
  rw [e']
  apply set_twice
  omega

set_option maxHeartbeats 8000000 in
theorem dam_inner (C : CX w loose mean mg mb dp un gd cn cs L₀ a ccd cl outer base g) {T O W2 J : Addr} {oJ : Obj} {m : Str → Option Value} {x y : Str} {tx ty ti : Tok} {i : Nat} {lim tv : Value} {vs us ws : List Value} {rs : List Int} {nT nO nW : Nat}
    (hx : x.length ≤ 7) (hy : y.length ≤ 7) (hi : i < x.length)
    (iT : IntsAre vs (prow (fun q => Dm (eqAt x y) true (i + 1) (q + 1)) y.length 0 (Dm (eqAt x y) true (i + 1) 0))) (iO : IntsAre us (prow (fun q => Dm (eqAt x y) true i (q + 1)) y.length y.length (Dm (eqAt x y) true i 0)))
    (iW : IntsAre ws rs) (lW : rs.length = y.length + 1) (htw : 0 < i → tv = .ref W2) (hr : 0 < i → rs = prow (fun q => Dm (eqAt x y) true (i - 1) (q + 1)) y.length y.length (Dm (eqAt x y) true (i - 1) 0))
    (hTO : @Ne Nat T O) (hTJ : @Ne Nat T J) (hTW : @Ne Nat T W2)
    (F : Fr g L s.heap (fun z => if z = Str.ofString "thisrow" then some (.ref T) else if z = Str.ofString "oneago" then some (.ref O) else if z = Str.ofString "twoago" then some tv else if z = Str.ofString "x" then some (.int (i : Int) ti) else if z = Str.ofString "seq1" then some (.str x tx) else if z = Str.ofString "seq2" then some (.str y ty) else if z = Str.ofString "limit" then some lim else m z))
    (N : News g L s.heap [(T, W.listOf vs.toArray nT), (O, W.listOf us.toArray nO), (W2, W.listOf ws.toArray nW), (J, oJ)])
    (hE : PassesOwn (model PySem.Challenge.rw_iu0044_01.row.prog w) ((ktrTop dp un gd cn cs L₀ a ccd cl outer).deeper (damEnv L)) (damEnv L) E)
    (ret : ∀ h' tk' m' vs', Fr g L h' m' → (∀ p ∈ [(Str.ofString "thisrow", Value.ref T), (Str.ofString "oneago", .ref O), (Str.ofString "twoago", tv), (Str.ofString "x", .int (i : Int) ti), (Str.ofString "seq1", .str x tx), (Str.ofString "seq2", .str y ty), (Str.ofString "limit", lim)], m' p.1 = some p.2) →
      News g L h' [(T, W.listOf vs'.toArray nT), (O, W.listOf us.toArray nO), (W2, W.listOf ws.toArray nW), (J, oJ)] →
      IntsAre vs' (prow (fun q => Dm (eqAt x y) true (i + 1) (q + 1)) y.length y.length (Dm (eqAt x y) true (i + 1) 0)) →
      Q .next { s with heap := h', toks := tk' }) :
    wpAny (model PySem.Challenge.rw_iu0044_01.row.prog w) ((ktrTop dp un gd cn cs L₀ a ccd cl outer).deeper (damEnv L)) (exec damInner (damEnv L)) Q E s := by
  have C' := C
  obtain ⟨B, X, T', hk, hdp, hun⟩ := C'
  have e : damInner = .For (.Name (Str.ofString "y") _) _ (inOf damInner) [] _ := rfl
  have e2 : damScope = damScope := rfl
  conv at e2 => rhs; whnf
  rw [e]
  refine For_invVF F rfl rfl ?_ (hE := hE)
  unfold damEnv
  rw [e2]
  k_with "hold" => refine Hold.mk ?_
  k_steps
  rw [← e2]
  refine range_inv (n := y.length) (fun q m' news' => ∃ vs', news' = [(T, W.listOf vs'.toArray nT), (O, W.listOf us.toArray nO), (W2, W.listOf ws.toArray nW), (J, oJ)] ∧ IntsAre vs' (prow (fun q => Dm (eqAt x y) true (i + 1) (q + 1)) y.length q (Dm (eqAt x y) true (i + 1) 0)) ∧
    (∀ p ∈ [(Str.ofString "thisrow", Value.ref T), (Str.ofString "oneago", .ref O), (Str.ofString "twoago", tv), (Str.ofString "x", .int (i : Int) ti), (Str.ofString "seq1", .str x tx), (Str.ofString "seq2", .str y ty), (Str.ofString "limit", lim)], m' p.1 = some p.2)) rfl (by assumption) (small_one (by omega) (by omega) (by omega) (by omega)) (by rw [rangeSize_nat]; omega) (by assumption) (by assumption) ⟨vs, rfl, iT, by kst_all⟩ ?_ ?_
  · rintro q t m₁ news₁ h tk I oI hq ⟨vs', rfl, iT', hm⟩ hoff F₁ N₁
    rw [Int.zero_add] at F₁
    have hTI : T ≠ I := hoff _ (.head _)
    have hOI : O ≠ I := hoff _ (.tail _ (.head _))
    have hWI : W2 ≠ I := hoff _ (.tail _ (.tail _ (.head _)))
    have hJI : J ≠ I := hoff _ (.tail _ (.tail _ (.tail _ (.head _))))
    refine dam_in_turn C (lim := lim) (m := m₁) hx hy hi hq iT' iO iW (prow_length _ _ _ _) (prow_length _ _ _ _) lW htw hTI hOI hTO hTJ hTW (fr_turn _ hm F₁) N₁ fun h' tk' m' vs'' ns'' b F' hm' N' iT'' hb hns => ?_
    refine ⟨h', tk', m', _, rfl, F', N', ?_, vs'', rfl, ?_, hm'⟩
    · intro p hp
      rcases List.mem_cons.mp hp with rfl | hp
      · exact hTI
      rcases List.mem_cons.mp hp with rfl | hp
      · exact hOI
      rcases List.mem_cons.mp hp with rfl | hp
      · exact hWI
      rcases List.mem_cons.mp hp with rfl | hp
      · exact hJI
      · cases hp
    · rw [row_base hq (eqAt_cost x y i q)] at hb
      rw [hns, show (q : Int).toNat = q by omega, prow_set hq (dam_cell hq hb hr)] at iT''
      exact iT''
  · rintro m₁ news₁ h tk ⟨vs', rfl, iT', hm⟩ F₁ N₁
    exact ret h tk m₁ vs' F₁ hm N₁ iT'

def damTail : List Stmt := (inOf damOuter).drop 2
set_option maxHeartbeats 8000000 in
theorem dam_out_tail (C : CX w loose mean mg mb dp un gd cn cs L₀ a ccd cl outer base g) {T I O : Addr} {oI oO : Obj} {m : Str → Option Value} {x y : Str} {tx ty ti : Tok} {i : Nat} {lim : Value} {us : List Value} {ns : List Int} {nT : Nat}
    (hx : x.length ≤ 7) (hy : y.length ≤ 7) (hi : i < x.length) (hl : lim = .none ∨ ∃ l tl, lim = .int l tl ∧ 0 ≤ l ∧ l < 1000)
    (iO : IntsAre us ns) (lT : ns.length = y.length + 1) 
    (F : Fr g L s.heap (fun z => if z = Str.ofString "x" then some (.int (i : Int) ti) else if z = Str.ofString "thisrow" then some (.ref T) else if z = Str.ofString "oneago" then some (.ref O) else if z = Str.ofString "seq1" then some (.str x tx) else if z = Str.ofString "seq2" then some (.str y ty) else if z = Str.ofString "limit" then some lim else m z))
    (N : News g L s.heap [(T, W.listOf us.toArray nT), (O, oO), (I, oI)])
    (ret : ∀ h' tk' m', Fr g L h' m' → (∀ p ∈ [(Str.ofString "thisrow", Value.ref T), (Str.ofString "oneago", .ref O), (Str.ofString "seq1", .str x tx), (Str.ofString "seq2", .str y ty), (Str.ofString "limit", lim)], m' p.1 = some p.2) →
      News g L h' [(T, W.listOf us.toArray nT), (O, oO), (I, oI)] → Q .next { s with heap := h', toks := tk' })
    (early : ∀ h' tk' m' l tl t', lim = .int l tl → Fr g L h' m' → (∀ c ∈ ns, l < c) → Q (.ret (.int (l + 1) t')) { s with heap := h', toks := tk' }) :
    wpAny (model PySem.Challenge.rw_iu0044_01.row.prog w) ((ktrTop dp un gd cn cs L₀ a ccd cl outer).deeper (damEnv L)) (execs damTail (damEnv L)) Q E s := by
  have C' := C
  obtain ⟨B, X, T', hk, hdp, hun⟩ := C'
  have e : damTail = damTail := rfl
  conv at e => rhs; whnf
  have e2 : damScope = damScope := rfl
  conv at e2 => rhs; whnf
  unfold damEnv
  rw [e, e2]
  clear e e2
  k_with_none
  rcases hl with rfl | ⟨l, tl, rfl, hl0, hl1⟩
  · k_steps
    exact ret _ _ _ (by assumption) (by kst_all) (by assumption)
  · k_steps
    all_goals first
      | exact early _ _ _ _ _ _ rfl (by assumption) (fun c hc => Int.lt_of_lt_of_le (by assumption) ((by assumption : ∀ a, a ∈ ns → _ ≤ a) c hc))
      | exact ret _ _ _ (by assumption) (by kst_all) (by assumption)

set_option maxHeartbeats 8000000 in
theorem dam_out_turn (C : CX w loose mean mg mb dp un gd cn cs L₀ a ccd cl outer base g) {T I W2 : Addr} {oI : Obj} {m : Str → Option Value} {x y : Str} {tx ty ti : Tok} {i : Nat} {lim oa : Value} {us ws : List Value} {rs : List Int} {nT nW : Nat}
    (hx : x.length ≤ 7) (hy : y.length ≤ 7) (hi : i < x.length) (hl : lim = .none ∨ ∃ l tl, lim = .int l tl ∧ 0 ≤ l ∧ l < 1000)
    (iO : IntsAre us (prow (fun q => Dm (eqAt x y) true i (q + 1)) y.length y.length (Dm (eqAt x y) true i 0))) (iW : IntsAre ws rs) (lW : rs.length = y.length + 1) (htw : 0 < i → oa = .ref W2) (hr : 0 < i → rs = (prow (fun q => Dm (eqAt x y) true (i - 1) (q + 1)) y.length y.length (Dm (eqAt x y) true (i - 1) 0)))
    (hTI : @Ne Nat T I) (hWI : @Ne Nat W2 I)
    (F : Fr g L s.heap (fun z => if z = Str.ofString "x" then some (.int (i : Int) ti) else if z = Str.ofString "thisrow" then some (.ref T) else if z = Str.ofString "oneago" then some oa else if z = Str.ofString "seq1" then some (.str x tx) else if z = Str.ofString "seq2" then some (.str y ty) else if z = Str.ofString "limit" then some lim else m z))
    (N : News g L s.heap [(I, oI), (T, W.listOf us.toArray nT), (W2, W.listOf ws.toArray nW)])
    (hE : PassesOwn (model PySem.Challenge.rw_iu0044_01.row.prog w) ((ktrTop dp un gd cn cs L₀ a ccd cl outer).deeper (damEnv L)) (damEnv L) E)
    (ret : ∀ h' tk' m' vs' T' nT', Fr g L h' m' → (∀ p ∈ [(Str.ofString "thisrow", Value.ref T'), (Str.ofString "oneago", .ref T), (Str.ofString "seq1", .str x tx), (Str.ofString "seq2", .str y ty), (Str.ofString "limit", lim)], m' p.1 = some p.2) →
      News g L h' [(I, oI), (T', W.listOf vs'.toArray nT'), (T, W.listOf us.toArray nT)] → @Ne Nat T' I →
      IntsAre vs' (prow (fun q => Dm (eqAt x y) true (i + 1) (q + 1)) y.length y.length (Dm (eqAt x y) true (i + 1) 0)) → Q .next { s with heap := h', toks := tk' })
    (early : ∀ h' tk' m' l tl t', lim = .int l tl → Fr g L h' m' → (∀ c ∈ (prow (fun q => Dm (eqAt x y) true (i + 1) (q + 1)) y.length y.length (Dm (eqAt x y) true (i + 1) 0)), l < c) → Q (.ret (.int (l + 1) t')) { s with heap := h', toks := tk' }) :
    wpAny (model PySem.Challenge.rw_iu0044_01.row.prog w) ((ktrTop dp un gd cn cs L₀ a ccd cl outer).deeper (damEnv L)) (execs (inOf damOuter) (damEnv L)) Q E s := by
  have C' := C
  obtain ⟨B, X, T', hk, hdp, hun⟩ := C'
  have e : inOf damOuter = inOf damOuter := rfl
  conv at e => rhs; whnf
  have e2 : damScope = damScope := rfl
  conv at e2 => rhs; whnf
  unfold damEnv
  rw [e, e2]
  clear e
  k_with_none
  k_with "hold for" => refine Hold.mk ?_
  k_steps
  clear e2
  dsimp only at *
  rename_i D9 ws9 h1 i9 l9 D8 h2 l8 h3 h4 h5 h6 F9 N9
  have i9' : IntsAre ws9 (prow (fun q => Dm (eqAt x y) true (i + 1) (q + 1)) y.length 0 (Dm (eqAt x y) true (i + 1) 0)) := by
    rw [prow_zero, Dm_zero_right]
    simpa using i9
  refine dam_inner C (T := D9) (O := T) (W2 := W2) (J := I) (oJ := oI) (nT := 0) (nO := nT) (nW := nW) (lim := lim) (tv := oa) (ti := ti) (tx := tx) (ty := ty) hx hy hi i9' iO iW lW htw hr (by omega) (by omega) (by omega)
    (fr_names [(Str.ofString "thisrow", .ref D9), (Str.ofString "oneago", .ref T), (Str.ofString "twoago", oa), (Str.ofString "x", .int (i : Int) ti), (Str.ofString "seq1", .str x tx), (Str.ofString "seq2", .str y ty), (Str.ofString "limit", lim)] (by kst_all) F9)
    (news_sub N9 ?_) hE ?_
  · intro p hp
    simp only [List.mem_cons, List.not_mem_nil, or_false] at hp ⊢
    rcases hp with rfl | rfl | rfl | rfl <;> simp
  · intro h' tk' m' vs' F' hm' N' iT'
    have N2 : News g L h' [(D9, W.listOf vs'.toArray 0), (T, W.listOf us.toArray nT), (I, oI)] := news_sub N' (by
      intro p hp
      simp only [List.mem_cons, List.not_mem_nil, or_false] at hp ⊢
      rcases hp with rfl | rfl | rfl <;> simp)
    refine dam_out_tail C (m := m') (ti := ti) (tx := tx) (ty := ty) (lim := lim) hx hy hi hl iT' (prow_length _ _ _ _) (fr_names [(Str.ofString "x", .int (i : Int) ti), (Str.ofString "thisrow", .ref D9), (Str.ofString "oneago", .ref T), (Str.ofString "seq1", .str x tx), (Str.ofString "seq2", .str y ty), (Str.ofString "limit", lim)] ?_ F') N2 ?_ ?_
    · simp only [List.forall_mem_cons] at hm' ⊢
      exact ⟨hm'.2.2.2.1, hm'.1, hm'.2.1, hm'.2.2.2.2.1, hm'.2.2.2.2.2.1, hm'.2.2.2.2.2.2.1, by simp⟩
    · intro h2 tk2 m2 F2 hm2 N2
      refine ret h2 tk2 m2 vs' D9 0 F2 hm2 (news_sub N2 ?_) (by omega) iT'
      intro p hp
      simp only [List.mem_cons, List.not_mem_nil, or_false] at hp ⊢
      rcases hp with rfl | rfl | rfl <;> simp
    · intro h2 tk2 m2 l tl t' e F2 hc
      exact early h2 tk2 m2 l tl t' e F2 hc

def damRet : List Stmt := damBody.drop 3
set_option maxHeartbeats 8000000 in
theorem dam_outer (C : CX w loose mean mg mb dp un gd cn cs L₀ a ccd cl outer base g) {T : Addr} {m : Str → Option Value} {x y : Str} {tx ty : Tok} {lim : Value} {us : List Value} {nT : Nat}
    (hx : x.length ≤ 7) (hy : y.length ≤ 7) (hl : lim = .none ∨ ∃ l tl, lim = .int l tl ∧ 0 ≤ l ∧ l < 1000)
    (iO : IntsAre us (prow (fun q => Dm (eqAt x y) true 0 (q + 1)) y.length y.length (Dm (eqAt x y) true 0 0)))
    (F : Fr g L s.heap (fun z => if z = Str.ofString "thisrow" then some (.ref T) else if z = Str.ofString "oneago" then some .none else if z = Str.ofString "seq1" then some (.str x tx) else if z = Str.ofString "seq2" then some (.str y ty) else if z = Str.ofString "limit" then some lim else m z))
    (N : News g L s.heap [(T, W.listOf us.toArray nT)])
    (hE : PassesOwn (model PySem.Challenge.rw_iu0044_01.row.prog w) ((ktrTop dp un gd cn cs L₀ a ccd cl outer).deeper (damEnv L)) (damEnv L) E)
    (ret : ∀ h' tk' m' vs' T' nT', Fr g L h' m' → (∀ p ∈ [(Str.ofString "thisrow", Value.ref T'), (Str.ofString "seq1", .str x tx), (Str.ofString "seq2", .str y ty), (Str.ofString "limit", lim)], m' p.1 = some p.2) →
      News g L h' [(T', W.listOf vs'.toArray nT')] →
      IntsAre vs' (prow (fun q => Dm (eqAt x y) true x.length (q + 1)) y.length y.length (Dm (eqAt x y) true x.length 0)) →
      Q .next { s with heap := h', toks := tk' })
    (early : ∀ h' tk' m' l tl t' i, lim = .int l tl → Fr g L h' m' → i ≤ x.length → (∀ c ∈ prow (fun q => Dm (eqAt x y) true i (q + 1)) y.length y.length (Dm (eqAt x y) true i 0), l < c) → Q (.ret (.int (l + 1) t')) { s with heap := h', toks := tk' }) :
    wpAny (model PySem.Challenge.rw_iu0044_01.row.prog w) ((ktrTop dp un gd cn cs L₀ a ccd cl outer).deeper (damEnv L)) (exec damOuter (damEnv L)) Q E s := by
  have C' := C
  obtain ⟨B, X, T', hk, hdp, hun⟩ := C'
  have e : damOuter = .For (.Name (Str.ofString "x") _) _ (inOf damOuter) [] _ := rfl
  have e2 : damScope = damScope := rfl
  conv at e2 => rhs; whnf
  rw [e]
  refine For_invVF F rfl rfl ?_ (hE := hE)
  unfold damEnv
  rw [e2]
  k_with_none
  k_with "hold" => refine Hold.mk ?_
  k_steps
  rw [← e2]
  refine range_inv (n := x.length) (fun q m' news' => ∃ vs' T' nT' ws' W' nW' oa rs, news' = [(T', W.listOf vs'.toArray nT'), (W', W.listOf ws'.toArray nW')] ∧ IntsAre vs' (prow (fun p => Dm (eqAt x y) true q (p + 1)) y.length y.length (Dm (eqAt x y) true q 0)) ∧
    IntsAre ws' rs ∧ rs.length = y.length + 1 ∧ (0 < q → oa = Value.ref W') ∧ (0 < q → rs = prow (fun p => Dm (eqAt x y) true (q - 1) (p + 1)) y.length y.length (Dm (eqAt x y) true (q - 1) 0)) ∧
    (∀ p ∈ [(Str.ofString "thisrow", Value.ref T'), (Str.ofString "oneago", oa), (Str.ofString "seq1", .str x tx), (Str.ofString "seq2", .str y ty), (Str.ofString "limit", lim)], m' p.1 = some p.2)) rfl (by assumption) (small_one (by omega) (by omega) (by omega) (by omega)) (by rw [rangeSize_nat]; omega) (by assumption)
    (news := [(T, W.listOf us.toArray nT), (T, W.listOf us.toArray nT)]) (news_sub (by assumption) ?_) ⟨us, T, nT, us, T, nT, .none, _, rfl, iO, iO, prow_length _ _ _ _, (fun h => absurd h (Nat.lt_irrefl 0)), (fun h => absurd h (Nat.lt_irrefl 0)), by kst_all⟩ ?_ ?_
  · intro p hp
    simp only [List.mem_cons, List.not_mem_nil, or_false] at hp ⊢
    rcases hp with rfl | rfl <;> simp
  · rintro q t m₁ news₁ h tk I oI hq ⟨vs', T1, nT1, ws', W1, nW1, oa, rs, rfl, iT', iW', lW', htw, hr, hm⟩ hoff F₁ N₁
    rw [Int.zero_add] at F₁
    have hTI : T1 ≠ I := hoff _ (.head _)
    have hWI : W1 ≠ I := hoff _ (.tail _ (.head _))
    refine dam_out_turn C (lim := lim) (oa := oa) (m := m₁) (ti := t) (tx := tx) (ty := ty) hx hy hq hl iT' iW' lW' htw hr hTI hWI (fr_turn _ hm F₁) N₁ hE ?_ ?_
    · intro h' tk' m' vs'' T2 nT2 F' hm' N' hT2 iT''
      refine ⟨h', tk', m', [(T2, W.listOf vs''.toArray nT2), (T1, W.listOf vs'.toArray nT1)], rfl, F', N', ?_, vs'', T2, nT2, vs', T1, nT1, .ref T1, _, rfl, iT'', iT', prow_length _ _ _ _, (fun _ => rfl), (fun _ => rfl), hm'⟩
      intro p hp
      rcases List.mem_cons.mp hp with rfl | hp
      · exact hT2
      rcases List.mem_cons.mp hp with rfl | hp
      · exact hTI
      · cases hp
    · intro h' tk' m' l tl t' e3 F' hc
      exact early h' tk' m' l tl t' (q + 1) e3 F' hq hc
  · rintro m₁ news₁ h tk ⟨vs', T1, nT1, ws', W1, nW1, oa, rs, rfl, iT', iW', lW', htw, hr, hm⟩ F₁ N₁
    refine ret h tk m₁ vs' T1 nT1 F₁ ?_ (news_sub N₁ ?_) iT'
    · simp only [List.forall_mem_cons] at hm ⊢
      exact ⟨hm.1, hm.2.2⟩
    · intro p hp
      simp only [List.mem_cons, List.not_mem_nil, or_false] at hp ⊢
      exact .inl hp
set_option maxHeartbeats 8000000 in
theorem dam_end (C : CX w loose mean mg mb dp un gd cn cs L₀ a ccd cl outer base g) {T : Addr} {m : Str → Option Value} {y : Str} {ty : Tok} {us : List Value} {ns : List Int} {nT : Nat}
    (hy : y.length ≤ 7) (iO : IntsAre us ns) (lT : ns.length = y.length + 1)
    (F : Fr g L s.heap (fun z => if z = Str.ofString "thisrow" then some (.ref T) else if z = Str.ofString "seq2" then some (.str y ty) else m z))
    (N : News g L s.heap [(T, W.listOf us.toArray nT)])
    (ret : ∀ h' tk' m' t, Fr g L h' m' → Q (.ret (.int (wrapAt ns ((y.length : Int) - 1)) t)) { s with heap := h', toks := tk' }) :
    wpAny (model PySem.Challenge.rw_iu0044_01.row.prog w) ((ktrTop dp un gd cn cs L₀ a ccd cl outer).deeper (damEnv L)) (execs damRet (damEnv L)) Q E s := by
  obtain ⟨B, X, T', hk, hdp, hun⟩ := C
  have e : damRet = damRet := rfl
  conv at e => rhs; whnf
  have e2 : damScope = damScope := rfl
  conv at e2 => rhs; whnf
  unfold damEnv
  rw [e, e2]
  clear e e2
  k_with_none
  k_steps
  exact ret _ _ _ _ (by assumption)

set_option maxHeartbeats 8000000 in
theorem dam_body (C : CX w loose mean mg mb dp un gd cn cs L₀ a ccd cl outer base g) {m : Str → Option Value} {x y : Str} {tx ty : Tok} {lim : Value}
    (hx : x.length ≤ 7) (hy : y.length ≤ 7) (hl : lim = .none ∨ ∃ l tl, lim = .int l tl ∧ 0 ≤ l ∧ l < 1000)
    (F : Fr g L s.heap (fun z => if z = Str.ofString "seq1" then some (.str x tx) else if z = Str.ofString "seq2" then some (.str y ty) else if z = Str.ofString "limit" then some lim else m z))
    (hE : PassesOwn (model PySem.Challenge.rw_iu0044_01.row.prog w) ((ktrTop dp un gd cn cs L₀ a ccd cl outer).deeper (damEnv L)) (damEnv L) E)
    (ret : ∀ h' tk' m' v t, Fr g L h' m' → (v = Dm (eqAt x y) true x.length y.length ∨ ∃ l tl, lim = .int l tl ∧ v = l + 1 ∧ l < Dm (eqAt x y) true x.length y.length) → Q (.ret (.int v t)) { s with heap := h', toks := tk' }) :
    wpAny (model PySem.Challenge.rw_iu0044_01.row.prog w) ((ktrTop dp un gd cn cs L₀ a ccd cl outer).deeper (damEnv L)) (execs damBody (damEnv L)) Q E s := by
  have C' := C
  obtain ⟨B, X, T', hk, hdp, hun⟩ := C'
  have N : News g L s.heap [] := News.nil
  have e : damBody = damBody := rfl
  conv at e => rhs; whnf
  have e2 : damScope = damScope := rfl
  conv at e2 => rhs; whnf
  unfold damEnv
  rw [e, e2]
  clear e
  k_with_none
  k_with "hold for" => refine Hold.mk ?_
  k_steps
  clear e2
  dsimp only at *
  rename_i D9 ws9 h1 i9 l9 h2 F9 N9
  rw [first_row (eqAt x y) true] at i9
  refine dam_outer C (T := D9) (nT := 0) (lim := lim) (tx := tx) (ty := ty) hx hy hl i9
    (fr_names [(Str.ofString "thisrow", .ref D9), (Str.ofString "oneago", .none), (Str.ofString "seq1", .str x tx), (Str.ofString "seq2", .str y ty), (Str.ofString "limit", lim)] (by kst_all) F9) (news_sub N9 ?_) hE ?_ ?_
  · intro p hp
    simp only [List.mem_cons, List.not_mem_nil, or_false] at hp ⊢
    rcases hp with rfl
    simp
  · intro h' tk' m' vs' T2 nT2 F' hm' N' iT'
    refine dam_end C (m := m') (y := y) (ty := ty) hy iT' (prow_length _ _ _ _) (fr_names [(Str.ofString "thisrow", .ref T2), (Str.ofString "seq2", .str y ty)] ?_ F') N' ?_
    · simp only [List.forall_mem_cons] at hm' ⊢
      exact ⟨hm'.1, hm'.2.2.1, by simp⟩
    · intro h3 tk3 m3 t3 F3
      rw [last_cell]
      exact ret h3 tk3 m3 _ t3 F3 (.inl rfl)
  · intro h' tk' m' l tl t' i e3 F' hi hc
    exact ret h' tk' m' _ t' F' (.inr ⟨l, tl, e3, rfl, early_law hi hc⟩)
end

section
variable {w : World} {loose : List Str} {mean : ExcName → Option Value} {mg mb : Str → Option Value} {dp un : Nat} {gd : Option (List Code)} {cn : Str} {cs : Scope} {a : Addr} {ccd : Value} {cl : List (Str × Addr)} {outer : List Env} {A₀ : Around} {base h₀ : Heap} {L : Addr} {m : Str → Option Value} {s : Shared} {Q E : Value → Shared → Prop}
set_option maxHeartbeats 8000000 in
theorem dam_call_at {args : List Value} (B : Below A₀ base outer h₀) (F : Fr h₀ L s.heap m) (X : (hd.heap_39 w.params).In h₀) (T : Top hd.view_39 loose mean mg mb h₀) (hk : cs.kind = .function)
    (hdp : dp + 1 < recursionLimit) (hun : un + 8 < cLine) {x y : Str} {tx ty : Tok} {lim : Value} (hx : x.length ≤ 7) (hy : y.length ≤ 7) (hl : lim = .none ∨ ∃ l tl, lim = .int l tl ∧ 0 ≤ l ∧ l < 1000)
    (hb : ∀ fd : FuncData, fd.params = (fnParams (defAt 2)) → fd.defaults = .ref 23 → fd.kwdefaults = .none → BindsTo s fd ⟨args, []⟩ [(Str.ofString "seq1", .str x tx), (Str.ofString "seq2", .str y ty), (Str.ofString "limit", lim)])
    (ret : ∀ h' tk' v t, s.heap.StaysIn h' → (v = Dm (eqAt x y) true x.length y.length ∨ ∃ l tl, lim = .int l tl ∧ v = l + 1 ∧ l < Dm (eqAt x y) true x.length y.length) → Q (.int v t) { s with heap := h', toks := tk' }) :
    wpAny (model PySem.Challenge.rw_iu0044_01.row.prog w) (ktrTop dp un gd cn cs L a ccd cl outer) (call (.ref 30) args) Q E s := by
  refine wpAny_call ?_
  k_dflt (refine' enter_ext (binds := [(Str.ofString "seq1", .str x tx), (Str.ofString "seq2", .str y ty), (Str.ofString "limit", lim)]) ?k1 ?k2 ?k3 ?k5 ?kA ?kF ?kK ?k6 ?k7 ?k8 ?k9 ?kB ?_ ?c5 ?c2 ?c3 ?c4; (case kA => exact rfl); (case kF => exact rfl); (case kK => assumption); (case k1 => k_asm); (case k2 => k_asm); (case k3 => k_asm); (case k5 => k_asm); (case k6 => k_is); (case k7 => k_is); (case k8 => ktr_room); (case kB => exact locs rfl); (case k9 => exact hb _ rfl rfl rfl); (case c5 => decide); (case c2 => exact rfl); (case c3 => exact rfl); (case c4 => exact rfl))
  k_whole
  intro g L' h' tk' hg F' B' X' T'
  refine dam_body ⟨B', X', T', hk, hdp, hun⟩ (tx := tx) (ty := ty) (lim := lim) hx hy hl (fr_names [(Str.ofString "seq1", .str x tx), (Str.ofString "seq2", .str y ty), (Str.ofString "limit", lim)] (by kst_all) F') (by passes_own) ?_
  intro h2 tk2 m2 v t F2 hv
  subst hg
  exact ret h2 tk2 v t F2.keep hv

theorem dam_call2 (B : Below A₀ base outer h₀) (F : Fr h₀ L s.heap m) (X : (hd.heap_39 w.params).In h₀) (T : Top hd.view_39 loose mean mg mb h₀) (hk : cs.kind = .function)
    (hdp : dp + 1 < recursionLimit) (hun : un + 8 < cLine) {x y : Str} {tx ty : Tok} (hx : x.length ≤ 7) (hy : y.length ≤ 7)
    (ret : ∀ h' tk' t, s.heap.StaysIn h' → Q (.int (Dm (eqAt x y) true x.length y.length) t) { s with heap := h', toks := tk' }) :
    wpAny (model PySem.Challenge.rw_iu0044_01.row.prog w) (ktrTop dp un gd cn cs L a ccd cl outer) (call (.ref 30) [.str x tx, .str y ty]) Q E s := by
  refine dam_call_at B F X T hk hdp hun (tx := tx) (ty := ty) (lim := .none) hx hy (.inl rfl) (fun fd e1 e2 e3 => ?_) fun h' tk' v t hs hv => ?_
  · obtain ⟨_, _, _, _, _, _, _, _, _, _, _, _, _, _, _⟩ := fd
    cases e1; cases e2; cases e3
    exact BindsTo.of_defaults (T := 23) (items := #[.none]) rfl ((X.keeps F.keep) 23 _ rfl) rfl rfl rfl
  · rcases hv with rfl | ⟨l, tl, e, _⟩
    · exact ret h' tk' t hs
    · cases e
theorem dam_call3 (B : Below A₀ base outer h₀) (F : Fr h₀ L s.heap m) (X : (hd.heap_39 w.params).In h₀) (T : Top hd.view_39 loose mean mg mb h₀) (hk : cs.kind = .function)
    (hdp : dp + 1 < recursionLimit) (hun : un + 8 < cLine) {x y : Str} {tx ty tl : Tok} {l : Int} (hx : x.length ≤ 7) (hy : y.length ≤ 7) (hl0 : 0 ≤ l) (hl1 : l < 1000)
    (ret : ∀ h' tk' v t, s.heap.StaysIn h' → (v = Dm (eqAt x y) true x.length y.length ∨ (v = l + 1 ∧ l < Dm (eqAt x y) true x.length y.length)) → Q (.int v t) { s with heap := h', toks := tk' }) :
    wpAny (model PySem.Challenge.rw_iu0044_01.row.prog w) (ktrTop dp un gd cn cs L a ccd cl outer) (call (.ref 30) [.str x tx, .str y ty, .int l tl]) Q E s := by
  refine dam_call_at B F X T hk hdp hun (tx := tx) (ty := ty) (lim := .int l tl) hx hy (.inr ⟨l, tl, rfl, hl0, hl1⟩) (fun fd e1 e2 e3 => ?_) fun h' tk' v t hs hv => ?_
  · obtain ⟨_, _, _, _, _, _, _, _, _, _, _, _, _, _, _⟩ := fd
    cases e1; cases e2; cases e3
    exact BindsTo.of_defaults (T := 23) (items := #[.none]) rfl ((X.keeps F.keep) 23 _ rfl) rfl rfl rfl
  · rcases hv with rfl | ⟨l', tl', e, hv⟩
    · exact ret h' tk' _ t hs (.inl rfl)
    · cases e
      exact ret h' tk' _ t hs (.inr hv)
end

/-! ### the search: a dict whose keys are pairs, lists of pairs; the ledger is not written out -/
abbrev tup2 (i : Int) (t : Tok) (j : Int) (u : Tok) : Obj := { cls := .type "tuple", data := .seq [.int i t, .int j u].toArray }
def TupIn (news : List (Addr × Obj)) (a : Addr) (p : Int × Int) : Prop := ∃ t u, (a, tup2 p.1 t p.2 u) ∈ news
inductive PairsIn (news : List (Addr × Obj)) : List Value → List (Int × Int) → Prop
  | nil : PairsIn news [] []
  | cons {a : Addr} {p : Int × Int} {vs : List Value} {ps : List (Int × Int)} : TupIn news a p → PairsIn news vs ps → PairsIn news (.ref a :: vs) (p :: ps)
def Keep (D : Addr) (news news' : List (Addr × Obj)) : Prop := ∀ q ∈ news, q.1 ≠ D → q ∈ news'

theorem PairsIn.length {news : List (Addr × Obj)} {vs : List Value} {ps : List (Int × Int)} (h : PairsIn news vs ps) : vs.length = ps.length := by
  induction h with
  | nil => rfl
  | cons _ _ ih => simp [ih]
theorem PairsIn.mono {news news' : List (Addr × Obj)} {vs : List Value} {ps : List (Int × Int)} (h : PairsIn news vs ps) (hk : ∀ a o, (a, o) ∈ news → o.cls = .type "tuple" → (a, o) ∈ news') : PairsIn news' vs ps := by
  induction h with
  | nil => exact .nil
  | cons h1 _ ih =>
    obtain ⟨t, u, hm⟩ := h1
    exact .cons ⟨t, u, hk _ _ hm rfl⟩ ih
theorem PairsIn.snoc {news : List (Addr × Obj)} {vs : List Value} {ps : List (Int × Int)} {a : Addr} {p : Int × Int} (h : PairsIn news vs ps) (ha : TupIn news a p) : PairsIn news (vs ++ [.ref a]) (ps ++ [p]) := by
  induction h with
  | nil => exact .cons ha .nil
  | cons h1 _ ih => exact .cons h1 ih
theorem PairsIn.get {news : List (Addr × Obj)} {vs : List Value} {ps : List (Int × Int)} (h : PairsIn news vs ps) : ∀ (k : Nat) (v : Value), vs[k]? = some v → ∃ a p, v = .ref a ∧ ps[k]? = some p ∧ TupIn news a p := by
  induction h with
  | nil => intro k v hv; simp at hv
  | @cons a p vs ps h1 _ ih =>
    intro k v hv
    cases k with
    | zero => simp at hv; exact ⟨a, p, hv.symm, rfl, h1⟩
    | succ k => exact ih k v (by simpa using hv)

section
variable {prog : Program} {w : World} {g h : Heap} {L M U : Addr} {news news' : List (Addr × Obj)} {D : List (PyData × PyData)}
theorem TupTab.mono (T : TupTab (PySem.intKind prog w) PyData.int news M D) (hM : ∀ o, (M, o) ∈ news → o.cls = .type "dict" → (M, o) ∈ news') (hk : ∀ a o, (a, o) ∈ news → o.cls = .type "tuple" → (a, o) ∈ news') : TupTab (PySem.intKind prog w) PyData.int news' M D := by
  obtain ⟨lo, o, es, ep, xs, hm, hc, hd, he, hn, hkk, hf⟩ := T
  exact ⟨lo, o, es, ep, xs, hM _ hm hc.1, hc, hd, he, hn, fun x hx => let ⟨ok, hmk, t⟩ := hkk x hx; ⟨ok, hk _ _ hmk t.1, t⟩, hf⟩
theorem TupTab.dict (T : TupTab (PySem.intKind prog w) PyData.int news M D) : ∃ o, (M, o) ∈ news ∧ o.cls = .type "dict" := by
  obtain ⟨_, o, _, _, _, hm, hc, _⟩ := T
  exact ⟨o, hm, hc.1⟩
theorem news_one (N : News g L h news) {a : Addr} {o o' : Obj} (h1 : (a, o) ∈ news) (h2 : (a, o') ∈ news) : o = o' := Option.some.inj ((N _ h1).1.symm.trans (N _ h2).1)

/-- what the walk of the search knows: the dict at M, the list of pairs at U; X must stay; the pairs of a list that stays -/
structure St (prog : Program) (w : World) (news : List (Addr × Obj)) (M U : Addr) (X : List (Addr × Obj)) (pvs : List Value) (ps : List (Int × Int)) (D : List (PyData × PyData)) (us : List (Int × Int)) : Prop where
  met : TupTab (PySem.intKind prog w) PyData.int news M D
  fur : ∃ vs n, (U, W.listOf vs.toArray n) ∈ news ∧ PairsIn news vs us
  ext : ∀ q ∈ X, q ∈ news ∧ q.1 ≠ M ∧ q.1 ≠ U
  plc : PairsIn news pvs ps

variable {X : List (Addr × Obj)} {pvs : List Value} {ps us : List (Int × Int)}
theorem St.cons (S : St prog w news M U X pvs ps D us) (p : Addr × Obj) : St prog w (p :: news) M U X pvs ps D us where
  met := TupTab.mono S.met (fun _ hm _ => .tail _ hm) fun _ _ hm _ => .tail _ hm
  fur := let ⟨vs, n, hm, hp⟩ := S.fur; ⟨vs, n, .tail _ hm, hp.mono fun _ _ hm _ => .tail _ hm⟩
  ext := fun q hq => ⟨.tail _ (S.ext q hq).1, (S.ext q hq).2⟩
  plc := S.plc.mono fun _ _ hm _ => .tail _ hm
end

section
variable {prog : Program} {w : World} {A : Around} {E : Value → Shared → Prop} {s : Shared} {g : Heap} {L M U : Addr} {m : Str → Option Value} {news : List (Addr × Obj)} {D : List (PyData × PyData)} {X : List (Addr × Obj)} {pvs : List Value} {ps us : List (Int × Int)}

theorem bfs_newTuple {i j : Int} {t u : Tok} {Q : Value → Shared → Prop} (F : Fr g L s.heap m) (N : News g L s.heap news) (S : St prog w news M U X pvs ps D us)
    (h : ∀ a h' news', Fr g L h' m → News g L h' news' → St prog w news' M U X pvs ps D us → (a, tup2 i t j u) ∈ news' → Q (.ref a) { s with heap := h' }) :
    wpAny (model prog w) A (newTuple [.int i t, .int j u]) Q E s :=
  newTuple_N F N (fun h' F' N' => h _ h' _ F' N' (S.cons _) (.head _)) (by rw [sizeLine_eq]; simp)

theorem tup_key {i j : Int} {t u : Tok} : TupKeyObj (PySem.intKind prog w) [i, j] (tup2 i t j u) := by
  refine TupKeyObj.made ?_
  exact .cons (by simp [PySem.intKind, Value.isInt]) (.cons (by simp [PySem.intKind, Value.isInt]) .nil)

theorem bfs_notin {i j : Int} {t u : Tok} {a : Addr} {b : Bool} {Q : Value → Shared → Prop} (hu : A.units + 1 < cLine) (N : News g L s.heap news) (S : St prog w news M U X pvs ps D us) (hka : (a, tup2 i t j u) ∈ news)
    (hb : Known ((Spec.lookup (encTuple PyData.int [i, j]) D).isSome = b)) (h : ∀ tk, Q (.bool (!b)) { s with toks := tk }) :
    wpAny (model prog w) A (compareOp .NotIn (.ref a) (.ref M)) Q E s :=
  notin_tupTab keyEnc_int.eq hu N S.met hka tup_key (by rw [hb.out]; exact h _)

theorem bfs_set {i j e : Int} {t u te : Tok} {a : Addr} {Q : Unit → Shared → Prop} (hu : A.units + 1 < cLine) (F : Fr g L s.heap m) (N : News g L s.heap news) (S : St prog w news M U X pvs ps D us) (hka : (a, tup2 i t j u) ∈ news) (hsz : D.length ≤ 1000)
    (h : ∀ h' news' tk, Fr g L h' m → News g L h' news' → St prog w news' M U X pvs ps (putD (encTuple PyData.int [i, j]) (.int e) D) us → Q () { s with heap := h', toks := tk }) :
    wpAny (model prog w) A (setItem (.ref M) (.ref a) (.int e te)) Q E s := by
  refine setItem_tupTab (dv := .int e) keyEnc_int.eq hu (.int _ _) F N S.met hka tup_key (fun h' news' F' N' T' hka' hkeep => ?_) (by rw [sizeLine_eq]; omega)
  obtain ⟨oM, hM, hMc⟩ := TupTab.dict S.met
  have ht : ∀ b o, (b, o) ∈ news → o.cls = .type "tuple" → (b, o) ∈ news' := fun b o hm hc => hkeep _ hm fun q => by
    have e1 : o = oM := news_one N hm (by rw [show b = M from q]; exact hM)
    rw [e1, hMc] at hc
    exact absurd hc (by decide)
  refine h h' news' _ F' N' ⟨T', ?_, fun q hq => ?_, S.plc.mono ht⟩
  · obtain ⟨vs, n, hU, hp⟩ := S.fur
    refine ⟨vs, n, hkeep _ hU fun q => ?_, hp.mono ht⟩
    have e1 : W.listOf vs.toArray n = oM := news_one N hU (by rw [show U = M from q]; exact hM)
    have e2 : (W.listOf vs.toArray n).cls = oM.cls := by rw [e1]
    rw [hMc] at e2
    exact absurd e2 (show ¬ (Value.type "list" = .type "dict") by decide)
  · have := S.ext q hq
    exact ⟨hkeep _ this.1 this.2.1, this.2⟩

theorem bfs_method {pl : Sem Bool} {Q : Value × List Value → Shared → Prop} (N : News g L s.heap news) (S : St prog w news M U X pvs ps D us) (h : Q (.builtin "list.append", [.ref U]) s) :
    wpAny (model prog w) A (getMethod (.ref U) (Str.ofString "append") pl) Q E s := by
  obtain ⟨vs, n, hU, _⟩ := S.fur
  exact kf_method N hU PySem.F.slot_list_append PySem.F.type_list_append h

theorem bfs_append {i j : Int} {t u : Tok} {a : Addr} {Q : Value → Shared → Prop} (F : Fr g L s.heap m) (N : News g L s.heap news) (S : St prog w news M U X pvs ps D us) (hka : (a, tup2 i t j u) ∈ news) (hsz : us.length ≤ 1000)
    (h : ∀ h' news', Fr g L h' m → News g L h' news' → St prog w news' M U X pvs ps D (us ++ [(i, j)]) → Q .none { s with heap := h' }) :
    wpAny (model prog w) A (call (.builtin "list.append") [.ref U, .ref a]) Q E s := by
  obtain ⟨vs, n, hU, hp⟩ := S.fur
  have hz : vs.toArray.size ≤ sizeLine := by rw [List.size_toArray, hp.length, sizeLine_eq]; omega
  refine wpAny_list_append_plain (hsz := hz) ⟨n, (N _ hU).1⟩ fun h' hpl hs => ?_
  obtain ⟨n', ho'⟩ := hpl
  have e : vs.toArray.push (Value.ref a) = (vs ++ [Value.ref a]).toArray := by simp
  rw [e] at ho'
  have keep : ∀ q ∈ news, q.1 ≠ U → q ∈ news.map fun p => if p.1 = U then (U, W.listOf (vs ++ [Value.ref a]).toArray n') else p := fun q hq hne => List.mem_map.mpr ⟨q, hq, by simp [hne]⟩
  have ht : ∀ b o, (b, o) ∈ news → o.cls = .type "tuple" → (b, o) ∈ news.map fun p => if p.1 = U then (U, W.listOf (vs ++ [Value.ref a]).toArray n') else p := fun b o hm hc => keep _ hm fun q => by
    have e1 : o = W.listOf vs.toArray n := news_one N hm (by rw [show b = U from q]; exact hU)
    rw [e1] at hc
    exact absurd hc (show ¬ (Value.type "list" = .type "tuple") by decide)
  refine h h' _ (F.change hs (N _ hU).2.1 (N _ hU).2.2) (N.replace hs ho') ⟨?_, ?_, fun q hq => ?_, S.plc.mono ht⟩
  · obtain ⟨oM, hM, hMc⟩ := TupTab.dict S.met
    refine TupTab.mono S.met (fun o hm hoc => keep _ hm fun q => ?_) ht
    have e1 : o = W.listOf vs.toArray n := news_one N hm (by rw [show M = U from q]; exact hU)
    rw [e1] at hoc
    exact absurd hoc (show ¬ (Value.type "list" = .type "dict") by decide)
  · refine ⟨_, n', List.mem_map.mpr ⟨_, hU, by simp⟩, (hp.mono ht).snoc ⟨t, u, ht _ _ hka rfl⟩⟩
  · have := S.ext q hq
    exact ⟨keep _ this.1 this.2.2, this.2⟩
end

/-! ### a loop over a list of pairs that the call has made; the ledger is not written out -/
section
variable {prog : Program} {w : World} {A : Around} {E : Value → Shared → Prop} {s : Shared} {env : Env} {g : Heap} {body : List Stmt} {Q : Flow → Shared → Prop}
theorem owned_go {elts : List PySem.Expr} {kk : Nat} {pt : Pos} {I l : Addr} {i : Nat} {v : Value} {Q' : Unit → Shared → Prop} (hit : s.heap.IsListIter I l i) (hQ : Q' () s) : wpAny (model prog w) A (letOwnedTupleGo (.Tuple elts kk pt) (.ref I) v) Q' E s := by
  cases v with
  | ref T => exact wpAny_letOwnedTupleGo_listiter hit hQ
  | _ => exact wpAny_pure hQ

def ListEnd (g : Heap) (L I l : Addr) (oI ol : Obj) (J : (Str → Option Value) → List (Addr × Obj) → Prop) (s₁ : Shared) (f : Flow) (s₂ : Shared) : Prop :=
  f = .next ∧ ∃ h' tk' m' nw', s₂ = { s₁ with heap := h', toks := tk' } ∧ Fr g L h' m' ∧ News g L h' nw' ∧ (I, oI) ∈ nw' ∧ (l, ol) ∈ nw' ∧ J m' nw'

theorem for_list {elts : List PySem.Expr} {kk nl : Nat} {pt : Pos} {l : Addr} {vs : List Value} {m₀ : Str → Option Value} {news : List (Addr × Obj)} (J : Nat → (Str → Option Value) → List (Addr × Obj) → Prop)
    (hh : A.handled = none) (F : Fr g env.locals s.heap m₀) (N : News g env.locals s.heap news) (hl : (l, W.listOf vs.toArray nl) ∈ news) (h0 : J 0 m₀ news)
    (hmono : ∀ i m nw nw', J i m nw → (∀ a o, (a, o) ∈ nw → o.cls ≠ .type "list_iterator" → (a, o) ∈ nw') → J i m nw')
    (turn : ∀ i v m₁ nw s₁ I oI ol, vs[i]? = some v → J i m₁ nw → Fr g env.locals s₁.heap m₁ → News g env.locals s₁.heap nw → (I, oI) ∈ nw → oI.cls = .type "list_iterator" → (l, ol) ∈ nw → ol.cls = .type "list" →
      wpAny (model prog w) A (assign (.Tuple elts kk pt) env v) (fun _ s₃ => wpAny (model prog w) A (execs body env) (ListEnd g env.locals I l oI ol (J (i + 1)) s₁) E s₃) E s₁)
    (done : ∀ m₁ nw h tk, J vs.length m₁ nw → Fr g env.locals h m₁ → News g env.locals h nw → Q .next { s with heap := h, toks := tk }) :
    wpAny (model prog w) A (pyIter (.ref l)) (fun it s₂ => LoopAtT prog w A g env (.Tuple elts kk pt) body Q E it s₂) E s := by
  have hls : s.heap.IsList l vs.toArray := PySem.IsL.isList (n := nl) (N _ hl).1
  have hlt : l < s.heap.objs.size := Heap.lt_size (N _ hl).1
  have hne : l ≠ s.heap.objs.size := Nat.ne_of_lt hlt
  have hsz : vs.toArray.size = vs.length := List.size_toArray ..
  refine wpAny_pyIter_list hls ?_
  have WL := Walks.list (prog := prog) (w := w) hh s.heap.objs.size l hne vs.toArray
  refine ⟨_, _, _, vs.toArray.size, _, _, m₀, news, J, rfl, WL, ?_, ?_, ?_, ⟨⟨_, Heap.get?_push_size _ rfl, rfl, rfl⟩, hls.at fun o e => Heap.get?_push_of_some _ e⟩, F.push _, (fun p hp => ⟨Heap.get?_push_of_some _ (N p hp).1, (N p hp).2⟩), ?_, h0, ?_, ?_⟩
  · intro hm
    rcases List.mem_cons.mp hm with e | hm
    · exact absurd F.ns.lt (e ▸ Nat.lt_irrefl _)
    · exact (N _ hl).2.1 (List.mem_singleton.mp hm).symm
  · intro b hb
    rw [List.mem_singleton.mp hb]
    exact next_is_new F
  · intro p hp hI
    exact absurd (Heap.lt_size (N p hp).1) ((List.mem_singleton.mp hI) ▸ Nat.lt_irrefl _)
  · intro i s' v Q' st hQ'
    exact owned_go st.1 hQ'
  · intro i v m₁ news₁ s₁ own hin hP hJ hoff hown hget hall st F₁ N₁
    obtain ⟨oI, hoI, hcI, _⟩ := st.1
    have hI : (s.heap.objs.size, oI) ∈ own := hall _ (.head _) (next_is_new F) oI hoI
    have hlo : g.get? l = none := (N _ hl).2.2
    obtain ⟨ol, hol, hcl, _⟩ := st.2
    have hL : (l, ol) ∈ own := hall l (.tail _ (.head _)) hlo ol hol
    have hv : vs[i]? = some v := by simpa using hP
    have hJ' : J i m₁ (own ++ news₁) := hmono _ _ _ _ hJ fun a o h _ => List.mem_append_right _ h
    refine wpAny_mono (turn i v m₁ (own ++ news₁) s₁ s.heap.objs.size oI ol hv hJ' F₁ N₁ (List.mem_append_left _ hI) hcI (List.mem_append_left _ hL) hcl) (fun _ s₃ h₃ => wpAny_mono h₃ (fun f s₄ h₄ => ?_) fun _ _ x => x) fun _ _ x => x
    obtain ⟨rfl, h', tk', m', nw', rfl, F', N', hI', hl', hJ''⟩ := h₄
    refine ⟨rfl, h', tk', m', nw'.filter (fun p => p.1 ≠ s.heap.objs.size), rfl, F', ?_, ?_, ?_⟩
    · intro p hp
      rcases List.mem_append.mp hp with hp | hp
      · have hg := hget p hp
        rcases List.mem_cons.mp (hown p hp) with e | e
        · have e2 : p.2 = oI := by rw [e, hoI] at hg; exact (Option.some.inj hg).symm
          have : p = (s.heap.objs.size, oI) := Prod.ext e e2
          rw [this]; exact N' _ hI'
        · have e1 := List.mem_singleton.mp e
          have e2 : p.2 = ol := by rw [e1, hol] at hg; exact (Option.some.inj hg).symm
          have : p = (l, ol) := Prod.ext e1 e2
          rw [this]; exact N' _ hl'
      · exact N' p (List.mem_filter.mp hp).1
    · intro p hp hq
      have := (List.mem_filter.mp hp).2
      simp only [decide_eq_true_eq] at this
      exact this (List.mem_singleton.mp hq)
    · refine hmono _ _ _ _ hJ'' fun a o h hc => List.mem_filter.mpr ⟨h, ?_⟩
      simp only [decide_eq_true_eq]
      intro e
      have e1 : o = oI := Option.some.inj ((show h'.get? s.heap.objs.size = some o from e ▸ (N' _ h).1).symm.trans (N' _ hI').1)
      exact hc (e1 ▸ hcI)
  · rintro h' tk' m' news' F' N' _ hJ
    rw [hsz] at hJ
    exact done m' news' h' tk' hJ F' N'
end

local macro_rules | `(tactic| walk_at "newTuple") => `(tactic| (k_here; (with_reducible show wpAny _ _ (newTuple [Value.int _ _, Value.int _ _]) _ _ _); (rename St _ _ _ _ _ _ _ _ _ _ => lS); (rename Fr _ _ _ _ => lF); (rename News _ _ _ _ => lN); k_dflt (refine bfs_newTuple lF lN lS ?_); (try dsimp only); clear lF lN lS; intro a' h' news' F' N' S' hka'))
local macro_rules | `(tactic| walk_at "compareOp NotIn ref ref") => `(tactic| (k_here; (rename St _ _ _ _ _ _ _ _ _ _ => lS); (rename News _ _ _ _ => lN); (rename (_ ∈ _) => lK); (with_reducible refine bfs_notin ?k1 lN lS lK (by assumption) ?_); (case k1 => (dsimp only [Around.deeper, ktrTop]; omega)); intro tk'; (try dsimp only)))
local macro_rules | `(tactic| walk_at "setItem ref ref") => `(tactic| (k_here; (rename St _ _ _ _ _ _ _ _ _ _ => lS); (rename Fr _ _ _ _ => lF); (rename News _ _ _ _ => lN); (rename (_ ∈ _) => lK); k_dflt (refine bfs_set ?k1 lF lN lS lK ?k2 ?_); (case k1 => (dsimp only [Around.deeper, ktrTop]; omega)); (case k2 => first | assumption | omega); (try dsimp only); clear lF lN lS lK; intro h' news' tk' F' N' S'))
local macro_rules | `(tactic| walk_at "getMethod ref") => `(tactic| (k_here; (rename St _ _ _ _ _ _ _ _ _ _ => lS); (rename News _ _ _ _ => lN); (with_reducible refine bfs_method lN lS ?_); (try dsimp only)))
local macro_rules | `(tactic| walk_at "call builtin:list.append") => `(tactic| (k_here; (rename St _ _ _ _ _ _ _ _ _ _ => lS); (rename Fr _ _ _ _ => lF); (rename News _ _ _ _ => lN); (rename (_ ∈ _) => lK); k_dflt (refine bfs_append lF lN lS lK ?k2 ?_); (case k2 => ((try simp only [List.length_append, List.length_cons, List.length_nil]); omega)); (try dsimp only); clear lF lN lS lK; intro h' news' F' N' S'))

/-! ### _law_edits -/
def edBody : List Stmt := fnBody (defAt 4)
def edScope : Scope := fnScope (defAt 4)
def edWhile : Stmt := nth edBody 3
def edFor : Stmt := nth (inOf edWhile) 1
def edTurn : Stmt := nth (inOf edFor) 0
def edIf : Stmt := nth (inOf edTurn) 3
abbrev edEnv (L : Addr) : Env := envX (Str.ofString "_law_edits") edScope L 37 (.ref 36) []
section
variable {w : World} {loose : List Str} {mean : ExcName → Option Value} {mg mb : Str → Option Value} {dp un : Nat} {gd : Option (List Code)} {cn : Str} {cs : Scope} {L₀ a : Addr} {ccd : Value} {cl : List (Str × Addr)} {outer : List Env} {base g : Heap} {L : Addr} {s : Shared} {Q : Flow → Shared → Prop} {E : Value → Shared → Prop}
set_option maxHeartbeats 8000000 in
theorem ed_if (C : CX w loose mean mg mb dp un gd cn cs L₀ a ccd cl outer base g) {M U P : Addr} {X news : List (Addr × Obj)} {m : Str → Option Value} {x y : Str} {tx ty ti tj te : Tok} {i j : Nat} {k : Int} {sw : Bool} {pvs : List Value} {ps us : List (Int × Int)} {D : List (PyData × PyData)}
    (hx : x.length ≤ 7) (hy : y.length ≤ 7) (hi : i ≤ x.length) (hj : j ≤ y.length) (hus : us.length ≤ 900)
    (F : Fr g L s.heap (fun z => if z = Str.ofString "j" then some (.int (j : Int) tj) else if z = Str.ofString "i" then some (.int (i : Int) ti) else if z = Str.ofString "met" then some (.ref M) else if z = Str.ofString "further" then some (.ref U) else if z = Str.ofString "edits" then some (.int k te) else if z = Str.ofString "places" then some (.ref P) else if z = Str.ofString "one" then some (.str x tx) else if z = Str.ofString "two" then some (.str y ty) else if z = Str.ofString "swaps" then some (.bool sw) else m z))
    (N : News g L s.heap news) (S : St PySem.Challenge.rw_iu0044_01.row.prog w news M U X pvs ps D us)
    (ret : ∀ h' tk' m' news' us' (i' j' : Int) ti' tj', Fr g L h' m' → (∀ p ∈ [(Str.ofString "j", Value.int j' tj'), (Str.ofString "i", .int i' ti'), (Str.ofString "met", .ref M), (Str.ofString "further", .ref U), (Str.ofString "edits", .int k te), (Str.ofString "places", .ref P), (Str.ofString "one", .str x tx), (Str.ofString "two", .str y ty), (Str.ofString "swaps", .bool sw)], m' p.1 = some p.2) →
      News g L h' news' → St PySem.Challenge.rw_iu0044_01.row.prog w news' M U X pvs ps D us' →
      us' = (if i < x.length ∧ j < y.length then (if (sw && decide (i + 1 < x.length) && decide (j + 1 < y.length) && (Txt.item x (i : Int) == Txt.item y ((j : Int) + 1)) && (Txt.item x ((i : Int) + 1) == Txt.item y (j : Int))) = true then us ++ [((i : Int) + 1, (j : Int) + 1)] ++ [((i : Int) + 2, (j : Int) + 2)] else us ++ [((i : Int) + 1, (j : Int) + 1)]) else us) →
      (i', j') = (if i < x.length ∧ j < y.length ∧ (Txt.item x (i : Int) == Txt.item y (j : Int)) = true then ((i : Int) + 1, (j : Int) + 1) else ((i : Int), (j : Int))) →
      Q .next { s with heap := h', toks := tk' }) :
    wpAny (model PySem.Challenge.rw_iu0044_01.row.prog w) ((ktrTop dp un gd cn cs L₀ a ccd cl outer).deeper (edEnv L)) (exec edIf (edEnv L)) Q E s := by
  obtain ⟨B, XX, T', hk, hdp, hun⟩ := C
  have e : edIf = edIf := rfl
  conv at e => rhs; whnf
  have e2 : edScope = edScope := rfl
  conv at e2 => rhs; whnf
  unfold edEnv
  rw [e, e2]
  clear e e2
  k_with_none
  rcases (Nat.lt_or_ge i x.length).symm with hi1 | hi1
  · k_steps
    exact ret _ _ _ _ _ _ _ _ _ (by assumption) (by kst_all) (by assumption) (by assumption) (by rw [if_neg (by omega)]) (by rw [if_neg (by omega)])
  rcases (Nat.lt_or_ge j y.length).symm with hj1 | hj1
  · k_steps
    exact ret _ _ _ _ _ _ _ _ _ (by assumption) (by kst_all) (by assumption) (by assumption) (by rw [if_neg (by omega)]) (by rw [if_neg (by omega)])
  generalize hA : (Txt.item x (i : Int) == Txt.item y ((j : Int) + 1)) = bA at ret
  generalize hB : (Txt.item x ((i : Int) + 1) == Txt.item y (j : Int)) = bB at ret
  generalize hC : (Txt.item x (i : Int) == Txt.item y (j : Int)) = bC at ret
  replace hA := Known.mk hA
  replace hB := Known.mk hB
  replace hC := Known.mk hC
  cases bC <;> cases bB <;> cases bA <;> cases sw
  all_goals k_steps
  all_goals exact ret _ _ _ _ _ _ _ _ _ (by assumption) (by kst_all) (by assumption) (by assumption) (by rw [if_pos ⟨hi1, hj1⟩]; split <;> first | rfl | (exfalso; rename_i hh; simp at hh <;> omega)) (by split <;> first | rfl | (exfalso; rename_i hh; simp at hh <;> omega))
end

section
variable {w : World} {loose : List Str} {mean : ExcName → Option Value} {mg mb : Str → Option Value} {dp un : Nat} {gd : Option (List Code)} {cn : Str} {cs : Scope} {L₀ a : Addr} {ccd : Value} {cl : List (Str × Addr)} {outer : List Env} {base g : Heap} {L : Addr} {s : Shared} {Q : Flow → Shared → Prop} {E : Value → Shared → Prop}
set_option maxHeartbeats 8000000 in
theorem ed_turn (C : CX w loose mean mg mb dp un gd cn cs L₀ a ccd cl outer base g) {M U P : Addr} {X news : List (Addr × Obj)} {m : Str → Option Value} {x y : Str} {tx ty ti tj te : Tok} {i j : Nat} {k : Int} {sw : Bool} {pvs : List Value} {ps us : List (Int × Int)} {D : List (PyData × PyData)}
    (hx : x.length ≤ 7) (hy : y.length ≤ 7) (hi : i ≤ x.length) (hj : j ≤ y.length) (hus : us.length ≤ 800) (hD : D.length ≤ 1000)
    (F : Fr g L s.heap (fun z => if z = Str.ofString "j" then some (.int (j : Int) tj) else if z = Str.ofString "i" then some (.int (i : Int) ti) else if z = Str.ofString "met" then some (.ref M) else if z = Str.ofString "further" then some (.ref U) else if z = Str.ofString "edits" then some (.int k te) else if z = Str.ofString "places" then some (.ref P) else if z = Str.ofString "one" then some (.str x tx) else if z = Str.ofString "two" then some (.str y ty) else if z = Str.ofString "swaps" then some (.bool sw) else m z))
    (N : News g L s.heap news) (S : St PySem.Challenge.rw_iu0044_01.row.prog w news M U X pvs ps D us)
    (ret : ∀ h' tk' m' news' us' (i' j' : Int) ti' tj', Fr g L h' m' → (∀ p ∈ [(Str.ofString "j", Value.int j' tj'), (Str.ofString "i", .int i' ti'), (Str.ofString "met", .ref M), (Str.ofString "further", .ref U), (Str.ofString "edits", .int k te), (Str.ofString "places", .ref P), (Str.ofString "one", .str x tx), (Str.ofString "two", .str y ty), (Str.ofString "swaps", .bool sw)], m' p.1 = some p.2) →
      News g L h' news' → St PySem.Challenge.rw_iu0044_01.row.prog w news' M U X pvs ps (putD (encTuple PyData.int [(i : Int), (j : Int)]) (.int k) D) us' →
      us' = us ++ ((if i < x.length then [((i : Int) + 1, (j : Int))] else []) ++ (if j < y.length then [((i : Int), (j : Int) + 1)] else []) ++
        (if i < x.length ∧ j < y.length then (if (sw && decide (i + 1 < x.length) && decide (j + 1 < y.length) && (Txt.item x (i : Int) == Txt.item y ((j : Int) + 1)) && (Txt.item x ((i : Int) + 1) == Txt.item y (j : Int))) = true then [((i : Int) + 1, (j : Int) + 1), ((i : Int) + 2, (j : Int) + 2)] else [((i : Int) + 1, (j : Int) + 1)]) else [])) →
      (i', j') = (if i < x.length ∧ j < y.length ∧ (Txt.item x (i : Int) == Txt.item y (j : Int)) = true then ((i : Int) + 1, (j : Int) + 1) else ((i : Int), (j : Int))) →
      Q .next { s with heap := h', toks := tk' }) :
    wpAny (model PySem.Challenge.rw_iu0044_01.row.prog w) ((ktrTop dp un gd cn cs L₀ a ccd cl outer).deeper (edEnv L)) (execs (inOf edTurn) (edEnv L)) Q E s := by
  have C' := C
  obtain ⟨B, XX, T', hk, hdp, hun⟩ := C'
  have e : inOf edTurn = inOf edTurn := rfl
  conv at e => rhs; whnf
  have e2 : edScope = edScope := rfl
  conv at e2 => rhs; whnf
  unfold edEnv
  rw [e, e2]
  clear e e2
  k_with_none
  k_with "hold if" => ((with_reducible show wpAny _ _ (exec (PySem.Stmt.If (PySem.Expr.BoolOp _ _ _) _ _ _) _) _ _ _); refine Hold.mk ?_)
  k_steps
  all_goals (try dsimp only at *)
  all_goals (rename Fr _ _ _ _ => F9; rename News _ _ _ _ => N9; rename St _ _ _ _ _ _ _ _ _ _ => S9)
  all_goals refine ed_if C (i := i) (j := j) (ti := ti) (tj := tj) (te := te) (k := k) (sw := sw) (tx := tx) (ty := ty) (P := P) hx hy hi hj ?_ (fr_names [(Str.ofString "j", Value.int (j : Int) tj), (Str.ofString "i", .int (i : Int) ti), (Str.ofString "met", .ref M), (Str.ofString "further", .ref U), (Str.ofString "edits", .int k te), (Str.ofString "places", .ref P), (Str.ofString "one", .str x tx), (Str.ofString "two", .str y ty), (Str.ofString "swaps", .bool sw)] (by kst_all) F9) N9 S9 ?_
  any_goals ((try simp only [List.length_append, List.length_cons, List.length_nil]); omega)
  all_goals (intro h' tk' m' news' us' i' j' ti' tj' F' hm' N' S' e1 e2; refine wpAny_execs_nil ?_; refine ret h' tk' m' news' us' i' j' ti' tj' F' hm' N' S' ?_ e2; rw [e1]; by_cases p : i < x.length <;> by_cases q : j < y.length <;> first | (exfalso; omega) | (simp only [p, q, if_true, if_false, and_self, and_false, false_and, true_and, and_true]; first | (split <;> simp) | simp))
end

/-- the pairs as the walk holds them -/
def cp (p : Nat × Nat) : Int × Int := ((p.1 : Int), (p.2 : Int))
/-- the dict tells the least number of edits of the places that have been visited -/
structure MetOk (x y : Str) (sw : Bool) (D : List (PyData × PyData)) (vis : List (Nat × Nat)) : Prop where
  look : ∀ i j : Nat, PySem.Spec.lookup (encTuple PyData.int [(i : Int), (j : Int)]) D = if (i, j) ∈ vis then some (.int (Dm (eqAt x y) sw i j)) else none
  len : D.length ≤ vis.length
theorem MetOk.put {x y : Str} {sw : Bool} {D : List (PyData × PyData)} {vis : List (Nat × Nat)} {i j : Nat} (M : MetOk x y sw D vis) :
    MetOk x y sw (putD (encTuple PyData.int [(i : Int), (j : Int)]) (.int (Dm (eqAt x y) sw i j)) D) ((i, j) :: vis) where
  look := fun a b => by
    rw [lookup_putK (keyEnc_tuple keyEnc_int) [(a : Int), (b : Int)] [(i : Int), (j : Int)], M.look]
    by_cases h : a = i ∧ b = j
    · obtain ⟨rfl, rfl⟩ := h
      rw [if_pos rfl, if_pos (.head _)]
    · rw [if_neg (by intro q; injection q with q1 q2; injection q2 with q2 _; exact h ⟨by omega, by omega⟩)]
      have e1 : ((a, b) ∈ (i, j) :: vis) ↔ (a, b) ∈ vis := by
        constructor
        · intro q
          rcases List.mem_cons.mp q with q | q
          · exact absurd ⟨congrArg Prod.fst q, congrArg Prod.snd q⟩ h
          · exact q
        · exact .tail _
      simp only [e1]
  len := by
    have h1 := length_putD (encTuple PyData.int [(i : Int), (j : Int)]) (.int (Dm (eqAt x y) sw i j)) D
    have h2 := M.len
    rw [h1, List.length_cons]
    split <;> omega
theorem MetOk.known {x y : Str} {sw : Bool} {D : List (PyData × PyData)} {vis : List (Nat × Nat)} (M : MetOk x y sw D vis) (i j : Nat) : Known ((PySem.Spec.lookup (encTuple PyData.int [(i : Int), (j : Int)]) D).isSome = decide ((i, j) ∈ vis)) :=
  ⟨by rw [M.look]; by_cases h : (i, j) ∈ vis <;> simp [h]⟩
theorem eqAt_dif (x y : Str) : ∀ i j k l, eqAt x y i l = true → eqAt x y k l = true → eqAt x y k j = true → eqAt x y i j = true := by
  intro i j k l h1 h2 h3
  unfold eqAt at *
  simp only [beq_iff_eq] at *
  rw [h1, ← h2, h3]

def testOf : Stmt → PySem.Expr
  | .While t _ _ _ => t
  | _ => .Constant .none 0 default
section
variable {w : World} {loose : List Str} {mean : ExcName → Option Value} {mg mb : Str → Option Value} {dp un : Nat} {gd : Option (List Code)} {cn : Str} {cs : Scope} {L₀ a : Addr} {ccd : Value} {cl : List (Str × Addr)} {outer : List Env} {base g : Heap} {L : Addr} {s : Shared} {Q : Flow → Shared → Prop} {E : Value → Shared → Prop}
set_option maxHeartbeats 8000000 in
theorem ed_test (C : CX w loose mean mg mb dp un gd cn cs L₀ a ccd cl outer base g) {M U P : Addr} {X news : List (Addr × Obj)} {m : Str → Option Value} {ti tj : Tok} {i j : Int} {b : Bool} {pvs : List Value} {ps us : List (Int × Int)} {D : List (PyData × PyData)} {R : Bool → Shared → Prop}
    (F : Fr g L s.heap (fun z => if z = Str.ofString "j" then some (.int j tj) else if z = Str.ofString "i" then some (.int i ti) else if z = Str.ofString "met" then some (.ref M) else m z))
    (N : News g L s.heap news) (S : St PySem.Challenge.rw_iu0044_01.row.prog w news M U X pvs ps D us) (hb : Known ((PySem.Spec.lookup (encTuple PyData.int [i, j]) D).isSome = b))
    (ret : ∀ h' tk' news', Fr g L h' (fun z => if z = Str.ofString "j" then some (.int j tj) else if z = Str.ofString "i" then some (.int i ti) else if z = Str.ofString "met" then some (.ref M) else m z) →
      News g L h' news' → St PySem.Challenge.rw_iu0044_01.row.prog w news' M U X pvs ps D us → R (!b) { s with heap := h', toks := tk' }) :
    wpAny (model PySem.Challenge.rw_iu0044_01.row.prog w) ((ktrTop dp un gd cn cs L₀ a ccd cl outer).deeper (edEnv L)) (isTrue (testOf edTurn) (edEnv L) (eval (testOf edTurn) (edEnv L))) R E s := by
  obtain ⟨B, XX, T', hk, hdp, hun⟩ := C
  have e : testOf edTurn = testOf edTurn := rfl
  conv at e => rhs; whnf
  have e2 : edScope = edScope := rfl
  conv at e2 => rhs; whnf
  unfold edEnv
  rw [e, e2]
  clear e e2
  k_with_none
  k_steps
  exact ret _ _ _ (by assumption) (by assumption) (by assumption)

theorem ed_test' (C : CX w loose mean mg mb dp un gd cn cs L₀ a ccd cl outer base g) {M U : Addr} {X news : List (Addr × Obj)} {m : Str → Option Value} {ti tj : Tok} {i j : Int} {b : Bool} {pvs : List Value} {ps us : List (Int × Int)} {D : List (PyData × PyData)} {R : Bool → Shared → Prop}
    (F : Fr g L s.heap m) (hm : ∀ p ∈ [(Str.ofString "j", Value.int j tj), (Str.ofString "i", .int i ti), (Str.ofString "met", .ref M)], m p.1 = some p.2)
    (N : News g L s.heap news) (S : St PySem.Challenge.rw_iu0044_01.row.prog w news M U X pvs ps D us) (hb : Known ((PySem.Spec.lookup (encTuple PyData.int [i, j]) D).isSome = b))
    (ret : ∀ h' tk' news', Fr g L h' m → News g L h' news' → St PySem.Challenge.rw_iu0044_01.row.prog w news' M U X pvs ps D us → R (!b) { s with heap := h', toks := tk' }) :
    wpAny (model PySem.Challenge.rw_iu0044_01.row.prog w) ((ktrTop dp un gd cn cs L₀ a ccd cl outer).deeper (edEnv L)) (isTrue (testOf edTurn) (edEnv L) (eval (testOf edTurn) (edEnv L))) R E s := by
  refine ed_test C (m := m) (P := M) (fr_names _ hm F) N S hb fun h' tk' nw' F' N' S' => ret h' tk' nw' ?_ N' S'
  have F2 : Fr g L h' (kstB m [(Str.ofString "j", Value.int j tj), (Str.ofString "i", .int i ti), (Str.ofString "met", .ref M)]) := F'
  rw [kstB_self hm] at F2
  exact F2

set_option maxHeartbeats 8000000 in
theorem ed_while (C : CX w loose mean mg mb dp un gd cn cs L₀ a ccd cl outer base g) {M U P : Addr} {X news : List (Addr × Obj)} {m : Str → Option Value} {x y : Str} {tx ty ti tj te : Tok} {i j : Nat} {k : Int} {sw : Bool} {pvs : List Value} {ps : List (Int × Int)} {vis us : List (Nat × Nat)} {D : List (PyData × PyData)}
    (hx : x.length ≤ 7) (hy : y.length ≤ 7) (hi : i ≤ x.length) (hj : j ≤ y.length) (hk : Dm (eqAt x y) sw i j ≤ k) (MO : MetOk x y sw D vis) (BB : Bfs (eqAt x y) sw x.length y.length k vis us (fun p => p = (i, j)))
    (F : Fr g L s.heap m) (hm : ∀ p ∈ [(Str.ofString "j", Value.int (j : Int) tj), (Str.ofString "i", .int (i : Int) ti), (Str.ofString "met", .ref M), (Str.ofString "further", .ref U), (Str.ofString "edits", .int k te), (Str.ofString "places", .ref P), (Str.ofString "one", .str x tx), (Str.ofString "two", .str y ty), (Str.ofString "swaps", .bool sw)], m p.1 = some p.2)
    (N : News g L s.heap news) (S : St PySem.Challenge.rw_iu0044_01.row.prog w news M U X pvs ps D (us.map cp))
    (hE : PassesOwn (model PySem.Challenge.rw_iu0044_01.row.prog w) ((ktrTop dp un gd cn cs L₀ a ccd cl outer).deeper (edEnv L)) (edEnv L) E)
    (ret : ∀ h' tk' m' news' D' vis' us', Fr g L h' m' → (∀ p ∈ [(Str.ofString "met", Value.ref M), (Str.ofString "further", .ref U), (Str.ofString "edits", .int k te), (Str.ofString "places", .ref P), (Str.ofString "one", .str x tx), (Str.ofString "two", .str y ty), (Str.ofString "swaps", .bool sw)], m' p.1 = some p.2) → News g L h' news' → St PySem.Challenge.rw_iu0044_01.row.prog w news' M U X pvs ps D' (us'.map cp) →
      MetOk x y sw D' vis' → Bfs (eqAt x y) sw x.length y.length k vis' us' (fun _ => False) → (i, j) ∈ vis' → (∀ p ∈ vis, p ∈ vis') → Q .next { s with heap := h', toks := tk' }) :
    wpAny (model PySem.Challenge.rw_iu0044_01.row.prog w) ((ktrTop dp un gd cn cs L₀ a ccd cl outer).deeper (edEnv L)) (exec edTurn (edEnv L)) Q E s := by
  have e : edTurn = .While (testOf edTurn) (inOf edTurn) [] _ := rfl
  rw [e]
  refine While_inv2 (fun n m₁ nw => ∃ (i' j' : Nat) (ti' tj' : Tok) (D' : List (PyData × PyData)) (vis' us' : List (Nat × Nat)), (∀ p ∈ [(Str.ofString "j", Value.int (j' : Int) tj'), (Str.ofString "i", .int (i' : Int) ti'), (Str.ofString "met", .ref M), (Str.ofString "further", .ref U), (Str.ofString "edits", .int k te), (Str.ofString "places", .ref P), (Str.ofString "one", .str x tx), (Str.ofString "two", .str y ty), (Str.ofString "swaps", .bool sw)], m₁ p.1 = some p.2) ∧
    St PySem.Challenge.rw_iu0044_01.row.prog w nw M U X pvs ps D' (us'.map cp) ∧ MetOk x y sw D' vis' ∧ Bfs (eqAt x y) sw x.length y.length k vis' us' (fun p => p = (i', j')) ∧ i' ≤ x.length ∧ j' ≤ y.length ∧ Dm (eqAt x y) sw i' j' ≤ k ∧
    ((i, j) ∈ vis' ∨ (i, j) = (i', j')) ∧ (∀ p ∈ vis, p ∈ vis') ∧ n = 2 * (x.length - i') + (if (i', j') ∈ vis' then 0 else 1)) F N ⟨i, j, ti, tj, D, vis, us, hm, S, MO, BB, hi, hj, hk, .inr rfl, fun _ h => h, rfl⟩ ?_ hE
  rintro n m₁ nw h₁ tk₁ F₁ N₁ ⟨i', j', ti', tj', D', vis', us', hm', S', MO', BB', hi', hj', hk', hst, hsub, hn⟩
  refine ed_test' C (tj := tj') (ti := ti') (M := M) F₁ ?_ N₁ S' (MO'.known i' j') ?_
  · simp only [List.forall_mem_cons] at hm' ⊢
    exact ⟨hm'.1, hm'.2.1, hm'.2.2.1, by simp⟩
  intro h2 tk2 nw2 F2 N2 S2
  by_cases hv : (i', j') ∈ vis'
  · rw [if_neg (by simp [hv])]
    refine ret h2 tk2 m₁ nw2 D' vis' us' F2 ?_ N2 S2 MO' ⟨BB'.g1, BB'.g2, ?_, BB'.g4, BB'.g5, BB'.g6, BB'.g7⟩ (hst.elim id fun q => q ▸ hv) hsub
    · simp only [List.forall_mem_cons] at hm' ⊢
      exact hm'.2.2
    · intro a b h1 h2 h3 h4 h5
      rcases BB'.g3 a b h1 h2 h3 h4 h5 with q | q
      · exact .inl q
      · exact .inl (by rw [q]; exact hv)
  · rw [if_pos (by simp [hv])]
    obtain ⟨hdk, BB2⟩ := BB'.step (eqAt_dif x y) hv hi' hj' hk'
    have hlen : vis'.length ≤ 64 := vis_len hx hy BB'.g6 fun p hp => ⟨(BB'.g1 p hp).1, (BB'.g1 p hp).2.1⟩
    have hul := BB'.g7
    have hdl := MO'.len
    refine ed_turn C (i := i') (j := j') (ti := ti') (tj := tj') (te := te) (k := k) (sw := sw) (tx := tx) (ty := ty) (P := P) (m := m₁) hx hy hi' hj' (by rw [List.length_map]; omega) (by omega) (fr_names _ hm' F2) N2 S2 ?_
    intro h3 tk3 m3 nw3 us3 i3 j3 ti3 tj3 F3 hm3 N3 S3 e3 e4
    have e5 : us3 = (us' ++ succs (eqAt x y) sw x.length y.length i' j').map cp := by
      rw [e3, List.map_append]
      congr 1
      unfold succs eqAt
      rw [List.map_append, List.map_append]
      by_cases p1 : i' < x.length <;> by_cases p2 : j' < y.length <;> simp only [p1, p2, if_true, if_false, and_self, and_false, false_and, List.map_cons, List.map_nil, cp, Int.natCast_add, Int.cast_ofNat_Int]
      split <;> rfl
    have MO3 : MetOk x y sw (putD (encTuple PyData.int [(i' : Int), (j' : Int)]) (.int k) D') ((i', j') :: vis') := by
      have := MO'.put (i := i') (j := j')
      rw [hdk] at this
      exact this
    rw [e5] at S3
    by_cases hmt : i' < x.length ∧ j' < y.length ∧ eqAt x y i' j' = true
    · rw [if_pos hmt] at BB2
      have e6 : (i3, j3) = ((i' : Int) + 1, (j' : Int) + 1) := by rw [e4]; exact if_pos hmt
      obtain ⟨e7, e8⟩ := Prod.mk.inj e6
      subst e7; subst e8
      refine ⟨h3, tk3, m3, nw3, _, rfl, F3, N3, ?_, i' + 1, j' + 1, ti3, tj3, _, (i', j') :: vis', us' ++ succs (eqAt x y) sw x.length y.length i' j', hm3, S3, MO3, BB2, hmt.1, hmt.2.1, ?_, ?_, fun p hp => .tail _ (hsub p hp), rfl⟩
      · rw [hn, if_neg hv]
        split <;> omega
      · have := Dm_match (sw := sw) hmt.2.2
        omega
      · rcases hst with q | q
        · exact .inl (.tail _ q)
        · exact .inl (by rw [q]; exact .head _)
    · rw [if_neg hmt] at BB2
      have e6 : (i3, j3) = ((i' : Int), (j' : Int)) := by rw [e4]; exact if_neg hmt
      obtain ⟨e7, e8⟩ := Prod.mk.inj e6
      subst e7; subst e8
      refine ⟨h3, tk3, m3, nw3, _, rfl, F3, N3, ?_, i', j', ti3, tj3, _, (i', j') :: vis', us' ++ succs (eqAt x y) sw x.length y.length i' j', hm3, S3, MO3, BB2, hi', hj', hk', ?_, fun p hp => .tail _ (hsub p hp), rfl⟩
      · rw [hn, if_neg hv, if_pos (.head _)]
        omega
      · rcases hst with q | q
        · exact .inl (.tail _ q)
        · exact .inl (by rw [q]; exact .head _)
end

def tgtOf : Stmt → PySem.Expr
  | .For t _ _ _ _ => t
  | _ => .Constant .none 0 default
def Fur (nw : List (Addr × Obj)) (U : Addr) (us : List (Nat × Nat)) : Prop := ∃ vs n, (U, W.listOf vs.toArray n) ∈ nw ∧ PairsIn nw vs (us.map cp)
section
variable {w : World} {loose : List Str} {mean : ExcName → Option Value} {mg mb : Str → Option Value} {dp un : Nat} {gd : Option (List Code)} {cn : Str} {cs : Scope} {L₀ a : Addr} {ccd : Value} {cl : List (Str × Addr)} {outer : List Env} {base g : Heap} {L : Addr} {s : Shared} {Q : Flow → Shared → Prop} {E : Value → Shared → Prop}
set_option maxHeartbeats 8000000 in
theorem ed_assign (C : CX w loose mean mg mb dp un gd cn cs L₀ a ccd cl outer base g) {nw : List (Addr × Obj)} {m : Str → Option Value} {ta : Addr} {i j : Int} {t u : Tok} {R : Unit → Shared → Prop}
    (F : Fr g L s.heap m) (N : News g L s.heap nw) (ha : (ta, tup2 i t j u) ∈ nw)
    (ret : ∀ h' tk', Fr g L h' (fun z => if z = Str.ofString "j" then some (.int j u) else if z = Str.ofString "i" then some (.int i t) else m z) → News g L h' nw → R () { s with heap := h', toks := tk' }) :
    wpAny (model PySem.Challenge.rw_iu0044_01.row.prog w) ((ktrTop dp un gd cn cs L₀ a ccd cl outer).deeper (edEnv L)) (assign (tgtOf edFor) (edEnv L) (.ref ta)) R E s := by
  obtain ⟨B, XX, T', hk, hdp, hun⟩ := C
  have e : tgtOf edFor = tgtOf edFor := rfl
  conv at e => rhs; whnf
  have e2 : edScope = edScope := rfl
  conv at e2 => rhs; whnf
  unfold edEnv
  rw [e, e2]
  clear e e2
  k_with_none
  k_steps
  exact ret _ _ (by assumption) (by assumption)

set_option maxHeartbeats 8000000 in
theorem ed_for (C : CX w loose mean mg mb dp un gd cn cs L₀ a ccd cl outer base g) {M U P : Addr} {news : List (Addr × Obj)} {m : Str → Option Value} {x y : Str} {tx ty te : Tok} {k : Int} {sw : Bool} {pvs : List Value} {nP : Nat} {psN vis : List (Nat × Nat)} {D : List (PyData × PyData)}
    (hx : x.length ≤ 7) (hy : y.length ≤ 7) (W0 : Lay (e := eqAt x y) (sw := sw) (m := x.length) (n := y.length) k vis psN) (MO : MetOk x y sw D vis)
    (F : Fr g L s.heap m) (hm : ∀ p ∈ [(Str.ofString "met", Value.ref M), (Str.ofString "further", .ref U), (Str.ofString "edits", .int k te), (Str.ofString "places", .ref P), (Str.ofString "one", .str x tx), (Str.ofString "two", .str y ty), (Str.ofString "swaps", .bool sw)], m p.1 = some p.2)
    (N : News g L s.heap news) (T : TupTab (PySem.intKind PySem.Challenge.rw_iu0044_01.row.prog w) PyData.int news M D) (hU : Fur news U []) (hP : (P, W.listOf pvs.toArray nP) ∈ news) (hps : PairsIn news pvs (psN.map cp)) (hPU : P ≠ U)
    (hE : PassesOwn (model PySem.Challenge.rw_iu0044_01.row.prog w) ((ktrTop dp un gd cn cs L₀ a ccd cl outer).deeper (edEnv L)) (edEnv L) E)
    (ret : ∀ h' tk' m' news' D' vis' us', Fr g L h' m' → (∀ p ∈ [(Str.ofString "met", Value.ref M), (Str.ofString "further", .ref U), (Str.ofString "edits", .int k te), (Str.ofString "places", .ref P), (Str.ofString "one", .str x tx), (Str.ofString "two", .str y ty), (Str.ofString "swaps", .bool sw)], m' p.1 = some p.2) → News g L h' news' → TupTab (PySem.intKind PySem.Challenge.rw_iu0044_01.row.prog w) PyData.int news' M D' → Fur news' U us' →
      MetOk x y sw D' vis' → Lay (e := eqAt x y) (sw := sw) (m := x.length) (n := y.length) (k + 1) vis' us' → Q .next { s with heap := h', toks := tk' }) :
    wpAny (model PySem.Challenge.rw_iu0044_01.row.prog w) ((ktrTop dp un gd cn cs L₀ a ccd cl outer).deeper (edEnv L)) (exec edFor (edEnv L)) Q E s := by
  have e : edFor = .For (tgtOf edFor) (.Name (Str.ofString "places") _) [edTurn] [] _ := rfl
  rw [e]
  refine For_invTF F ?_ (fun _ => rfl) hE
  refine nameX_L F (hm _ (.tail _ (.tail _ (.tail _ (.head _))))) ?_
  refine for_list (fun i m₁ nw => ∃ (D' : List (PyData × PyData)) (vis' us' : List (Nat × Nat)), (∀ p ∈ [(Str.ofString "met", Value.ref M), (Str.ofString "further", .ref U), (Str.ofString "edits", .int k te), (Str.ofString "places", .ref P), (Str.ofString "one", .str x tx), (Str.ofString "two", .str y ty), (Str.ofString "swaps", .bool sw)], m₁ p.1 = some p.2) ∧ TupTab (PySem.intKind PySem.Challenge.rw_iu0044_01.row.prog w) PyData.int nw M D' ∧ Fur nw U us' ∧ PairsIn nw pvs (psN.map cp) ∧
    MetOk x y sw D' vis' ∧ Bfs (eqAt x y) sw x.length y.length k vis' us' (fun _ => False) ∧ (∀ p ∈ psN.take i, p ∈ vis')) rfl F N hP ⟨D, vis, [], hm, T, hU, hps, MO, W0.bfs, by simp⟩ ?_ ?_ ?_
  · rintro i m₁ nw nw' ⟨D', vis', us', hm', T', ⟨vs, n, hU', hpu⟩, hps', MO', BB', ht'⟩ hk
    have ht : ∀ b o, (b, o) ∈ nw → o.cls = .type "tuple" → (b, o) ∈ nw' := fun b o hb hc => hk b o hb (by rw [hc]; decide)
    exact ⟨D', vis', us', hm', TupTab.mono T' (fun o hb hc => hk _ _ hb (by rw [hc]; decide)) ht, ⟨vs, n, hk _ _ hU' (show ¬ (Value.type "list" = .type "list_iterator") by decide), hpu.mono ht⟩, hps'.mono ht, MO', BB', ht'⟩
  · rintro i v m₁ nw s₁ I oI ol hv ⟨D', vis', us', hm', T', hU', hps', MO', BB', ht'⟩ F₁ N₁ hI hcI hl hcl
    obtain ⟨ta, p, rfl, hp, t, u, hmem⟩ := hps'.get i v hv
    obtain ⟨q, hq, rfl⟩ : ∃ q, psN[i]? = some q ∧ cp q = p := by
      rw [List.getElem?_map] at hp
      cases h9 : psN[i]? with
      | none => rw [h9] at hp; cases hp
      | some q => rw [h9] at hp; exact ⟨q, rfl, Option.some.inj hp⟩
    have hqm : q ∈ psN := List.mem_of_getElem? hq
    have hw2 := W0.w2 q hqm
    refine ed_assign C F₁ N₁ hmem ?_
    intro h2 tk2 F2 N2
    have hIM : I ≠ M := fun h => by
      obtain ⟨oM, hM, hMc⟩ := TupTab.dict T'
      have := news_one N₁ hI (by rw [h]; exact hM)
      rw [this, hMc] at hcI
      exact absurd hcI (by decide)
    have hIU : I ≠ U := fun h => by
      obtain ⟨vs, n, hU9, _⟩ := hU'
      have := news_one N₁ hI (by rw [h]; exact hU9)
      rw [this] at hcI
      exact absurd hcI (show ¬ (Value.type "list" = .type "list_iterator") by decide)
    have hPM : P ≠ M := fun h => by
      obtain ⟨oM, hM, hMc⟩ := TupTab.dict T'
      have := news_one N₁ hl (by rw [h]; exact hM)
      rw [this, hMc] at hcl
      exact absurd hcl (by decide)
    have S2 : St PySem.Challenge.rw_iu0044_01.row.prog w nw M U [(I, oI), (P, ol)] pvs (psN.map cp) D' (us'.map cp) := by
      refine ⟨T', hU', ?_, hps'⟩
      intro r hr
      rcases List.mem_cons.mp hr with rfl | hr
      · exact ⟨hI, hIM, hIU⟩
      · rcases List.mem_singleton.mp hr with rfl
        exact ⟨hl, hPM, hPU⟩
    refine wpAny_execs_cons ?_
    refine ed_while C (i := q.1) (j := q.2) (ti := t) (tj := u) (te := te) (k := k) (sw := sw) (tx := tx) (ty := ty) (P := P) hx hy hw2.1 hw2.2.1 hw2.2.2 MO' ⟨BB'.g1, BB'.g2, (fun a b h1 h2 h3 h4 h5 => (BB'.g3 a b h1 h2 h3 h4 h5).imp id fun h => h.elim), BB'.g4, BB'.g5, BB'.g6, BB'.g7⟩ F2 ?_ N2 S2 hE ?_
    · simp only [List.forall_mem_cons] at hm' ⊢
      refine ⟨by with_unfolding_all rfl, by with_unfolding_all rfl, ?_⟩
      exact ⟨hm'.1, hm'.2.1, hm'.2.2.1, hm'.2.2.2.1, hm'.2.2.2.2.1, hm'.2.2.2.2.2.1, hm'.2.2.2.2.2.2.1, by simp⟩
    · intro h3 tk3 m3 nw3 D3 vis3 us3 F3 hm3 N3 S3 MO3 BB3 hin hsub
      refine wpAny_execs_nil ?_
      refine ⟨rfl, h3, tk3, m3, nw3, rfl, F3, N3, (S3.ext _ (.head _)).1, (S3.ext _ (.tail _ (.head _))).1, D3, vis3, us3, hm3, S3.met, S3.fur, S3.plc, MO3, BB3, ?_⟩
      intro r hr
      rw [List.take_add_one, hq] at hr
      rcases List.mem_append.mp hr with hr | hr
      · exact hsub r (ht' r hr)
      · have : r = q := by simpa using hr
        rw [this]; exact hin
  · rintro m₁ nw h tk ⟨D', vis', us', hm', T', hU', hps', MO', BB', ht'⟩ F₁ N₁
    have hlen : pvs.length = psN.length := by rw [hps'.length, List.length_map]
    rw [hlen, List.take_length] at ht'
    exact ret h tk m₁ nw D' vis' us' F₁ hm' N₁ T' hU' MO' (W0.next BB' ht')
end

section
variable {prog : Program} {w : World} {A : Around} {E : Value → Shared → Prop} {s : Shared} {g : Heap} {L M U : Addr} {m : Str → Option Value} {news : List (Addr × Obj)} {D : List (PyData × PyData)} {X : List (Addr × Obj)} {pvs : List Value} {ps us : List (Int × Int)}
theorem bfs_item {value slice : PySem.Expr} {i j d : Int} {t u : Tok} {a : Addr} {Q : Value → Shared → Prop} (hu : A.units + 1 < cLine) (N : News g L s.heap news) (S : St prog w news M U X pvs ps D us) (hka : (a, tup2 i t j u) ∈ news)
    (hl : PySem.Spec.lookup (encTuple PyData.int [i, j]) D = some (.int d)) (h : ∀ t tk, Q (.int d t) { s with toks := tk })
    (hs : subscripted slice false (.ref M) (.ref a) = operate [.ref M, .ref a] (getItem (.ref M) (.ref a)) := by with_unfolding_all rfl) (hg : ∀ r, letTemporaryGo value (.ref M) r = pure () := by intro _; with_unfolding_all rfl) :
    wpAny (model prog w) A (subscriptTail value slice (.ref M) (.ref a)) Q E s := by
  refine item_tupTab keyEnc_int.eq hu N S.met hka tup_key hl (fun v hv => ?_) hs hg
  have h9 := hv {}
  cases h9
  exact h _ _
end
local macro_rules | `(tactic| walk_at "subscriptTail") => `(tactic| (k_here; (with_reducible show wpAny _ _ (subscriptTail _ _ (Value.ref _) (Value.ref _)) _ _ _); (rename St _ _ _ _ _ _ _ _ _ _ => lS); (rename News _ _ _ _ => lN); (rename (_ ∈ _) => lK); k_dflt (refine bfs_item ?k1 lN lS lK (by assumption) ?_ ?k2 ?k3); (case k1 => (dsimp only [Around.deeper, ktrTop]; omega)); (case k2 => with_unfolding_all rfl); (case k3 => (intro _; with_unfolding_all rfl)); intro t' tk'; (try dsimp only)))
def edHead : List Stmt := edBody.take 3
def edRet : Stmt := nth edBody 4
section
variable {w : World} {loose : List Str} {mean : ExcName → Option Value} {mg mb : Str → Option Value} {dp un : Nat} {gd : Option (List Code)} {cn : Str} {cs : Scope} {L₀ a : Addr} {ccd : Value} {cl : List (Str × Addr)} {outer : List Env} {base g : Heap} {L : Addr} {s : Shared} {Q : Flow → Shared → Prop} {E : Value → Shared → Prop}
set_option maxHeartbeats 8000000 in
theorem ed_test2 (C : CX w loose mean mg mb dp un gd cn cs L₀ a ccd cl outer base g) {M U : Addr} {X news : List (Addr × Obj)} {m : Str → Option Value} {x y : Str} {tx ty : Tok} {b : Bool} {pvs : List Value} {ps us : List (Int × Int)} {D : List (PyData × PyData)} {R : Bool → Shared → Prop}
    (hx : x.length ≤ 7) (hy : y.length ≤ 7)
    (F : Fr g L s.heap (fun z => if z = Str.ofString "met" then some (.ref M) else if z = Str.ofString "one" then some (.str x tx) else if z = Str.ofString "two" then some (.str y ty) else m z))
    (N : News g L s.heap news) (S : St PySem.Challenge.rw_iu0044_01.row.prog w news M U X pvs ps D us) (hb : Known ((PySem.Spec.lookup (encTuple PyData.int [(x.length : Int), (y.length : Int)]) D).isSome = b))
    (ret : ∀ h' tk' news', Fr g L h' (fun z => if z = Str.ofString "met" then some (.ref M) else if z = Str.ofString "one" then some (.str x tx) else if z = Str.ofString "two" then some (.str y ty) else m z) →
      News g L h' news' → St PySem.Challenge.rw_iu0044_01.row.prog w news' M U X pvs ps D us → R (!b) { s with heap := h', toks := tk' }) :
    wpAny (model PySem.Challenge.rw_iu0044_01.row.prog w) ((ktrTop dp un gd cn cs L₀ a ccd cl outer).deeper (edEnv L)) (isTrue (testOf edWhile) (edEnv L) (eval (testOf edWhile) (edEnv L))) R E s := by
  obtain ⟨B, XX, T', hk, hdp, hun⟩ := C
  have e : testOf edWhile = testOf edWhile := rfl
  conv at e => rhs; whnf
  have e2 : edScope = edScope := rfl
  conv at e2 => rhs; whnf
  unfold edEnv
  rw [e, e2]
  clear e e2
  k_with_none
  k_steps
  exact ret _ _ _ (by assumption) (by assumption) (by assumption)

set_option maxHeartbeats 8000000 in
theorem ed_new (C : CX w loose mean mg mb dp un gd cn cs L₀ a ccd cl outer base g) {nw : List (Addr × Obj)} {m : Str → Option Value}
    (F : Fr g L s.heap m) (N : News g L s.heap nw)
    (ret : ∀ h' tk' U n, Fr g L h' (fun z => if z = Str.ofString "further" then some (.ref U) else m z) → News g L h' ((U, W.listOf ([] : List Value).toArray n) :: nw) → (∀ p ∈ nw, p.1 < U) → Q .next { s with heap := h', toks := tk' }) :
    wpAny (model PySem.Challenge.rw_iu0044_01.row.prog w) ((ktrTop dp un gd cn cs L₀ a ccd cl outer).deeper (edEnv L)) (exec (nth (inOf edWhile) 0) (edEnv L)) Q E s := by
  obtain ⟨B, XX, T', hk, hdp, hun⟩ := C
  have e : nth (inOf edWhile) 0 = nth (inOf edWhile) 0 := rfl
  conv at e => rhs; whnf
  have e2 : edScope = edScope := rfl
  conv at e2 => rhs; whnf
  unfold edEnv
  rw [e, e2]
  clear e e2
  k_with_none
  k_steps
  exact ret _ _ _ _ (by assumption) (by assumption) (by assumption)

set_option maxHeartbeats 8000000 in
theorem ed_step2 (C : CX w loose mean mg mb dp un gd cn cs L₀ a ccd cl outer base g) {nw : List (Addr × Obj)} {m : Str → Option Value} {U : Addr} {k : Int} {te : Tok} (hk0 : 0 ≤ k) (hk1 : k < 1000)
    (F : Fr g L s.heap (fun z => if z = Str.ofString "further" then some (.ref U) else if z = Str.ofString "edits" then some (.int k te) else m z)) (N : News g L s.heap nw)
    (ret : ∀ h' tk' te', Fr g L h' (fun z => if z = Str.ofString "edits" then some (.int (k + 1) te') else if z = Str.ofString "places" then some (.ref U) else if z = Str.ofString "further" then some (.ref U) else if z = Str.ofString "edits" then some (.int k te) else m z) → News g L h' nw → Q .next { s with heap := h', toks := tk' }) :
    wpAny (model PySem.Challenge.rw_iu0044_01.row.prog w) ((ktrTop dp un gd cn cs L₀ a ccd cl outer).deeper (edEnv L)) (execs ((inOf edWhile).drop 2) (edEnv L)) Q E s := by
  obtain ⟨B, XX, T', hk, hdp, hun⟩ := C
  have e : (inOf edWhile).drop 2 = (inOf edWhile).drop 2 := rfl
  conv at e => rhs; whnf
  have e2 : edScope = edScope := rfl
  conv at e2 => rhs; whnf
  unfold edEnv
  rw [e, e2]
  clear e e2
  k_with_none
  k_steps
  exact ret _ _ _ (by assumption) (by assumption)

set_option maxHeartbeats 8000000 in
theorem ed_ret (C : CX w loose mean mg mb dp un gd cn cs L₀ a ccd cl outer base g) {M U : Addr} {X news : List (Addr × Obj)} {m : Str → Option Value} {x y : Str} {tx ty : Tok} {d : Int} {pvs : List Value} {ps us : List (Int × Int)} {D : List (PyData × PyData)}
    (hx : x.length ≤ 7) (hy : y.length ≤ 7)
    (F : Fr g L s.heap (fun z => if z = Str.ofString "met" then some (.ref M) else if z = Str.ofString "one" then some (.str x tx) else if z = Str.ofString "two" then some (.str y ty) else m z))
    (N : News g L s.heap news) (S : St PySem.Challenge.rw_iu0044_01.row.prog w news M U X pvs ps D us) (hl : PySem.Spec.lookup (encTuple PyData.int [(x.length : Int), (y.length : Int)]) D = some (.int d))
    (ret : ∀ h' tk' m' t, Fr g L h' m' → Q (.ret (.int d t)) { s with heap := h', toks := tk' }) :
    wpAny (model PySem.Challenge.rw_iu0044_01.row.prog w) ((ktrTop dp un gd cn cs L₀ a ccd cl outer).deeper (edEnv L)) (exec edRet (edEnv L)) Q E s := by
  obtain ⟨B, XX, T', hk, hdp, hun⟩ := C
  have e : edRet = edRet := rfl
  conv at e => rhs; whnf
  have e2 : edScope = edScope := rfl
  conv at e2 => rhs; whnf
  unfold edEnv
  rw [e, e2]
  clear e e2
  k_with_none
  k_steps
  exact ret _ _ _ _ (by assumption)

set_option maxHeartbeats 8000000 in
theorem ed_head (C : CX w loose mean mg mb dp un gd cn cs L₀ a ccd cl outer base g) {m : Str → Option Value}
    (F : Fr g L s.heap m)
    (ret : ∀ h' tk' M P nP te nw pvs, Fr g L h' (fun z => if z = Str.ofString "edits" then some (.int 0 te) else if z = Str.ofString "places" then some (.ref P) else if z = Str.ofString "met" then some (.ref M) else m z) → News g L h' nw →
      TupTab (PySem.intKind PySem.Challenge.rw_iu0044_01.row.prog w) PyData.int nw M [] → (P, W.listOf pvs.toArray nP) ∈ nw → PairsIn nw pvs [((0 : Int), (0 : Int))] → Q .next { s with heap := h', toks := tk' }) :
    wpAny (model PySem.Challenge.rw_iu0044_01.row.prog w) ((ktrTop dp un gd cn cs L₀ a ccd cl outer).deeper (edEnv L)) (execs edHead (edEnv L)) Q E s := by
  obtain ⟨B, XX, T', hk, hdp, hun⟩ := C
  have N : News g L s.heap [] := News.nil
  have e : edHead = edHead := rfl
  conv at e => rhs; whnf
  have e2 : edScope = edScope := rfl
  conv at e2 => rhs; whnf
  unfold edEnv
  rw [e, e2]
  clear e e2
  k_with_none
  k_steps
  dsimp only at *
  refine wpAny_execs_nil ?_
  rename_i d9 h1 o9 lo9 hs9 fs9 hi9 fi9 l9 h2 D9 h3 l8 P9 h4 l7 h5 h6 F9 N9
  refine ret _ _ d9 P9 0 _ _ [.ref D9] F9 N9 (TupTab.ofEmpty (.tail _ (.tail _ (.head _))) lo9 hi9) (.head _) (.cons ⟨_, _, .tail _ (.head _)⟩ .nil)

set_option maxHeartbeats 8000000 in
theorem ed_loop (C : CX w loose mean mg mb dp un gd cn cs L₀ a ccd cl outer base g) {M P : Addr} {nw : List (Addr × Obj)} {m : Str → Option Value} {x y : Str} {tx ty te : Tok} {sw : Bool} {pvs : List Value} {nP : Nat}
    (hx : x.length ≤ 7) (hy : y.length ≤ 7) (F : Fr g L s.heap m)
    (hm : ∀ p ∈ [(Str.ofString "met", Value.ref M), (Str.ofString "edits", .int 0 te), (Str.ofString "places", .ref P), (Str.ofString "one", .str x tx), (Str.ofString "two", .str y ty), (Str.ofString "swaps", .bool sw)], m p.1 = some p.2)
    (N : News g L s.heap nw) (T : TupTab (PySem.intKind PySem.Challenge.rw_iu0044_01.row.prog w) PyData.int nw M []) (hP : (P, W.listOf pvs.toArray nP) ∈ nw) (hps : PairsIn nw pvs [((0 : Int), (0 : Int))])
    (hE : PassesOwn (model PySem.Challenge.rw_iu0044_01.row.prog w) ((ktrTop dp un gd cn cs L₀ a ccd cl outer).deeper (edEnv L)) (edEnv L) E)
    (ret : ∀ h' tk' m' news' P' pvs' ps' D', Fr g L h' m' → (∀ p ∈ [(Str.ofString "met", Value.ref M), (Str.ofString "one", .str x tx), (Str.ofString "two", .str y ty)], m' p.1 = some p.2) → News g L h' news' →
      St PySem.Challenge.rw_iu0044_01.row.prog w news' M P' [] pvs' ps' D' ps' → PySem.Spec.lookup (encTuple PyData.int [(x.length : Int), (y.length : Int)]) D' = some (.int (Dm (eqAt x y) sw x.length y.length)) → Q .next { s with heap := h', toks := tk' }) :
    wpAny (model PySem.Challenge.rw_iu0044_01.row.prog w) ((ktrTop dp un gd cn cs L₀ a ccd cl outer).deeper (edEnv L)) (exec edWhile (edEnv L)) Q E s := by
  have e : edWhile = .While (testOf edWhile) (inOf edWhile) [] _ := rfl
  rw [e]
  refine While_inv2 (fun n m₁ nw => ∃ (k : Int) (P' : Addr) (nP' : Nat) (te' : Tok) (pvs' : List Value) (D' : List (PyData × PyData)) (vis psN : List (Nat × Nat)),
    (∀ p ∈ [(Str.ofString "met", Value.ref M), (Str.ofString "edits", .int k te'), (Str.ofString "places", .ref P'), (Str.ofString "one", .str x tx), (Str.ofString "two", .str y ty), (Str.ofString "swaps", .bool sw)], m₁ p.1 = some p.2) ∧
    TupTab (PySem.intKind PySem.Challenge.rw_iu0044_01.row.prog w) PyData.int nw M D' ∧ (P', W.listOf pvs'.toArray nP') ∈ nw ∧ PairsIn nw pvs' (psN.map cp) ∧ MetOk x y sw D' vis ∧ Lay (e := eqAt x y) (sw := sw) (m := x.length) (n := y.length) k vis psN ∧
    n = (Dm (eqAt x y) sw x.length y.length + 1 - k).toNat) F N ⟨0, P, nP, te, pvs, [], [], [(0, 0)], hm, T, hP, hps, ⟨fun i j => by simp [PySem.Spec.lookup], by simp⟩, Lay.start, rfl⟩ ?_ hE
  rintro n m₁ nw1 h₁ tk₁ F₁ N₁ ⟨k, P', nP', te', pvs', D', vis, psN, hm', T', hP', hps', MO', W0, hn⟩
  have S' : St PySem.Challenge.rw_iu0044_01.row.prog w nw1 M P' [] pvs' (psN.map cp) D' (psN.map cp) := ⟨T', ⟨pvs', nP', hP', hps'⟩, (fun _ h => by cases h), hps'⟩
  have hm3 : ∀ p ∈ [(Str.ofString "met", Value.ref M), (Str.ofString "one", .str x tx), (Str.ofString "two", .str y ty)], m₁ p.1 = some p.2 := by
    simp only [List.forall_mem_cons] at hm' ⊢
    exact ⟨hm'.1, hm'.2.2.2.1, hm'.2.2.2.2.1, by simp⟩
  refine ed_test2 C (m := m₁) (M := M) (tx := tx) (ty := ty) hx hy (fr_names _ hm3 F₁) N₁ S' (MO'.known x.length y.length) ?_
  intro h2 tk2 nw2 F2' N2 S2
  have F2 : Fr g L h2 m₁ := by
    have F3 : Fr g L h2 (kstB m₁ [(Str.ofString "met", Value.ref M), (Str.ofString "one", .str x tx), (Str.ofString "two", .str y ty)]) := F2'
    rw [kstB_self hm3] at F3
    exact F3
  by_cases hv : (x.length, y.length) ∈ vis
  · rw [if_neg (by simp [hv])]
    exact ret h2 tk2 m₁ nw2 P' pvs' _ D' F2 hm3 N2 S2 (by rw [MO'.look, if_pos hv])
  · rw [if_pos (by simp [hv])]
    have hkd : k ≤ Dm (eqAt x y) sw x.length y.length := by
      have := (W0.w1 x.length y.length)
      by_cases h : Dm (eqAt x y) sw x.length y.length < k
      · exact absurd (this.mpr ⟨Nat.le_refl _, Nat.le_refl _, h⟩) hv
      · omega
    have hk0 := W0.w0
    have hdm := Dm_bound (eqAt x y) sw x.length y.length
    obtain ⟨vs2, n2, hU2, hpu2⟩ := S2.fur
    have e3 : inOf edWhile = nth (inOf edWhile) 0 :: edFor :: (inOf edWhile).drop 2 := rfl
    rw [e3]
    refine wpAny_execs_cons ?_
    refine ed_new C F2 N2 ?_
    intro h3 tk3 U n3 F3 N3 hlt
    refine wpAny_execs_cons ?_
    have hUP : P' ≠ U := Nat.ne_of_lt (hlt _ hU2)
    simp only [List.forall_mem_cons] at hm'
    refine ed_for C (M := M) (U := U) (P := P') (te := te') (tx := tx) (ty := ty) (k := k) (sw := sw) hx hy W0 MO' F3 ?_ N3 (TupTab.mono S2.met (fun _ hh _ => .tail _ hh) fun _ _ hh _ => .tail _ hh) ⟨[], n3, .head _, .nil⟩ (.tail _ hU2) (hpu2.mono fun _ _ hh _ => .tail _ hh) hUP hE ?_
    · simp only [List.forall_mem_cons]
      exact ⟨by with_unfolding_all exact hm'.1, by with_unfolding_all rfl, by with_unfolding_all exact hm'.2.1, by with_unfolding_all exact hm'.2.2.1, by with_unfolding_all exact hm'.2.2.2.1, by with_unfolding_all exact hm'.2.2.2.2.1, by with_unfolding_all exact hm'.2.2.2.2.2.1, by simp⟩
    · intro h4 tk4 m4 nw4 D4 vis4 us4 F4 hm4 N4 T4 hU4 MO4 W4
      simp only [List.forall_mem_cons] at hm4
      refine ed_step2 C (m := m4) (U := U) (k := k) (te := te') (by omega) (by omega) (fr_names [(Str.ofString "further", .ref U), (Str.ofString "edits", .int k te')] ?_ F4) N4 ?_
      · simp only [List.forall_mem_cons]
        exact ⟨hm4.2.1, hm4.2.2.1, by simp⟩
      · intro h5 tk5 te5 F5 N5
        obtain ⟨vs5, n5, hU5, hpu5⟩ := hU4
        refine ⟨h5, tk5, _, nw4, _, rfl, F5, N5, ?_, k + 1, U, n5, te5, vs5, D4, vis4, us4, ?_, T4, hU5, hpu5, MO4, W4, rfl⟩
        · rw [hn]; omega
        · simp only [List.forall_mem_cons]
          exact ⟨by with_unfolding_all exact hm4.1, by with_unfolding_all rfl, by with_unfolding_all rfl, by with_unfolding_all exact hm4.2.2.2.2.1, by with_unfolding_all exact hm4.2.2.2.2.2.1, by with_unfolding_all exact hm4.2.2.2.2.2.2.1, by simp⟩

set_option maxHeartbeats 8000000 in
theorem ed_body (C : CX w loose mean mg mb dp un gd cn cs L₀ a ccd cl outer base g) {m : Str → Option Value} {x y : Str} {tx ty : Tok} {sw : Bool}
    (hx : x.length ≤ 7) (hy : y.length ≤ 7) (F : Fr g L s.heap m) (hm : ∀ p ∈ [(Str.ofString "one", Value.str x tx), (Str.ofString "two", .str y ty), (Str.ofString "swaps", .bool sw)], m p.1 = some p.2)
    (hE : PassesOwn (model PySem.Challenge.rw_iu0044_01.row.prog w) ((ktrTop dp un gd cn cs L₀ a ccd cl outer).deeper (edEnv L)) (edEnv L) E)
    (ret : ∀ h' tk' m' t, Fr g L h' m' → Q (.ret (.int (Dm (eqAt x y) sw x.length y.length) t)) { s with heap := h', toks := tk' }) :
    wpAny (model PySem.Challenge.rw_iu0044_01.row.prog w) ((ktrTop dp un gd cn cs L₀ a ccd cl outer).deeper (edEnv L)) (execs edBody (edEnv L)) Q E s := by
  have e : edBody = edHead ++ [edWhile, edRet] := rfl
  rw [e]
  refine execs_app ?_
  refine ed_head C F ?_
  intro h' tk' M P nP te nw pvs F' N' T' hP' hps'
  refine wpAny_execs_cons ?_
  simp only [List.forall_mem_cons] at hm
  refine ed_loop C (M := M) (P := P) (te := te) (tx := tx) (ty := ty) (sw := sw) hx hy F' ?_ N' T' hP' hps' hE ?_
  · simp only [List.forall_mem_cons]
    exact ⟨by with_unfolding_all rfl, by with_unfolding_all rfl, by with_unfolding_all rfl, by with_unfolding_all exact hm.1, by with_unfolding_all exact hm.2.1, by with_unfolding_all exact hm.2.2.1, by simp⟩
  · intro h2 tk2 m2 nw2 P2 pvs2 ps2 D2 F2 hm2 N2 S2 hl2
    refine wpAny_execs_cons ?_
    refine ed_ret C (m := m2) (M := M) (tx := tx) (ty := ty) hx hy (fr_names _ hm2 F2) N2 S2 hl2 ?_
    intro h3 tk3 m3 t3 F3
    exact ret h3 tk3 m3 t3 F3
end

section
variable {w : World} {loose : List Str} {mean : ExcName → Option Value} {mg mb : Str → Option Value} {dp un : Nat} {gd : Option (List Code)} {cn : Str} {cs : Scope} {a : Addr} {ccd : Value} {cl : List (Str × Addr)} {outer : List Env} {A₀ : Around} {base h₀ : Heap} {L : Addr} {m : Str → Option Value} {s : Shared} {Q E : Value → Shared → Prop}
set_option maxHeartbeats 8000000 in
theorem ed_call (B : Below A₀ base outer h₀) (F : Fr h₀ L s.heap m) (X : (hd.heap_39 w.params).In h₀) (T : Top hd.view_39 loose mean mg mb h₀) (hk : cs.kind = .function)
    (hdp : dp + 1 < recursionLimit) (hun : un + 8 < cLine) {x y : Str} {tx ty : Tok} {sw : Bool} (hx : x.length ≤ 7) (hy : y.length ≤ 7)
    (ret : ∀ h' tk' t, s.heap.StaysIn h' → Q (.int (Dm (eqAt x y) sw x.length y.length) t) { s with heap := h', toks := tk' }) :
    wpAny (model PySem.Challenge.rw_iu0044_01.row.prog w) (ktrTop dp un gd cn cs L a ccd cl outer) (call (.ref 37) [.str x tx, .str y ty, .bool sw]) Q E s := by
  refine wpAny_call ?_
  k_dflt (refine' enter_ext (binds := [(Str.ofString "one", .str x tx), (Str.ofString "two", .str y ty), (Str.ofString "swaps", .bool sw)]) ?k1 ?k2 ?k3 ?k5 ?kA ?kF ?kK ?k6 ?k7 ?k8 ?k9 ?kB ?_ ?c5 ?c2 ?c3 ?c4; (case kA => exact rfl); (case kF => exact rfl); (case kK => assumption); (case k1 => k_asm); (case k2 => k_asm); (case k3 => k_asm); (case k5 => k_asm); (case k6 => k_is); (case k7 => k_is); (case k8 => ktr_room); (case kB => exact locs rfl); (case k9 => exact BindsTo.of_eq rfl); (case c5 => decide); (case c2 => exact rfl); (case c3 => exact rfl); (case c4 => exact rfl))
  k_whole
  intro g L' h' tk' hg F' B' X' T'
  refine ed_body ⟨B', X', T', hk, hdp, hun⟩ (tx := tx) (ty := ty) (sw := sw) hx hy F' (by kst_all) (by passes_own) ?_
  intro h2 tk2 m2 t F2
  subst hg
  exact ret h2 tk2 t F2.keep
end

/-! ### the contracts, as the law's walk wants them -/
theorem eqAt_comm (x y : Str) (i j : Nat) : eqAt y x j i = eqAt x y i j := by
  unfold eqAt
  rw [Bool.eq_iff_iff, beq_iff_eq, beq_iff_eq]
  exact eq_comm
section
variable {w : World} {loose : List Str} {mean : ExcName → Option Value} {mg mb : Str → Option Value} {dp un : Nat} {gd : Option (List Code)} {cn : Str} {cs : Scope} {a : Addr} {ccd : Value} {cl : List (Str × Addr)} {outer : List Env} {A₀ : Around} {base h₀ : Heap} {L : Addr} {m : Str → Option Value} {s : Shared} {Q E : Value → Shared → Prop} {news : List (Addr × Obj)} {x y : Str} {tx ty tl : Tok} {l : Int}
theorem news_stay {h h' : Heap} (N : News h₀ L h news) (hs : h.StaysIn h') : News h₀ L h' news := fun p hp => ⟨hs _ _ (N p hp).1, (N p hp).2⟩
theorem ed_callN {sw : Bool} (B : Below A₀ base outer h₀) (F : Fr h₀ L s.heap m) (N : News h₀ L s.heap news) (X : (hd.heap_39 w.params).In h₀) (T : Top hd.view_39 loose mean mg mb h₀) (hk : cs.kind = .function) (hdp : dp + 1 < recursionLimit) (hun : un + 8 < cLine) (hx : x.length ≤ 7) (hy : y.length ≤ 7)
    (ret : ∀ h' tk' t v, Fr h₀ L h' m → News h₀ L h' news → v = Dm (eqAt x y) sw x.length y.length → Q (.int v t) { s with heap := h', toks := tk' }) :
    wpAny (model PySem.Challenge.rw_iu0044_01.row.prog w) (ktrTop dp un gd cn cs L a ccd cl outer) (call (.ref 37) [.str x tx, .str y ty, .bool sw]) Q E s :=
  ed_call B F X T hk hdp hun hx hy fun h' tk' t hs => ret h' tk' t _ (F.keeps hs) (news_stay N hs) rfl
theorem lev_callN (B : Below A₀ base outer h₀) (F : Fr h₀ L s.heap m) (N : News h₀ L s.heap news) (X : (hd.heap_39 w.params).In h₀) (T : Top hd.view_39 loose mean mg mb h₀) (hk : cs.kind = .function) (hdp : dp + 1 < recursionLimit) (hun : un + 8 < cLine) (hx : x.length ≤ 7) (hy : y.length ≤ 7)
    (ret : ∀ h' tk' t v, Fr h₀ L h' m → News h₀ L h' news → v = Dm (eqAt x y) false x.length y.length → v = Dm (eqAt y x) false y.length x.length → Q (.int v t) { s with heap := h', toks := tk' }) :
    wpAny (model PySem.Challenge.rw_iu0044_01.row.prog w) (ktrTop dp un gd cn cs L a ccd cl outer) (call (.ref 22) [.str x tx, .str y ty]) Q E s :=
  lev_call2 B F X T hk hdp hun hx hy fun h' tk' t hs => ret h' tk' t _ (F.keeps hs) (news_stay N hs) rfl (Dm_comm (eqAt_comm y x) _ _)
theorem lev_callL (B : Below A₀ base outer h₀) (F : Fr h₀ L s.heap m) (N : News h₀ L s.heap news) (X : (hd.heap_39 w.params).In h₀) (T : Top hd.view_39 loose mean mg mb h₀) (hk : cs.kind = .function) (hdp : dp + 1 < recursionLimit) (hun : un + 8 < cLine) (hx : x.length ≤ 7) (hy : y.length ≤ 7) (hl0 : 0 ≤ l) (hl1 : l < 1000)
    (ret : ∀ h' tk' t v, Fr h₀ L h' m → News h₀ L h' news → v ≤ Dm (eqAt x y) false x.length y.length → (Dm (eqAt x y) false x.length y.length ≤ v ∨ l + 1 ≤ v) → Q (.int v t) { s with heap := h', toks := tk' }) :
    wpAny (model PySem.Challenge.rw_iu0044_01.row.prog w) (ktrTop dp un gd cn cs L a ccd cl outer) (call (.ref 22) [.str x tx, .str y ty, .int l tl]) Q E s :=
  lev_call3 B F X T hk hdp hun hx hy hl0 hl1 fun h' tk' v t hs hv => ret h' tk' t v (F.keeps hs) (news_stay N hs) (by omega) (by omega)
theorem dam_callN (B : Below A₀ base outer h₀) (F : Fr h₀ L s.heap m) (N : News h₀ L s.heap news) (X : (hd.heap_39 w.params).In h₀) (T : Top hd.view_39 loose mean mg mb h₀) (hk : cs.kind = .function) (hdp : dp + 1 < recursionLimit) (hun : un + 8 < cLine) (hx : x.length ≤ 7) (hy : y.length ≤ 7)
    (ret : ∀ h' tk' t v, Fr h₀ L h' m → News h₀ L h' news → v = Dm (eqAt x y) true x.length y.length → v = Dm (eqAt y x) true y.length x.length → Q (.int v t) { s with heap := h', toks := tk' }) :
    wpAny (model PySem.Challenge.rw_iu0044_01.row.prog w) (ktrTop dp un gd cn cs L a ccd cl outer) (call (.ref 30) [.str x tx, .str y ty]) Q E s :=
  dam_call2 B F X T hk hdp hun hx hy fun h' tk' t hs => ret h' tk' t _ (F.keeps hs) (news_stay N hs) rfl (Dm_comm (eqAt_comm y x) _ _)
theorem dam_callL (B : Below A₀ base outer h₀) (F : Fr h₀ L s.heap m) (N : News h₀ L s.heap news) (X : (hd.heap_39 w.params).In h₀) (T : Top hd.view_39 loose mean mg mb h₀) (hk : cs.kind = .function) (hdp : dp + 1 < recursionLimit) (hun : un + 8 < cLine) (hx : x.length ≤ 7) (hy : y.length ≤ 7) (hl0 : 0 ≤ l) (hl1 : l < 1000)
    (ret : ∀ h' tk' t v, Fr h₀ L h' m → News h₀ L h' news → v ≤ Dm (eqAt x y) true x.length y.length → (Dm (eqAt x y) true x.length y.length ≤ v ∨ l + 1 ≤ v) → Q (.int v t) { s with heap := h', toks := tk' }) :
    wpAny (model PySem.Challenge.rw_iu0044_01.row.prog w) (ktrTop dp un gd cn cs L a ccd cl outer) (call (.ref 30) [.str x tx, .str y ty, .int l tl]) Q E s :=
  dam_call3 B F X T hk hdp hun hx hy hl0 hl1 fun h' tk' v t hs hv => ret h' tk' t v (F.keeps hs) (news_stay N hs) (by omega) (by omega)
end

set_option maxHeartbeats 16000000 in
theorem holds : PySem.Challenge.rw_iu0044_01.Holds := by
  k_with_none
  k_with "pyIter ref" => k_state (fun pre one two => one.length ≤ pre.length ∧ two.length ≤ pre.length) "one" "two"
  k_with "call ref" => (first
    | (k_dflt (refine' ed_callN ?k1 ?k2 ?k3 ?k4 ?k5 ?k6 ?k7 ?k8 ?k9 ?k10 ?_; (case k1 => k_asm); (case k2 => k_asm); (case k3 => k_asm); (case k4 => k_asm); (case k5 => k_asm); (case k6 => first | exact rfl | assumption); (case k7 => ktr_room); (case k8 => ktr_units); (case k9 => omega); (case k10 => omega)); intro h' tk' t' v' F' N' e'; (try dsimp only))
    | (k_dflt (refine' lev_callN ?k1 ?k2 ?k3 ?k4 ?k5 ?k6 ?k7 ?k8 ?k9 ?k10 ?_; (case k1 => k_asm); (case k2 => k_asm); (case k3 => k_asm); (case k4 => k_asm); (case k5 => k_asm); (case k6 => first | exact rfl | assumption); (case k7 => ktr_room); (case k8 => ktr_units); (case k9 => omega); (case k10 => omega)); intro h' tk' t' v' F' N' e' e''; (try dsimp only))
    | (k_dflt (refine' lev_callL ?k1 ?k2 ?k3 ?k4 ?k5 ?k6 ?k7 ?k8 ?k9 ?k10 ?k11 ?k12 ?_; (case k1 => k_asm); (case k2 => k_asm); (case k3 => k_asm); (case k4 => k_asm); (case k5 => k_asm); (case k6 => first | exact rfl | assumption); (case k7 => ktr_room); (case k8 => ktr_units); (case k9 => omega); (case k10 => omega); (case k11 => first | omega | (k_fmods; omega)); (case k12 => first | omega | (k_fmods; omega))); intro h' tk' t' v' F' N' e' e''; (try dsimp only))
    | (k_dflt (refine' dam_callN ?k1 ?k2 ?k3 ?k4 ?k5 ?k6 ?k7 ?k8 ?k9 ?k10 ?_; (case k1 => k_asm); (case k2 => k_asm); (case k3 => k_asm); (case k4 => k_asm); (case k5 => k_asm); (case k6 => first | exact rfl | assumption); (case k7 => ktr_room); (case k8 => ktr_units); (case k9 => omega); (case k10 => omega)); intro h' tk' t' v' F' N' e' e''; (try dsimp only))
    | (k_dflt (refine' dam_callL ?k1 ?k2 ?k3 ?k4 ?k5 ?k6 ?k7 ?k8 ?k9 ?k10 ?k11 ?k12 ?_; (case k1 => k_asm); (case k2 => k_asm); (case k3 => k_asm); (case k4 => k_asm); (case k5 => k_asm); (case k6 => first | exact rfl | assumption); (case k7 => ktr_room); (case k8 => ktr_units); (case k9 => omega); (case k10 => omega); (case k11 => first | omega | (k_fmods; omega)); (case k12 => first | omega | (k_fmods; omega))); intro h' tk' t' v' F' N' e' e''; (try dsimp only)))
  exact hd (by k_go)


end Mine
theorem PySem.Challenge.cw_iu0044_01_holds : PySem.Challenge.rw_iu0044_01.Holds :=
  Mine.holds
