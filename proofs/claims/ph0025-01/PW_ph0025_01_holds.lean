import PyProof.Rows.All
import Wide.All
import OpenK.AllK
import Wide.FinOn
import PySem.Challenge.RW_ph0025_01
set_option Elab.async false
set_option maxRecDepth 100000
set_option maxHeartbeats 8000000
set_option linter.all false
set_option compiler.extract_closed false
section
open PySem PySem.W PyProof.Rows
namespace Mine
set_option synthInstance.maxSize 1 in
open_top hd for PySem.Challenge.rw_ph0025_01
end Mine
end
section
open PySem PySem.W PyProof.Rows
local macro_rules | `(tactic| walk_at "mine pad") => `(tactic| fail)
theorem Mine.rst_B0 : True ∧ True := by
  w_top off
  first | (walk1; all_goals exact True.intro) | exact ⟨True.intro, True.intro⟩
end
section
open PySem PySem.W PyProof.Rows
namespace Mine
abbrev PR : Program := PySem.Challenge.rw_ph0025_01.row.prog
noncomputable abbrev KK (w : World) : Frag := hd.heap_39 w.params

theorem up {M : Model} {A : Around} {α : Type} {t : Sem α} {Q : α → Shared → Prop} {E : Value → Shared → Prop} {s : Shared} {env : Env} {outer : List Env} {d u : Nat}
    (h : wpAny M { handled := none, depth := d, frames := some (env :: outer), guards := none, units := u } t Q E s)
    (hh : A.handled = none) (hd : A.depth ≤ d) (hu : A.units ≤ u) (hf : A.frames = some (env :: outer)) : wpAny M A t Q E s :=
  fun Γ p hΓ => h Γ p ⟨hΓ.1.trans hh, Nat.le_trans hΓ.2.1 hd, fun l hl => by cases hl; exact hΓ.2.2.1 _ hf, fun g hg => (by cases hg), Nat.le_trans hΓ.2.2.2.2 hu⟩

/-- what a call at depth d finds -/
def Spec (w : World) (d u : Nat) (f : Addr) (vs : List Value) (R : Tok → Value) : Prop :=
  ∀ (p : Program) (loose : List Str) (mean : ExcName → Option Value) (mg mb : Str → Option Value) (news : List (Addr × Obj)) (cn : Str) (cs : Scope) (a : Addr) (ccd : Value) (cl : List (Str × Addr)) (outer : List Env) (A₀ : Around) (base h₀ : Heap) (L : Addr) (m : Str → Option Value) (s : Shared) (Q E : Value → Shared → Prop),
    Below A₀ base outer h₀ → Fr h₀ L s.heap m → Frag.In (hd.heap_39 w.params) h₀ → News h₀ L s.heap news → Top p loose mean mg mb h₀ → cs.kind = .function →
    (∀ (t : Tok) (h' : Heap) (tk' : Nat), Fr h₀ L h' m → News h₀ L h' news → Q (R t) { s with heap := h', toks := tk' }) →
      wpAny (model PR w) (ktrTop d u none cn cs L a ccd cl outer) (call (.ref f) vs) Q E s
theorem Spec.out {w : World} {d u : Nat} {f : Addr} {vs : List Value} {R : Tok → Value} (H : Spec w d u f vs R) {p : Program} {loose : List Str} {mean : ExcName → Option Value} {mg mb : Str → Option Value} {news : List (Addr × Obj)} {cn : Str} {cs : Scope} {a : Addr} {ccd : Value} {cl : List (Str × Addr)} {outer : List Env} {A₀ A : Around} {base h₀ : Heap} {L : Addr} {m : Str → Option Value} {s : Shared} {Q E : Value → Shared → Prop}
    (B : Below A₀ base outer h₀) (F : Fr h₀ L s.heap m) (X : Frag.In (hd.heap_39 w.params) h₀) (N : News h₀ L s.heap news) (T : Top p loose mean mg mb h₀) (hk : cs.kind = .function)
    (hh : A.handled = none) (hd : A.depth ≤ d) (hu : A.units ≤ u) (hf : A.frames = some (envX cn cs L a ccd cl :: outer))
    (ret : ∀ (t : Tok) (h' : Heap) (tk' : Nat), Fr h₀ L h' m → News h₀ L h' news → Q (R t) { s with heap := h', toks := tk' }) :
    wpAny (model PR w) A (call (.ref f) vs) Q E s := up (H p loose mean mg mb news cn cs a ccd cl outer A₀ base h₀ L m s Q E B F X N T hk ret) hh hd hu hf


def collS (x y : Str) : Int := b2i (decide (y.cps.toList < x.cps.toList)) - b2i (decide (x.cps.toList < y.cps.toList))
abbrev alph : Str := Str.ofString "\t \"#M\\z"
theorem fill9 (w : PySem.World) : Mine.hd.heap_39 w.params = Mine.hd.heap_39 w.params ∧ PySem.Challenge.rw_ph0025_01 = PySem.Challenge.rw_ph0025_01 := by k_fill; exact ⟨rfl, rfl⟩
theorem strcoll_spec (w : World) (x y : Str) (tx ty : Tok) : Spec w 800 4000 21 [Value.str x tx, Value.str y ty] (fun t => Value.int (collS x y) t) := by
  intro p loose mean mg mb news cn cs a ccd cl outer A₀ base h₀ L m s Q E B F X N T hk hret
  refine wpAny_call ?_
  k_dflt cell_enter
  k_steps
  exact hret _ _ _ (by k_asm) (by k_asm)
theorem alph_spec (w : World) : Spec w 800 4000 70 [] (fun t => Value.str alph t) := by
  intro p loose mean mg mb news cn cs a ccd cl outer A₀ base h₀ L m s Q E B F X N T hk hret
  refine wpAny_call ?_
  k_dflt cell_enter
  k_steps
  exact hret _ _ _ (by k_asm) (by k_asm)
end Mine
end
section
open PySem PySem.W PyProof.Rows
namespace Mine

def Hold (P : Prop) : Prop := P
/-- the post as a variable: the proof's text stays small -/
theorem opq {M : Model} {A : Around} {α : Type} {t : Sem α} {Q : α → Shared → Prop} {E : Value → Shared → Prop} {s : Shared} (h : ∀ Q9 : α → Shared → Prop, (∀ v s, Q v s → Q9 v s) → wpAny M A t Q9 E s) : wpAny M A t Q E s := h Q fun _ _ h => h
theorem opq2 {M : Model} {A : Around} {α : Type} {t : Sem α} {Q : α → Shared → Prop} {E : Value → Shared → Prop} {s : Shared} (h : ∀ (Q9 : α → Shared → Prop) (E9 : Value → Shared → Prop), (∀ v s, Q v s → Q9 v s) → (∀ v s, E v s → E9 v s) → wpAny M A t Q9 E9 s) : wpAny M A t Q E s := h Q E (fun _ _ h => h) fun _ _ h => h
theorem hold {P : Prop} (h : Hold P) : P := h
theorem Hold.out {P : Prop} (h : P) : Hold P := h

section
variable {prog : Program} {w : World} {A : Around} {h₀ : Heap} {L : Addr} {m : Str → Option Value} {env : Env} {elt : Expr} {x : Str} {scope : Scope} {cl : List (Str × Addr)} {s : Shared} {S : List (Addr × Obj) → Prop} {P : Nat → Value → Prop} {Fin : List Value → List (Addr × Obj) → Prop}

/-- a comprehension by an invariant -/
theorem comp_ind (n : Nat) (J : Nat → List Value → List (Addr × Obj) → Prop)
    (step : ∀ i ys news, i < n → J i ys news → ∀ v I oI C oC D m₂ h tk (E' : Value → Shared → Prop), P i v → LCg.NsObj oC m₂ → m₂ x = some v → Fr h₀ L h m → News h₀ L h ((I, oI) :: (C, oC) :: (D, LCg.lst ys) :: news) → LCg.Off3 I C D news → ((@Ne Nat I C) ∧ (@Ne Nat I D) ∧ (@Ne Nat C D)) →
      wpAny (model prog w) A (eval elt (compEnvC scope cl C env)) (LCg.CompEnd h₀ L m { s with heap := h, toks := tk } I oI C oC D (LCg.lst ys) S (fun y news' => J (i + 1) (ys ++ [y]) news')) E' { s with heap := h, toks := tk })
    (fin : ∀ ys news, J n ys news → Fin ys news) :
    ∀ k i ys news, i + k = n → J i ys news → LCg.CompRest prog w A h₀ L m env elt x scope cl s S P Fin k i ys news := by
  intro k
  induction k with
  | zero => intro i ys news e hJ; exact LCg.CompRest.zero (fin ys news (by rw [← e]; exact hJ))
  | succ k ih =>
    intro i ys news e hJ
    refine LCg.CompRest.succ ?_
    intro v I oI C oC D m₂ h tk E' hP hC hx F N off ne
    refine wpAny_mono (step i ys news (by omega) hJ v I oI C oC D m₂ h tk E' hP hC hx F N off ne) (fun y s₂ q => ?_) fun _ _ e => e
    obtain ⟨h', tk', news', e1, F', N', off', hS, hJ'⟩ := q
    exact ⟨h', tk', news', e1, F', N', off', hS, ih (i + 1) (ys ++ [y]) news' (by omega) hJ'⟩
end

def TurnEnd (h₀ : Heap) (L : Addr) (I : Addr) (oI : Obj) (J : (Str → Option Value) → List (Addr × Obj) → Prop) (s₁ : Shared) (Q : Flow → Shared → Prop) (f : Flow) (s₂ : Shared) : Prop :=
  match f with
  | .ret v => Q (.ret v) s₂
  | .brk => Q .next s₂
  | _ => ∃ h' tk m' news', s₂ = { s₁ with heap := h', toks := tk } ∧ Fr h₀ L h' m' ∧ News h₀ L h' ((I, oI) :: news') ∧ (∀ p ∈ news', p.1 ≠ I) ∧ J m' news'
theorem TurnEnd.next {h₀ : Heap} {L I : Addr} {oI : Obj} {J : (Str → Option Value) → List (Addr × Obj) → Prop} {s₁ : Shared} {Q : Flow → Shared → Prop} {h' : Heap} {tk : Nat} {m' : Str → Option Value} {all : List (Addr × Obj)}
    (F : Fr h₀ L h' m') (N : News h₀ L h' all) (news' : List (Addr × Obj)) (sub : ∀ p ∈ (I, oI) :: news', p ∈ all) (off : ∀ p ∈ news', p.1 ≠ I) (hJ : J m' news') :
    TurnEnd h₀ L I oI J s₁ Q .next { s₁ with heap := h', toks := tk } := ⟨h', tk, m', news', rfl, F, fun p hp => N p (sub p hp), off, hJ⟩
theorem TurnEnd.cont {h₀ : Heap} {L I : Addr} {oI : Obj} {J : (Str → Option Value) → List (Addr × Obj) → Prop} {s₁ : Shared} {Q : Flow → Shared → Prop} {h' : Heap} {tk : Nat} {m' : Str → Option Value} {all : List (Addr × Obj)}
    (F : Fr h₀ L h' m') (N : News h₀ L h' all) (news' : List (Addr × Obj)) (sub : ∀ p ∈ (I, oI) :: news', p ∈ all) (off : ∀ p ∈ news', p.1 ≠ I) (hJ : J m' news') :
    TurnEnd h₀ L I oI J s₁ Q .cont { s₁ with heap := h', toks := tk } := ⟨h', tk, m', news', rfl, F, fun p hp => N p (sub p hp), off, hJ⟩
theorem TurnEnd.ret {h₀ : Heap} {L I : Addr} {oI : Obj} {J : (Str → Option Value) → List (Addr × Obj) → Prop} {s₁ s₂ : Shared} {Q : Flow → Shared → Prop} {v : Value} (h : Q (.ret v) s₂) : TurnEnd h₀ L I oI J s₁ Q (.ret v) s₂ := h

section
variable {prog : Program} {w : World} {A : Around} {E : Value → Shared → Prop} {s : Shared} {env : Env} {h₀ : Heap} {v : Str} {body : List Stmt} {Q : Flow → Shared → Prop} {m₀ : Str → Option Value} {news : List (Addr × Obj)}

/-- a loop whose iterator is the one object I -/
theorem for_walks {n : Nat} {P : Nat → Value → Prop} {St : Nat → Heap → Prop} {oN : Obj} (W : Walks prog w A s.heap.objs.size [s.heap.objs.size] [s.heap.objs.size] n P St) (hst : St 0 (s.heap.push oN)) (hI : ∀ i h, St i h → ∃ o, h.get? s.heap.objs.size = some o)
    (J : Nat → (Str → Option Value) → List (Addr × Obj) → Prop) (F : Fr h₀ env.locals s.heap m₀) (N : News h₀ env.locals s.heap news) (hj : J 0 m₀ news)
    (turn : ∀ I, (∀ p ∈ news, p.1 < I) → env.locals < I → ∀ i a m₁ news₁ h tk oI, i < n → P i a → J i m₁ news₁ → (∀ p ∈ news₁, p.1 ≠ I) → Fr h₀ env.locals h (fun y => if y = v then some a else m₁ y) → News h₀ env.locals h ((I, oI) :: news₁) →
      wpAny (model prog w) A (execs body env) (TurnEnd h₀ env.locals I oI (J (i + 1)) { s with heap := h, toks := tk } Q) E { s with heap := h, toks := tk })
    (done : ∀ m₁ news₁ h tk, J n m₁ news₁ → Fr h₀ env.locals h m₁ → News h₀ env.locals h news₁ → Q .next { s with heap := h, toks := tk }) :
    LoopAtV prog w A h₀ env v body Q E (.ref s.heap.objs.size) { s with heap := s.heap.push oN } := by
  refine ⟨_, _, _, n, P, St, m₀, news, J, rfl, W, ?_, ?_, ?_, hst, F.push _, (fun p hp => ⟨Heap.get?_push_of_some _ (N p hp).1, (N p hp).2⟩), hj, ?_, ?_⟩
  · intro hm
    rw [List.mem_singleton.mp hm] at F
    exact absurd F.ns.lt (Nat.lt_irrefl _)
  · intro b hb
    rw [List.mem_singleton.mp hb]
    exact next_is_new F
  · intro p hp hI
    exact absurd (Heap.lt_size (N p hp).1) ((List.mem_singleton.mp hI) ▸ Nat.lt_irrefl _)
  · rintro i a m₁ news₁ s₁ own ⟨hh', tk', rfl⟩ hin hP hJ hoff hown hown2 hall hst₁ F₁ N₁
    obtain ⟨oI, hoI⟩ := hI _ _ hst₁
    have hmem : (s.heap.objs.size, oI) ∈ own := hall _ (List.mem_singleton.mpr rfl) (next_is_new F) oI hoI
    have N₂ : News h₀ env.locals hh' ((s.heap.objs.size, oI) :: news₁) := fun p hp => by
      rcases List.mem_cons.mp hp with rfl | hp
      · exact N₁ _ (List.mem_append_left _ hmem)
      · exact N₁ _ (List.mem_append_right _ hp)
    refine wpAny_mono (turn s.heap.objs.size (fun p hp => Heap.lt_size (N p hp).1) F.ns.lt i a m₁ news₁ hh' tk' oI hin hP hJ (fun p hp q => hoff p hp (List.mem_singleton.mpr q)) F₁ N₂) (fun f s₂ p => ?_) fun _ _ e => e
    have ownEq : ∀ q ∈ own, q = (s.heap.objs.size, oI) := fun q hq => by
      have e1 := List.mem_singleton.mp (hown q hq)
      have e2 := hown2 q hq
      obtain ⟨q1, q2⟩ := q
      simp only at e1 e2
      subst e1
      have := hoI
      simp only at this
      rw [this] at e2
      cases e2; rfl
    have fin : (∃ h' tk m' news', s₂ = { ({ s with heap := hh', toks := tk' } : Shared) with heap := h', toks := tk } ∧ Fr h₀ env.locals h' m' ∧ News h₀ env.locals h' ((s.heap.objs.size, oI) :: news') ∧ (∀ p ∈ news', p.1 ≠ s.heap.objs.size) ∧ J (i + 1) m' news') →
        LoopStepU h₀ env.locals [s.heap.objs.size] own (J (i + 1)) { s with heap := hh', toks := tk' } .next s₂ := by
      rintro ⟨h', tk, m', news', e, F', N', off', hm⟩
      refine ⟨rfl, h', tk, m', news', e, F', fun p hp => ?_, fun p hp q => off' p hp (List.mem_singleton.mp q), hm⟩
      rcases List.mem_append.mp hp with hp | hp
      · rw [ownEq p hp]; exact N' _ (.head _)
      · exact N' _ (.tail _ hp)
    cases f with
    | ret v => exact .ret p
    | brk => exact .brk p
    | next => exact .next (fin p)
    | cont => exact .cont (fin p)
  · rintro h' tk m' news' F' N' _ hJ
    exact done m' news' h' tk hJ F' N'

theorem for_str {x : Str} {t : Tok} (J : Nat → (Str → Option Value) → List (Addr × Obj) → Prop)
    (hh : A.handled = none) (F : Fr h₀ env.locals s.heap m₀) (N : News h₀ env.locals s.heap news) (hj : J 0 m₀ news)
    (turn : ∀ I, (∀ p ∈ news, p.1 < I) → env.locals < I → ∀ i c u m₁ news₁ h tk oI, x.cps[i]? = some c → J i m₁ news₁ → (∀ p ∈ news₁, p.1 ≠ I) → Fr h₀ env.locals h (fun y => if y = v then some (.str ⟨#[c]⟩ u) else m₁ y) → News h₀ env.locals h ((I, oI) :: news₁) →
      wpAny (model prog w) A (execs body env) (TurnEnd h₀ env.locals I oI (J (i + 1)) { s with heap := h, toks := tk } Q) E { s with heap := h, toks := tk })
    (done : ∀ m₁ news₁ h tk, J x.cps.size m₁ news₁ → Fr h₀ env.locals h m₁ → News h₀ env.locals h news₁ → Q .next { s with heap := h, toks := tk }) :
    wpAny (model prog w) A (pyIter (.str x t)) (fun it s₂ => LoopAtV prog w A h₀ env v body Q E it s₂) E s := by
  cases ha : x.cps.all (· < 128)
  · refine wpAny_pyIter_wide ha (for_walks (Walks.strWide hh _ x t) ⟨_, Heap.get?_push_size _ rfl, rfl, rfl⟩ (fun i h st => ⟨_, st.choose_spec.1⟩) J F N hj (fun I h1 h2 i a m₁ news₁ h tk oI hi hP hJ off F' N' => ?_) done)
    obtain ⟨c, u, hc, rfl⟩ := hP
    exact turn I h1 h2 i c u m₁ news₁ h tk oI hc hJ off F' N'
  · refine wpAny_pyIter_ascii ha (for_walks (Walks.strAscii hh _ x t) ⟨_, Heap.get?_push_size _ rfl, rfl, rfl⟩ (fun i h st => ⟨_, st.choose_spec.1⟩) J F N hj (fun I h1 h2 i a m₁ news₁ h tk oI hi hP hJ off F' N' => ?_) done)
    obtain ⟨c, u, hc, rfl⟩ := hP
    exact turn I h1 h2 i c u m₁ news₁ h tk oI hc hJ off F' N'

theorem for_range {r : Addr} {a b c : Int} {t₁ t₂ t₃ : Tok} (n : Nat) (J : Nat → (Str → Option Value) → List (Addr × Obj) → Prop)
    (hh : A.handled = none) (hr : IsRange s.heap r a b c t₁ t₂ t₃) (hsm : Builtin.Range.small a b c = true) (hn : Builtin.Range.rangeSize a b c = (n : Int)) (F : Fr h₀ env.locals s.heap m₀) (N : News h₀ env.locals s.heap news) (hj : J 0 m₀ news)
    (turn : ∀ I, (∀ p ∈ news, p.1 < I) → env.locals < I → ∀ (i : Nat) u m₁ news₁ h tk oI, i < n → J i m₁ news₁ → (∀ p ∈ news₁, p.1 ≠ I) → Fr h₀ env.locals h (fun y => if y = v then some (.int (a + (i : Int) * c) u) else m₁ y) → News h₀ env.locals h ((I, oI) :: news₁) →
      wpAny (model prog w) A (execs body env) (TurnEnd h₀ env.locals I oI (J (i + 1)) { s with heap := h, toks := tk } Q) E { s with heap := h, toks := tk })
    (done : ∀ m₁ news₁ h tk, J n m₁ news₁ → Fr h₀ env.locals h m₁ → News h₀ env.locals h news₁ → Q .next { s with heap := h, toks := tk }) :
    wpAny (model prog w) A (pyIter (.ref r)) (fun it s₂ => LoopAtV prog w A h₀ env v body Q E it s₂) E s := by
  refine wpAny_pyIter_range hr hsm (for_walks (Walks.range hh _ a c n) (by show IsRangeIter _ _ _ _ _; rw [hn]; simpa using Heap.get?_push_size _ rfl) (fun i h st => ⟨_, st⟩) J F N hj (fun I h1 h2 i x m₁ news₁ h tk oI hi hP hJ off F' N' => ?_) done)
  obtain ⟨u, rfl⟩ := hP
  exact turn I h1 h2 i u m₁ news₁ h tk oI hi hJ off F' N'

theorem for_base {l : Addr} {its : List Value} (J : Nat → (Str → Option Value) → List (Addr × Obj) → Prop)
    (hh : A.handled = none) (hl : h₀.IsList l its.toArray) (F : Fr h₀ env.locals s.heap m₀) (N : News h₀ env.locals s.heap news) (hj : J 0 m₀ news)
    (turn : ∀ I, (∀ p ∈ news, p.1 < I) → env.locals < I → ∀ i a m₁ news₁ h tk oI, its[i]? = some a → J i m₁ news₁ → (∀ p ∈ news₁, p.1 ≠ I) → Fr h₀ env.locals h (fun y => if y = v then some a else m₁ y) → News h₀ env.locals h ((I, oI) :: news₁) →
      wpAny (model prog w) A (execs body env) (TurnEnd h₀ env.locals I oI (J (i + 1)) { s with heap := h, toks := tk } Q) E { s with heap := h, toks := tk })
    (done : ∀ m₁ news₁ h tk, J its.length m₁ news₁ → Fr h₀ env.locals h m₁ → News h₀ env.locals h news₁ → Q .next { s with heap := h, toks := tk }) :
    wpAny (model prog w) A (pyIter (.ref l)) (fun it s₂ => LoopAtV prog w A h₀ env v body Q E it s₂) E s := by
  have hls : s.heap.IsList l its.toArray := hl.at fun o e => F.keep l o e
  obtain ⟨ol, hol, _⟩ := id hl
  have hlt : l < h₀.objs.size := Heap.lt_size hol
  have hne : l ≠ s.heap.objs.size := Nat.ne_of_lt (Nat.lt_trans (Nat.lt_of_lt_of_le hlt F.above) F.ns.lt)
  refine wpAny_pyIter_list hls ?_
  have W := Walks.list (prog := prog) (w := w) hh s.heap.objs.size l hne its.toArray
  have hlen : its.toArray.size = its.length := by simp
  rw [hlen] at W
  refine ⟨_, _, _, its.length, _, _, m₀, news, J, rfl, W, ?_, ?_, ?_, ⟨⟨_, Heap.get?_push_size _ rfl, rfl, rfl⟩, hls.at fun o e => Heap.get?_push_of_some _ e⟩, F.push _, (fun p hp => ⟨Heap.get?_push_of_some _ (N p hp).1, (N p hp).2⟩), hj, ?_, ?_⟩
  · intro hm
    rcases List.mem_cons.mp hm with e | hm
    · exact absurd F.ns.lt (e ▸ Nat.lt_irrefl _)
    · exact absurd (Nat.lt_of_lt_of_le hlt F.above) ((List.mem_singleton.mp hm) ▸ Nat.lt_irrefl _)
  · intro b hb
    rw [List.mem_singleton.mp hb]
    exact next_is_new F
  · intro p hp hI
    exact absurd (Heap.lt_size (N p hp).1) ((List.mem_singleton.mp hI) ▸ Nat.lt_irrefl _)
  · rintro i a m₁ news₁ s₁ own ⟨hh', tk', rfl⟩ hin hP hJ hoff hown hown2 hall hst₁ F₁ N₁
    obtain ⟨oI, hoI⟩ : ∃ o, hh'.get? s.heap.objs.size = some o := ⟨_, hst₁.1.choose_spec.1⟩
    have hmem : (s.heap.objs.size, oI) ∈ own := hall _ (.head _) (next_is_new F) oI hoI
    have N₂ : News h₀ env.locals hh' ((s.heap.objs.size, oI) :: news₁) := fun p hp => by
      rcases List.mem_cons.mp hp with rfl | hp
      · exact N₁ _ (List.mem_append_left _ hmem)
      · exact N₁ _ (List.mem_append_right _ hp)
    refine wpAny_mono (turn s.heap.objs.size (fun p hp => Heap.lt_size (N p hp).1) F.ns.lt i a m₁ news₁ hh' tk' oI (by simpa using hP) hJ (fun p hp q => hoff p hp (List.mem_singleton.mpr q)) F₁ N₂) (fun f s₂ p => ?_) fun _ _ e => e
    have ownEq : ∀ q ∈ own, q = (s.heap.objs.size, oI) := fun q hq => by
      have e2 := hown2 q hq
      have e3 := (N₁ q (List.mem_append_left _ hq)).2.2
      obtain ⟨q1, q2⟩ := q
      rcases List.mem_cons.mp (hown _ hq) with e1 | e1
      · simp only at e1 e2
        subst e1
        have := hoI
        try simp only at this
        rw [this] at e2
        cases e2; rfl
      · have e1 := List.mem_singleton.mp e1
        simp only at e1 e3
        subst e1
        rw [hol] at e3; cases e3
    have fin : (∃ h' tk m' news', s₂ = { ({ s with heap := hh', toks := tk' } : Shared) with heap := h', toks := tk } ∧ Fr h₀ env.locals h' m' ∧ News h₀ env.locals h' ((s.heap.objs.size, oI) :: news') ∧ (∀ p ∈ news', p.1 ≠ s.heap.objs.size) ∧ J (i + 1) m' news') →
        LoopStepU h₀ env.locals [s.heap.objs.size] own (J (i + 1)) { s with heap := hh', toks := tk' } .next s₂ := by
      rintro ⟨h', tk, m', news', e, F', N', off', hm⟩
      refine ⟨rfl, h', tk, m', news', e, F', fun p hp => ?_, fun p hp q => off' p hp (List.mem_singleton.mp q), hm⟩
      rcases List.mem_append.mp hp with hp | hp
      · rw [ownEq p hp]; exact N' _ (.head _)
      · exact N' _ (.tail _ hp)
    cases f with
    | ret v => exact .ret p
    | brk => exact .brk p
    | next => exact .next (fin p)
    | cont => exact .cont (fin p)
  · rintro h' tk m' news' F' N' _ hJ
    exact done m' news' h' tk hJ F' N'
end

theorem drop {h₀ h : Heap} {L : Addr} {news news' : List (Addr × Obj)} (N : News h₀ L h news') (hs : ∀ p ∈ news, p ∈ news') : News h₀ L h news := fun p hp => N p (hs p hp)
theorem forget1 {a : Str} {m m₀ : Str → Option Value} (h : ∀ z, z ≠ a → m z = m₀ z) : m = fun z => if z = a then m z else m₀ z := by
  funext z; by_cases h1 : z = a
  · simp [h1]
  · simp [h1, h z h1]
theorem forget2 {a b : Str} {m m₀ : Str → Option Value} (h : ∀ z, z ≠ a → z ≠ b → m z = m₀ z) : m = fun z => if z = a then m z else if z = b then m z else m₀ z := by
  funext z; by_cases h1 : z = a
  · simp [h1]
  · by_cases h2 : z = b
    · simp [h2]
    · simp [h1, h2, h z h1 h2]
end Mine
end
section
open PySem PySem.W PySem.Calls PyProof.Rows
namespace Mine

def Apart (a b : List (Addr × Obj)) : Prop := ∀ p ∈ a, ∀ q ∈ b, p.1 ≠ q.1

def LeaveS (h₀ : Heap) (L : Addr) (m : Str → Option Value) (g : Heap) (rest : List (Addr × Obj)) (R : Result → Shared → Prop) (v : Value) (s' : Shared) : Prop :=
  ∃ L' m' news', Fr g L' s'.heap m' ∧ News g L' s'.heap news' ∧ (Fr h₀ L s'.heap m → News h₀ L s'.heap (news' ++ rest) → Apart news' rest → R (.ok (.ret v)) s')
theorem leaveS_ {h₀ g : Heap} {L L' : Addr} {m m' : Str → Option Value} {rest news' : List (Addr × Obj)} {R : Result → Shared → Prop} {v : Value} {s' : Shared} (F' : Fr g L' s'.heap m') (N' : News g L' s'.heap news')
    (k : Fr h₀ L s'.heap m → News h₀ L s'.heap (news' ++ rest) → Apart news' rest → R (.ok (.ret v)) s') : LeaveS h₀ L m g rest R v s' := ⟨L', m', news', F', N', k⟩
theorem news_app {h₀ h : Heap} {L : Addr} {a b : List (Addr × Obj)} (x : News h₀ L h a) (y : News h₀ L h b) : News h₀ L h (a ++ b) := fun p hp => (List.mem_append.mp hp).elim (x p) (y p)

section
variable {prog : Program} {w : World} {A₀ A : Around} {s : Shared} {base h₀ : Heap} {outer : List Env} {L : Addr} {m : Str → Option Value} {env : Env} {need rest : List (Addr × Obj)}
  {R : Result → Shared → Prop}

theorem groundS (B : Below A₀ base outer h₀) (F : Fr h₀ L s.heap m) (N : News h₀ L s.heap (need ++ rest)) (sep : Apart need rest) (hA : A.frames = some (env :: outer)) (hf : env.frame = some L) (hke : env.scope.kind = .function) :
    Below A base (env :: outer) (hideAll s.heap (need.map (·.1))) ∧ h₀.StaysIn (hideAll s.heap (need.map (·.1))) ∧
      (∀ b o, s.heap.get? b = some o → b ∉ need.map (·.1) → (hideAll s.heap (need.map (·.1))).get? b = some o) ∧
      ∀ v s', LeaveS h₀ L m (hideAll s.heap (need.map (·.1))) rest R v s' → R (.ok (.ret v)) s' := by
  have Nn : News h₀ L s.heap need := fun p hp => N p (List.mem_append_left _ hp)
  have Nr : News h₀ L s.heap rest := fun p hp => N p (List.mem_append_right _ hp)
  obtain ⟨FG, BG, st, _⟩ := groundX (R := R) B F Nn hA hf hke
  refine ⟨BG, st, fun b o e n => hideAll_get _ e n, fun v s' hl => ?_⟩
  obtain ⟨L', m', news', F', N', k⟩ := hl
  have key : ∀ p ∈ rest, (hideAll s.heap (need.map (·.1))).get? p.1 = some p.2 := fun p hp => hideAll_get _ (Nr p hp).1 fun q => by
    obtain ⟨r, hr, e⟩ := List.mem_map.mp q
    exact sep r hr p hp e
  obtain ⟨oL, es, ep, hL, hLd, hLk, hLf⟩ := FG.ns
  refine k ⟨⟨oL, es, ep, F'.keep L oL hL, hLd, hLk, hLf⟩, fun b o e => F'.keep b o (st b o e), F.above⟩ (news_app (fun p hp => ⟨(N' p hp).1, fun q => ?_, ?_⟩) fun p hp => ⟨F'.keep _ _ (key p hp), (Nr p hp).2⟩) fun p hp q hq e => ?_
  · have := (N' p hp).2.2; rw [q, hL] at this; cases this
  · cases q : h₀.get? p.1 with
    | none => rfl
    | some o => have := (N' p hp).2.2; rw [st _ _ q] at this; cases this
  · have e2 := (N' p hp).2.2
    rw [e, key q hq] at e2; cases e2

variable {name qual : Str} {params : Arguments} {body : List Stmt} {scope : Scope} {cl : List (Str × Addr)} {dV kV doc pm cdv ct : Value} {an : Option Addr} {fo : Obj} {f : Addr} {args : Args} {binds : List (Str × Value)}

theorem callS_plain (B : Below A₀ base outer h₀) (F : Fr h₀ L s.heap m) (N : News h₀ L s.heap (need ++ rest)) (sep : Apart need rest) (hlim : h₀.NoLimit) (hA : A.frames = some (env :: outer)) (hf : env.frame = some L) (hke : env.scope.kind = .function)
    (ho : s.heap.get? f = some fo) (hd : fo.data = .func (fnX name qual params body scope cl dV kV doc pm an cdv ct)) (hcd : s.heap.CodeRec cdv qual) (hroom : A.depth < recursionLimit)
    (hbind : BindsTo s (fnX name qual params body scope cl dV kV doc pm an cdv ct) args binds) (hloc : ∀ y ∈ binds, scope.names.lookup y.1 = some .local)
    (h : ∀ g L' h₁, Fr g L' h₁ (fun y => binds.reverse.lookup y) → News g L' h₁ need → Below A base (env :: outer) g → h₀.StaysIn g → (∀ b o, s.heap.get? b = some o → b ∉ need.map (·.1) → g.get? b = some o) → (∀ p ∈ need, p.1 < L') →
      wpAny (model prog w) (A.deeper (envX qual scope L' f cdv cl)) (execs body (envX qual scope L' f cdv cl))
        (fun fl s' => LeaveS h₀ L m g rest R (match fl with | .ret v => v | _ => .none) s')
        (fun e s' => wpAny (model prog w) (A.deeper (envX qual scope L' f cdv cl)) (leaving (envX qual scope L' f cdv cl) e) (fun _ s'' => R (.error e) s'') (fun e' s'' => R (.error e') s'') s')
        { s with heap := h₁, toks := s.toks + binds.length })
    (hcell : ∀ x ∈ scope.names, x.2 ≠ .cell) (hco : scope.isCoroutine = false := by rfl) (hgen : scope.isGenerator = false := by rfl) (hk : scope.kind = .function := by rfl) : codeAny (model prog w) A (.call (.ref f) args) R s := by
  obtain ⟨BG, st, kp, lv⟩ := groundS (R := R) B F N sep hA hf hke
  refine codeAny_call_def (fd := fnX name qual params body scope cl dV kV doc pm an cdv ct) (body := body) (binds := binds) hroom ho hd (hlim.keeps F.keep) hcd rfl hbind hcell hloc (fun h₁ hns hk₁ => ?_) hco hgen hk
  have Nn : News h₀ L s.heap need := fun p hp => N p (List.mem_append_left _ hp)
  exact wpAny_mono (h _ s.heap.objs.size h₁ ⟨hns, fun b o e => hk₁ b o (of_hideAll _ e), Nat.le_of_eq (hideAll_size _ _)⟩
    (fun p hp => ⟨hk₁ _ _ (Nn p hp).1, Nat.ne_of_lt (Heap.lt_size (Nn p hp).1), hideAll_none _ (List.mem_map_of_mem hp)⟩) BG st kp (fun p hp => Heap.lt_size (Nn p hp).1)) (fun fl s' hl => lv _ _ hl) fun _ _ y => y

theorem callS_cells (B : Below A₀ base outer h₀) (F : Fr h₀ L s.heap m) (N : News h₀ L s.heap (need ++ rest)) (sep : Apart need rest) (hlim : h₀.NoLimit) (hA : A.frames = some (env :: outer)) (hf : env.frame = some L) (hke : env.scope.kind = .function)
    (ho : s.heap.get? f = some fo) (hd : fo.data = .func (fnX name qual params body scope [] dV kV doc pm an cdv ct)) (hcd : s.heap.CodeRec cdv qual) (hroom : A.depth < recursionLimit)
    (hbind : BindsTo s (fnX name qual params body scope [] dV kV doc pm an cdv ct) args binds)
    (hkind : ∀ n, ∀ x ∈ binds, scope.names.lookup x.1 = some .local ∨ (scope.names.lookup x.1 = some .cell ∧ ((cellsFrom n scope.names []).lookup x.1).isSome = true))
    (hnd : ((cellsFrom 0 scope.names []).map (·.1)).Nodup)
    (h : ∀ g L' h₁ tk cells, Fr g L' h₁ (bindL (envOfC qual scope L' f cdv).kindOf binds fun _ => none) → News g L' h₁ (cells ++ need) →
      CellsAre (bindC (envOfC qual scope L' f cdv).kindOf binds fun _ => none) (cellsFrom (L' + 1) scope.names []) cells → Below A base (env :: outer) g → h₀.StaysIn g → (∀ b o, s.heap.get? b = some o → b ∉ need.map (·.1) → g.get? b = some o) → (∀ p ∈ need, p.1 < L') →
      wpAny (model prog w) (A.deeper (envOfC qual scope L' f cdv)) (execs body (envOfC qual scope L' f cdv))
        (fun fl s' => LeaveS h₀ L m g rest R (match fl with | .ret v => v | _ => .none) s')
        (fun e s' => wpAny (model prog w) (A.deeper (envOfC qual scope L' f cdv)) (leaving (envOfC qual scope L' f cdv) e) (fun _ s'' => R (.error e) s'') (fun e' s'' => R (.error e') s'') s')
        { s with heap := h₁, toks := tk })
    (hco : scope.isCoroutine = false := by rfl) (hgen : scope.isGenerator = false := by rfl) (hk : scope.kind = .function := by rfl) : codeAny (model prog w) A (.call (.ref f) args) R s := by
  obtain ⟨BG, st, kp, lv⟩ := groundS (R := R) B F N sep hA hf hke
  have Nn : News h₀ L s.heap need := fun p hp => N p (List.mem_append_left _ hp)
  refine codeAny_call_function hroom ho hd hco hgen rfl hcd (hbind _ _ _ _ ?_)
  refine wpAny_newFunctionEnv_cells hk (hkind _) fun env' he s' x => ?_
  subst he
  refine ⟨(hlim.keeps F.keep).keeps x.toInCall.keep, codeAny_func ?_⟩
  obtain ⟨h₁, tk, rfl, _⟩ := x.done
  have hk₁ := x.toInCall.keep
  obtain ⟨cells, NC, Y⟩ := Cl.news (h₀ := s.heap) (Nat.le_refl _) fun n c hm => ⟨x.cell n c (lookup_of_mem_nodup (cellsFrom_names scope.names 0 (s.heap.objs.size + 1) [] [] rfl ▸ hnd) hm), x.above n c hm⟩
  refine wpAny_mono (h _ s.heap.objs.size h₁ tk cells ⟨x.toInCall.ns, fun b o e => hk₁ b o (of_hideAll _ e), Nat.le_of_eq (hideAll_size _ _)⟩ (fun p hp => ?_) Y BG st kp (fun p hp => Heap.lt_size (Nn p hp).1)) (fun fl s' hl => lv _ _ hl) fun _ _ y => y
  rcases List.mem_append.mp hp with hp | hp
  · refine ⟨(NC p hp).1, (NC p hp).2.1, ?_⟩
    cases q : (hideAll s.heap (need.map (·.1))).get? p.1 with
    | none => rfl
    | some o => have := of_hideAll _ q; rw [(NC p hp).2.2] at this; cases this
  · exact ⟨hk₁ _ _ (Nn p hp).1, Nat.ne_of_lt (Heap.lt_size (Nn p hp).1), hideAll_none _ (List.mem_map_of_mem hp)⟩
end

section
variable {prog : Program} {w : World} {A₀ A : Around} {s : Shared} {base h₀ : Heap} {outer : List Env} {L : Addr} {m mg mb : Str → Option Value} {env : Env} {need rest : List (Addr × Obj)} {K : Frag} {p : Program} {loose : List Str} {mean : ExcName → Option Value}
  {R : Result → Shared → Prop} {name qual : Str} {params : Arguments} {body : List Stmt} {scope : Scope} {dV kV doc pm cdv ct oc : Value} {an od : Option Addr} {osl : Array (Option Value)} {f : Addr} {args : Args} {binds : List (Str × Value)}

theorem code_defS
    (B : Below A₀ base outer h₀) (F : Fr h₀ L s.heap m) (X₀ : K.In h₀) (N : News h₀ L s.heap (need ++ rest)) (sep : Apart need rest) (T : Top p loose mean mg mb h₀) (hA : A.frames = some (env :: outer)) (hf : env.frame = some L) (hke : env.scope.kind = .function)
    (ho : K.lookup f = some ⟨oc, od, .func (fnOf name qual params body scope dV kV doc pm an cdv ct), osl⟩) (hcd : codeIn K cdv qual = true) (hroom : A.depth < recursionLimit)
    (hbind : BindsTo s (fnOf name qual params body scope dV kV doc pm an cdv ct) args binds) (hloc : ∀ y ∈ binds, scope.names.lookup y.1 = some .local)
    (h : ∀ g L' h₁, Fr g L' h₁ (fun y => binds.reverse.lookup y) → News g L' h₁ need → Below A base (env :: outer) g → K.In g → Top p loose mean mg mb g → (∀ b o, s.heap.get? b = some o → b ∉ need.map (·.1) → g.get? b = some o) → (∀ p ∈ need, p.1 < L') →
      wpAny (model prog w) (A.deeper (envOf qual scope L' f cdv)) (execs body (envOf qual scope L' f cdv))
        (fun fl s' => LeaveS h₀ L m g rest R (match fl with | .ret v => v | _ => .none) s')
        (fun e s' => wpAny (model prog w) (A.deeper (envOf qual scope L' f cdv)) (leaving (envOf qual scope L' f cdv) e) (fun _ s'' => R (.error e) s'') (fun e' s'' => R (.error e') s'') s')
        { s with heap := h₁, toks := s.toks + binds.length })
    (hco : scope.isCoroutine = false) (hgen : scope.isGenerator = false) (hk : scope.kind = .function)
    (hcell : ∀ x ∈ scope.names, x.2 ≠ .cell) : codeAny (model prog w) A (.call (.ref f) args) R s :=
  callS_plain (cl := []) B F N sep T.nolimit hA hf hke ((X₀.keeps F.keep) _ _ ho) rfl (codeRec_of (X₀.keeps F.keep) hcd) hroom hbind hloc (fun g L' h₁ F' N' B' st kp l => h g L' h₁ F' N' B' (X₀.keeps st) (T.keeps st) kp l) hcell hco hgen hk

theorem code_defCS
    (B : Below A₀ base outer h₀) (F : Fr h₀ L s.heap m) (X₀ : K.In h₀) (N : News h₀ L s.heap (need ++ rest)) (sep : Apart need rest) (T : Top p loose mean mg mb h₀) (hA : A.frames = some (env :: outer)) (hf : env.frame = some L) (hke : env.scope.kind = .function)
    (ho : K.lookup f = some ⟨oc, od, .func (fnOf name qual params body scope dV kV doc pm an cdv ct), osl⟩) (hcd : codeIn K cdv qual = true) (hroom : A.depth < recursionLimit)
    (hbind : BindsTo s (fnOf name qual params body scope dV kV doc pm an cdv ct) args binds) (hkind : (binds.all fun y => scope.names.lookup y.1 == some .local || scope.names.lookup y.1 == some .cell) = true)
    (hnd : ((cellsFrom 0 scope.names []).map (·.1)).Nodup)
    (h : ∀ g L' h₁ tk cells, Fr g L' h₁ (bindL (envOfC qual scope L' f cdv).kindOf binds fun _ => none) → News g L' h₁ (cells ++ need) →
      CellsAre (bindC (envOfC qual scope L' f cdv).kindOf binds fun _ => none) (cellsFrom (L' + 1) scope.names []) cells → Below A base (env :: outer) g → K.In g → Top p loose mean mg mb g → (∀ b o, s.heap.get? b = some o → b ∉ need.map (·.1) → g.get? b = some o) → (∀ p ∈ need, p.1 < L') →
      wpAny (model prog w) (A.deeper (envOfC qual scope L' f cdv)) (execs body (envOfC qual scope L' f cdv))
        (fun fl s' => LeaveS h₀ L m g rest R (match fl with | .ret v => v | _ => .none) s')
        (fun e s' => wpAny (model prog w) (A.deeper (envOfC qual scope L' f cdv)) (leaving (envOfC qual scope L' f cdv) e) (fun _ s'' => R (.error e) s'') (fun e' s'' => R (.error e') s'') s')
        { s with heap := h₁, toks := tk })
    (hco : scope.isCoroutine = false) (hgen : scope.isGenerator = false) (hk : scope.kind = .function) : codeAny (model prog w) A (.call (.ref f) args) R s :=
  callS_cells B F N sep T.nolimit hA hf hke ((X₀.keeps F.keep) _ _ ho) rfl (codeRec_of (X₀.keeps F.keep) hcd) hroom hbind (kindsX hkind) hnd (fun g L' h₁ tk cells F' N' Y B' st kp l => h g L' h₁ tk cells F' N' Y B' (X₀.keeps st) (T.keeps st) kp l) hco hgen hk
end

/-- a call that needs and changes the objects «need» alone -/
def SpecR (w : World) (d u : Nat) (f : Addr) (vs : List Value) (need : List (Addr × Obj)) (Old : Heap → Prop) (Ret : Value → List (Addr × Obj) → Prop) : Prop :=
  ∀ (p : Program) (loose : List Str) (mean : ExcName → Option Value) (mg mb : Str → Option Value) (rest : List (Addr × Obj)) (cn : Str) (cs : Scope) (a : Addr) (ccd : Value) (cl : List (Str × Addr)) (outer : List Env) (A₀ : Around) (base h₀ : Heap) (L : Addr) (m : Str → Option Value) (s : Shared) (Q E : Value → Shared → Prop),
    Below A₀ base outer h₀ → Fr h₀ L s.heap m → Frag.In (hd.heap_39 w.params) h₀ → News h₀ L s.heap (need ++ rest) → Apart need rest → Top p loose mean mg mb h₀ → cs.kind = .function → Old (hideAll s.heap (need.map (·.1))) →
    (∀ (v : Value) (news' : List (Addr × Obj)) (h' : Heap) (tk' : Nat), Ret v news' → Fr h₀ L h' m → News h₀ L h' (news' ++ rest) → Apart news' rest → Q v { s with heap := h', toks := tk' }) →
      wpAny (model PR w) (ktrTop d u none cn cs L a ccd cl outer) (call (.ref f) vs) Q E s
theorem SpecR.out {w : World} {d u : Nat} {f : Addr} {vs : List Value} {need : List (Addr × Obj)} {Old : Heap → Prop} {Ret : Value → List (Addr × Obj) → Prop} (H : SpecR w d u f vs need Old Ret) {p : Program} {loose : List Str} {mean : ExcName → Option Value} {mg mb : Str → Option Value} {news rest : List (Addr × Obj)} {cn : Str} {cs : Scope} {a : Addr} {ccd : Value} {cl : List (Str × Addr)} {outer : List Env} {A₀ A : Around} {base h₀ : Heap} {L : Addr} {m : Str → Option Value} {s : Shared} {Q E : Value → Shared → Prop}
    (B : Below A₀ base outer h₀) (F : Fr h₀ L s.heap m) (X : Frag.In (hd.heap_39 w.params) h₀) (N : News h₀ L s.heap news) (T : Top p loose mean mg mb h₀) (hk : cs.kind = .function)
    (hh : A.handled = none) (hd : A.depth ≤ d) (hu : A.units ≤ u) (hf : A.frames = some (envX cn cs L a ccd cl :: outer))
    (hsub : ∀ p ∈ need ++ rest, p ∈ news) (sep : Apart need rest) (old : Old (hideAll s.heap (need.map (·.1))))
    (ret : ∀ (v : Value) (news' : List (Addr × Obj)) (h' : Heap) (tk' : Nat), Ret v news' → Fr h₀ L h' m → News h₀ L h' (news' ++ rest) → Apart news' rest → Q v { s with heap := h', toks := tk' }) :
    wpAny (model PR w) A (call (.ref f) vs) Q E s := up (H p loose mean mg mb rest cn cs a ccd cl outer A₀ base h₀ L m s Q E B F X (drop N hsub) sep T hk old ret) hh hd hu hf
end Mine
namespace Mine
theorem endR {h₀ h' : Heap} {L : Addr} {m : Str → Option Value} {rest all wanted : List (Addr × Obj)} {s : Shared} {Q : Value → Shared → Prop} {Ret : Value → List (Addr × Obj) → Prop} {v : Value} {tk' : Nat}
    (ret : ∀ (v : Value) (news' : List (Addr × Obj)) (h' : Heap) (tk' : Nat), Ret v news' → Fr h₀ L h' m → News h₀ L h' (news' ++ rest) → Apart news' rest → Q v { s with heap := h', toks := tk' })
    (hR : Ret v wanted) (F : Fr h₀ L h' m) (N : News h₀ L h' (all ++ rest)) (A : Apart all rest) (sub : ∀ p ∈ wanted, p ∈ all) : Q v { s with heap := h', toks := tk' } :=
  ret v wanted h' tk' hR F (drop N fun p hp => (List.mem_append.mp hp).elim (fun h => List.mem_append_left _ (sub p h)) fun h => List.mem_append_right _ h) fun p hp q hq => A p (sub p hp) q hq
end Mine
end
section
open PySem PySem.W PySem.Calls PyProof.Rows
namespace Mine
theorem index_is {prog : Program} {w : World} {A : Around} {E : Value → Shared → Prop} {s : Shared} {x y : Str} {t u : Tok} {Q : Value → Shared → Prop} (hA : A.handled = none) (k : Int) (hf : Txt.find x y = k) (h0 : 0 ≤ k)
    (h : Q (.int k s.toks) { s with toks := s.toks + 1 }) : wpAny (model prog w) A (call (.builtin "str.index") [.str x t, .str y u]) Q E s :=
  index_or hA (fun e => by omega) fun _ _ => by rw [hf]; exact h

theorem lenStr {prog : Program} {w : World} {A : Around} {E : Value → Shared → Prop} {s : Shared} {x : Str} {t : Tok} {Q : Value → Shared → Prop} (hfit : x.length < 16000000) (h : Q (.int x.length (s.toks + 1)) { s with toks := s.toks + 1 + 1 }) : wpAny (model prog w) A (call (.builtin "len") [.str x t]) Q E s :=
  PyProof.Rows.len_str (by omega) h
theorem itemC {prog : Program} {w : World} {A : Around} {E : Value → Shared → Prop} {s : Shared} {value slice : PySem.Expr} {x : Str} {t u : Tok} {i : Int} {c : Nat} {Q : Value → Shared → Prop}
    (hc : x.cps[i.toNat]? = some c) (h0 : 0 ≤ i) (hn : x.length < 16000000) (h : Q (.str ⟨#[c]⟩ s.toks) { s with toks := s.toks + 1 })
    (hs : subscripted slice false (.str x t) (.int i u) = operate [.str x t, .int i u] (getItem (.str x t) (.int i u)) := by with_unfolding_all rfl)
    (ht : ∀ r, letTemporaryGo value (.str x t) r = pure () := by intro _; with_unfolding_all rfl) :
    wpAny (model prog w) A (subscriptTail value slice (.str x t) (.int i u)) Q E s := by
  have hlt : i.toNat < x.length := by
    have := (Array.getElem?_eq_some_iff.mp hc).1
    exact this
  refine KXi.item (n := x.length) rfl (by omega) (by omega) (by omega) (fun _ => ?_) hs ht
  rw [item_meets h0 hc]; exact h
theorem small_up {n : Nat} (h : n < 16000000) : Builtin.Range.small 0 (n : Int) 1 = true := small_one (by omega) (by omega) (by omega) (by omega)
theorem size_up {n : Nat} : Builtin.Range.rangeSize 0 (n : Int) 1 = (n : Int) := by rw [rangeSize_nat]; omega


/-- a text by its signs -/
abbrev mk (l : List Nat) : Str := ⟨l.toArray⟩
theorem mk_app (a b : List Nat) : (mk a ++ mk b : Str) = mk (a ++ b) := by
  apply Str.ext'
  rw [Str.cps_append]; simp
theorem mk_len (a : List Nat) : (mk a).length = a.length := by simp [PySem.Str.length]
theorem str_mk (x : Str) : x = mk x.cps.toList := by cases x; simp
theorem joinE (ys : List Str) : Txt.join (Str.ofString "") ys = mk (ys.flatMap fun y => y.cps.toList) := by
  show Builtin.Str.glued (Str.ofString "") ys = _
  rw [StrLaws.glued_eq_join]
  induction ys with
  | nil => rfl
  | cons a r ih =>
    cases r with
    | nil => simp [PySem.Str.join]
    | cons b r =>
      show a ++ Str.ofString "" ++ PySem.Str.join (Str.ofString "") (b :: r) = _
      rw [ih]
      apply Str.ext'
      rw [Str.cps_append, Str.cps_append]
      rw [show (Str.ofString "").cps = #[] from by decide +kernel]
      simp
theorem joinL {prog : Program} {w : World} {A : Around} {E : Value → Shared → Prop} {s : Shared} {t : Tok} {Q : Value → Shared → Prop} {D : Addr} {items : Array Value} {ys : List Str} (hl : s.heap.IsList D items) (hi : StrsAre items.toList ys) (hok : (ys.map (·.length)).sum ≤ 16000000)
    (h : ∀ t' k, Q (.str (mk (ys.flatMap fun y => y.cps.toList)) t') { s with toks := k }) : wpAny (model prog w) A (call (.builtin "str.join") [.str (Str.ofString "") t, .ref D]) Q E s :=
  join_list hl hi (by rw [show (Str.ofString "").length = 0 from by decide +kernel]; omega) fun t' k => by rw [joinE]; exact h t' k
theorem apart_nil (l : List (Addr × Obj)) : Apart [] l := fun _ h => nomatch h
end Mine
end
section
open PySem PySem.W PySem.Calls PyProof.Rows PySem.Builtin.Str
namespace Mine
theorem lenMk {prog : Program} {w : World} {A : Around} {E : Value → Shared → Prop} {s : Shared} {x : List Nat} {t : Tok} {Q : Value → Shared → Prop} (hfit : x.length < 16000000) (h : Q (.int x.length (s.toks + 1)) { s with toks := s.toks + 1 + 1 }) : wpAny (model prog w) A (call (.builtin "len") [.str (mk x) t]) Q E s :=
  lenStr (by rw [mk_len]; exact hfit) (by rw [mk_len]; exact h)
theorem drop_take (r : List Nat) (i b : Nat) (h : r.length - i ≤ b) : (r.drop i).take b = r.drop i := List.take_of_length_le (by rw [List.length_drop]; exact h)
theorem slice_from (r : List Nat) (k : Nat) : Txt.slice (mk r) (some (k : Int)) none = mk (r.drop k) := by
  by_cases h : k ≤ r.length
  · rw [slice_from_eq (x := mk r) (b := ((mk r).length : Int)) (by omega) (by rw [mk_len]; omega) rfl, mk_len]
    show mk ((r.drop (k : Int).toNat).take (r.length - (k : Int)).toNat) = _
    rw [Int.toNat_natCast, drop_take _ _ _ (by omega)]
  · rw [slice_beyond (by rw [mk_len]; omega), List.drop_of_length_le (by omega)]; rfl
theorem slice_to (r : List Nat) (k : Nat) (h : k ≤ r.length) : Txt.slice (mk r) none (some (k : Int)) = mk (r.take k) := by
  have := slice_closes_toL (x := mk r) (j := (k : Int)) (by omega) (by rw [mk_len]; omega)
  rw [beq_iff_eq.mp this]
  show mk ((r.drop (0 : Int).toNat).take ((k : Int) - 0).toNat) = _
  simp
theorem sliceIdx_ss_beyond (len : Nat) {i j : Int} (h0 : 0 ≤ i) (hi : i ≤ len) (h : (len : Int) ≤ j) : strSliceIndices (some i) (some j) 1 len = strSliceIndices (some i) (some (len : Int)) 1 len := by
  unfold strSliceIndices
  simp only [show (1 : Int) > 0 by decide, if_true]
  congr 1
  (repeat' split) <;> omega
theorem slice_one (r : List Nat) (i : Nat) (h : i ≤ r.length) : Txt.slice (mk r) (some (i : Int)) (some ((i : Int) + 1)) = mk ((r.drop i).take 1) := by
  by_cases hi : i < r.length
  · have := slice_closesL (x := mk r) (i := (i : Int)) (j := (i : Int) + 1) (by omega) (by omega) (by rw [mk_len]; omega)
    rw [beq_iff_eq.mp this]
    show mk ((r.drop (i : Int).toNat).take ((i : Int) + 1 - (i : Int)).toNat) = _
    rw [Int.toNat_natCast, show ((i : Int) + 1 - (i : Int)).toNat = 1 by omega]
  · have e : Txt.slice (mk r) (some (i : Int)) (some ((i : Int) + 1)) = Txt.slice (mk r) (some (i : Int)) (some ((mk r).length : Int)) := by
      unfold Txt.slice
      rw [sliceIdx_ss_beyond _ (by omega) (by rw [mk_len]; omega) (by rw [mk_len]; omega)]
    rw [e]
    have := slice_closesL (x := mk r) (i := (i : Int)) (j := ((mk r).length : Int)) (by omega) (by rw [mk_len]; omega) (by omega)
    rw [beq_iff_eq.mp this, mk_len]
    show mk ((r.drop (i : Int).toNat).take ((r.length : Int) - (i : Int)).toNat) = _
    rw [Int.toNat_natCast, List.drop_of_length_le (by omega)]; simp
section
variable {prog : Program} {w : World} {A : Around} {E : Value → Shared → Prop} {s : Shared} {h₀ : Heap} {L : Addr} {m : Str → Option Value} {news : List (Addr × Obj)} {value slice : Expr} {r : List Nat} {t : Tok} {Q : Value → Shared → Prop}
theorem sliceFromT {i : Nat} {ui : Tok} (hF : Fr h₀ L s.heap m) (hN : News h₀ L s.heap news) (hsz : r.length < 16000000) (h : ∀ h' t' k, Fr h₀ L h' m → News h₀ L h' news → Q (.str (mk (r.drop i)) t') { s with heap := h', toks := k })
    (hs : subscripted slice false (.str (mk r) t) (.ref s.heap.objs.size) = operate [.ref s.heap.objs.size, .str (mk r) t] (getItem (.str (mk r) t) (.ref s.heap.objs.size)) := by with_unfolding_all rfl)
    (ht : ∀ q, letTemporaryGo value (.str (mk r) t) q = pure () := by intro _; with_unfolding_all rfl) :
    wpAny (model prog w) A (subscriptTail value slice (.str (mk r) t) (.ref s.heap.objs.size)) Q E { s with heap := s.heap.push { cls := .type "slice", data := .fields #[.int (i : Int) ui, .none, .none] } } :=
  slice_strN_sn hF hN (fun h' t' k a b => by rw [slice_from]; exact h h' t' k a b) hs ht (by rw [mk_len, sizeLine_eq]; omega)
theorem sliceToT {i : Int} {ui : Tok} (hF : Fr h₀ L s.heap m) (hN : News h₀ L s.heap news) (h0 : 0 ≤ i) (hle : i ≤ r.length) (hsz : r.length < 16000000) (h : ∀ h' t' k, Fr h₀ L h' m → News h₀ L h' news → Q (.str (mk (r.take i.toNat)) t') { s with heap := h', toks := k })
    (hs : subscripted slice false (.str (mk r) t) (.ref s.heap.objs.size) = operate [.ref s.heap.objs.size, .str (mk r) t] (getItem (.str (mk r) t) (.ref s.heap.objs.size)) := by with_unfolding_all rfl)
    (ht : ∀ q, letTemporaryGo value (.str (mk r) t) q = pure () := by intro _; with_unfolding_all rfl) :
    wpAny (model prog w) A (subscriptTail value slice (.str (mk r) t) (.ref s.heap.objs.size)) Q E { s with heap := s.heap.push { cls := .type "slice", data := .fields #[.none, .int i ui, .none] } } :=
  slice_strN_ns hF hN (fun h' t' k a b => by
    have := slice_to r i.toNat (by omega)
    rw [Int.toNat_of_nonneg h0] at this
    rw [this]; exact h h' t' k a b) hs ht (by rw [mk_len, sizeLine_eq]; omega)
theorem sliceOneT {i : Nat} {ui uj : Tok} (hF : Fr h₀ L s.heap m) (hN : News h₀ L s.heap news) (hle : i ≤ r.length) (hsz : r.length < 16000000) (h : ∀ h' t' k, Fr h₀ L h' m → News h₀ L h' news → Q (.str (mk ((r.drop i).take 1)) t') { s with heap := h', toks := k })
    (hs : subscripted slice false (.str (mk r) t) (.ref s.heap.objs.size) = operate [.ref s.heap.objs.size, .str (mk r) t] (getItem (.str (mk r) t) (.ref s.heap.objs.size)) := by with_unfolding_all rfl)
    (ht : ∀ q, letTemporaryGo value (.str (mk r) t) q = pure () := by intro _; with_unfolding_all rfl) :
    wpAny (model prog w) A (subscriptTail value slice (.str (mk r) t) (.ref s.heap.objs.size)) Q E { s with heap := s.heap.push { cls := .type "slice", data := .fields #[.int (i : Int) ui, .int ((i : Int) + 1) uj, .none] } } :=
  slice_strN_ss hF hN (fun h' t' k a b => by rw [slice_one r i hle]; exact h h' t' k a b) hs ht (by rw [mk_len, sizeLine_eq]; omega)
end
end Mine
end
section
open PySem PySem.W PySem.Calls PyProof.Rows
namespace Mine
/-- addresses that differ, each from each -/
def Dst (l : List Addr) : Prop := l.Pairwise (fun a b => a ≠ b)
def nth {α : Type} : List α → Nat → Option α
  | [], _ => none
  | x :: _, 0 => some x
  | _ :: r, n + 1 => nth r n
def setN {α : Type} : List α → Nat → α → List α
  | [], _, _ => []
  | _ :: r, 0, y => y :: r
  | x :: r, n + 1, y => x :: setN r n y
inductive Fnd {α : Type} : List α → Nat → α → Prop
  | z {x : α} {r : List α} : Fnd (x :: r) 0 x
  | s {x y : α} {r : List α} {i : Nat} : Fnd r i y → Fnd (x :: r) (i + 1) y
theorem nth_mem {α : Type} {x : α} : ∀ {l : List α} {i : Nat}, nth l i = some x → x ∈ l
  | _ :: _, 0, h => by cases h; exact .head _
  | _ :: _, _ + 1, h => .tail _ (nth_mem h)
theorem mem_at {α : Type} {l : List α} {x : α} (i : Nat) (h : nth l i = some x) : x ∈ l := nth_mem h
theorem nth_map {α β : Type} {f : α → β} {x : α} : ∀ {l : List α} {i : Nat}, nth l i = some x → nth (l.map f) i = some (f x)
  | _ :: _, 0, h => by cases h; rfl
  | _ :: r, i + 1, h => nth_map (l := r) (i := i) h
theorem Dst.sub : ∀ {l : List Addr} {a b : Addr} {i j : Nat}, Dst l → nth l i = some a → nth l j = some b → i ≠ j → a ≠ b
  | _ :: _, _, _, 0, 0, _, _, _, n => absurd rfl n
  | _ :: _, _, _, 0, _ + 1, h, hi, hj, _ => by cases hi; exact (List.pairwise_cons.mp h).1 _ (nth_mem hj)
  | _ :: _, _, _, _ + 1, 0, h, hi, hj, _ => by cases hj; exact fun e => (List.pairwise_cons.mp h).1 _ (nth_mem hi) e.symm
  | _ :: _, _, _, _ + 1, _ + 1, h, hi, hj, n => Dst.sub (List.pairwise_cons.mp h).2 hi hj fun e => n (congrArg _ e)
theorem Dst.ne {l : List Addr} {a b : Addr} (i j : Nat) (h : Dst l) (hi : nth l i = some a) (hj : nth l j = some b) (hn : Nat.beq i j = false) : a ≠ b := Dst.sub h hi hj (Nat.ne_of_beq_eq_false hn)
theorem Dst.nil : Dst [] := List.Pairwise.nil
theorem Dst.one {a : Addr} : Dst [a] := List.Pairwise.cons (fun _ h => nomatch h) List.Pairwise.nil
theorem Dst.two {a b : Addr} (h : a ≠ b) : Dst [a, b] := .cons (fun x hx => by rw [List.mem_singleton.mp hx]; exact h) Dst.one
theorem Dst.tail {a : Addr} {l : List Addr} (h : Dst (a :: l)) : Dst l := (List.pairwise_cons.mp h).2
theorem Dst.to {l l' : List Addr} (h : Dst l) (e : l = l') : Dst l' := e ▸ h
theorem Dst.up {l : List Addr} {news : List (Addr × Obj)} {d : Addr} (h : Dst l) (hl : ∀ p ∈ news, p.1 < d) (e : news.map Prod.fst = l) : Dst (d :: l) := by
  subst e
  refine .cons (fun a ha q => ?_) h
  obtain ⟨p, hp, rfl⟩ := List.mem_map.mp ha
  exact absurd (hl p hp) (q ▸ Nat.lt_irrefl _)
theorem Dst.up2 {l : List Addr} {news : List (Addr × Obj)} {c f : Addr} (h : Dst (c :: l)) (hf : c < f) (hl : ∀ p ∈ news, p.1 < c) (e : news.map Prod.fst = l) : Dst (f :: c :: l) := by
  subst e
  refine .cons (fun a ha q => ?_) h
  rcases List.mem_cons.mp ha with rfl | ha
  · exact absurd hf (q ▸ Nat.lt_irrefl _)
  · obtain ⟨p, hp, rfl⟩ := List.mem_map.mp ha
    exact absurd (Nat.lt_trans (hl p hp) hf) (q ▸ Nat.lt_irrefl _)
theorem absorb {P G : Prop} (h : P) (k : P → G) : G := k h
theorem Dst.off {l : List Addr} {news : List (Addr × Obj)} {d : Addr} (h : Dst l) (hl : ∀ p ∈ news, p.1 ≠ d) (e : news.map Prod.fst = l) : Dst (d :: l) := by
  subst e
  refine .cons (fun a ha q => ?_) h
  obtain ⟨p, hp, rfl⟩ := List.mem_map.mp ha
  exact hl p hp q.symm
theorem Dst.off3 {l : List Addr} {news : List (Addr × Obj)} {I C D : Addr} (h : Dst l) (off : LCg.Off3 I C D news) (ne : (@Ne Nat I C) ∧ (@Ne Nat I D) ∧ (@Ne Nat C D)) (e : news.map Prod.fst = l) : Dst (I :: C :: D :: l) := by
  have h1 := Dst.off h (fun p hp => (off.mem p hp).2.2) e
  have h2 : Dst (C :: D :: l) := .cons (fun a ha => by
    rcases List.mem_cons.mp ha with rfl | ha
    · exact ne.2.2
    · subst e; obtain ⟨p, hp, rfl⟩ := List.mem_map.mp ha; exact fun q => (off.mem p hp).2.1 q.symm) h1
  exact .cons (fun a ha => by
    rcases List.mem_cons.mp ha with rfl | ha
    · exact ne.1
    · rcases List.mem_cons.mp ha with rfl | ha
      · exact ne.2.1
      · subst e; obtain ⟨p, hp, rfl⟩ := List.mem_map.mp ha; exact fun q => (off.mem p hp).1 q.symm) h2
def cellsL (L : Addr) : Nat → List Addr
  | 0 => []
  | k + 1 => (L + (k + 1) : Nat) :: cellsL L k
theorem cellsL_gt {L x : Addr} : ∀ {k : Nat}, x ∈ cellsL L k → ∃ j, x = (L + (j + 1) : Nat) ∧ j < k
  | k + 1, h => by
    rcases List.mem_cons.mp h with rfl | h
    · exact ⟨k, rfl, Nat.lt_succ_self _⟩
    · obtain ⟨j, e, q⟩ := cellsL_gt h
      exact ⟨j, e, Nat.lt_succ_of_lt q⟩
theorem cel1 {L k j : Nat} (h : L + (k + 1) = L + (j + 1)) (lt : j < k) : False := by omega
theorem cel2 {L k a : Nat} (h : L + (k + 1) = a) (lt : a < L) : False := by omega
theorem Dst.cells {l : List Addr} {L : Addr} (h : Dst l) (hl : ∀ a ∈ l, a < L) : ∀ k, Dst (cellsL L k ++ l)
  | 0 => h
  | k + 1 => by
    refine .cons (fun a ha q => ?_) (Dst.cells h hl k)
    rcases List.mem_append.mp ha with ha | ha
    · obtain ⟨j, e, lt⟩ := cellsL_gt ha
      exact cel1 (q.trans e) lt
    · exact cel2 q (hl a ha)
theorem Dst.cellsN {l : List Addr} {news : List (Addr × Obj)} {L : Addr} (k : Nat) (h : Dst l) (hl : ∀ p ∈ news, p.1 < L) (e : news.map Prod.fst = l) : Dst (cellsL L k ++ l) := Dst.cells h (fun a ha => by
  subst e
  obtain ⟨p, hp, rfl⟩ := List.mem_map.mp ha
  exact hl p hp) k
def noRep : List Nat → Bool
  | [] => true
  | x :: r => r.all (fun y => !(Nat.beq x y)) && noRep r
theorem Dst.pick {l : List Addr} (h : Dst l) : ∀ {l2 : List Addr} (is : List Nat), is.map (nth l) = l2.map some → noRep is = true → Dst l2
  | [], [], _, _ => .nil
  | a :: r, i :: is, e, d => by
    rw [List.map_cons, List.map_cons, List.cons.injEq] at e
    unfold noRep at d
    rw [Bool.and_eq_true, List.all_eq_true] at d
    refine .cons (fun b hb => ?_) (Dst.pick h is e.2 d.2)
    obtain ⟨j, hj, ej⟩ : ∃ j ∈ is, nth l j = some b := by
      have : some b ∈ is.map (nth l) := e.2 ▸ List.mem_map_of_mem hb
      obtain ⟨j, hj, ej⟩ := List.mem_map.mp this
      exact ⟨j, hj, ej⟩
    exact Dst.ne i j h e.1 ej (by have := d.1 j hj; simpa using this)
theorem pick_nil {l : List Addr} : ([] : List Nat).map (nth l) = ([] : List Addr).map some := rfl
theorem pick_cons {l r : List Addr} {a : Addr} {i : Nat} {is : List Nat} (h : nth l i = some a) (hr : is.map (nth l) = r.map some) : (i :: is).map (nth l) = (a :: r).map some := by rw [List.map_cons, List.map_cons, h, hr]
theorem sub_at {l : List (Addr × Obj)} : ∀ {l2 : List (Addr × Obj)} (is : List Nat), is.map (nth l) = l2.map some → ∀ p ∈ l2, p ∈ l
  | [], _, _ => fun _ h => nomatch h
  | a :: r, i :: is, e => fun p hp => by
    rw [List.map_cons, List.map_cons, List.cons.injEq] at e
    rcases List.mem_cons.mp hp with rfl | hp
    · exact nth_mem e.1
    · exact sub_at is e.2 p hp
theorem Dst.app {l r : List Addr} (h : Dst (l ++ r)) : Dst l ∧ Dst r ∧ ∀ a ∈ l, ∀ b ∈ r, a ≠ b := List.pairwise_append.mp h
theorem Dst.join {l r : List Addr} (h1 : Dst l) (h2 : Dst r) (h : ∀ a ∈ l, ∀ b ∈ r, a ≠ b) : Dst (l ++ r) := List.pairwise_append.mpr ⟨h1, h2, h⟩
theorem Dst.perm {l r : List Addr} (h : Dst l) (p : l.Perm r) : Dst r := (p.pairwise_iff (R := fun a b : Addr => a ≠ b) (fun {a b} h => Ne.symm h)).mp h
theorem Dst.apart {need rest : List (Addr × Obj)} (h : Dst (need.map Prod.fst ++ rest.map Prod.fst)) : Apart need rest := fun p hp q hq => h.app.2.2 _ (List.mem_map_of_mem hp) _ (List.mem_map_of_mem hq)
theorem Dst.apart' {need rest : List (Addr × Obj)} (h : Dst (rest.map Prod.fst ++ need.map Prod.fst)) : Apart need rest := fun p hp q hq => (h.app.2.2 _ (List.mem_map_of_mem hq) _ (List.mem_map_of_mem hp)).symm
theorem Dst.glue {need rest : List (Addr × Obj)} (h1 : Dst (need.map Prod.fst)) (h2 : Dst (rest.map Prod.fst)) (A : Apart need rest) : Dst ((need ++ rest).map Prod.fst) := by
  rw [List.map_append]
  refine h1.join h2 fun a ha b hb => ?_
  obtain ⟨p, hp, rfl⟩ := List.mem_map.mp ha
  obtain ⟨q, hq, rfl⟩ := List.mem_map.mp hb
  exact A p hp q hq
theorem Upd.of : ∀ {i : Nat} {d : Addr} {o o' : Obj} {l : List (Addr × Obj)}, Dst (l.map Prod.fst) → nth l i = some (d, o) → Upd d o o' l (setN l i (d, o'))
  | 0, _, _, _, _ :: _, h, e => by cases e; exact .head fun p hp q => (List.pairwise_cons.mp h).1 _ (List.mem_map_of_mem hp) q.symm
  | _ + 1, _, _, _, _ :: _, h, e => .tail (fun q => (List.pairwise_cons.mp h).1 _ (List.mem_map_of_mem (nth_mem e)) q) (Upd.of (List.pairwise_cons.mp h).2 e)
theorem Upd.at {d : Addr} {o o' : Obj} {l l' : List (Addr × Obj)} {A : List Addr} (i : Nat) (D : Dst A) (eA : l.map Prod.fst = A) (hi : nth l i = some (d, o)) (e : setN l i (d, o') = l') : Upd d o o' l l' := by
  subst eA; subst e; exact Upd.of D hi
theorem UpdF.of : ∀ {i : Nat} {d : Addr} {o : Obj} {l : List (Addr × Obj)}, Dst (l.map Prod.fst) → nth l i = some (d, o) → UpdF d o l (fun o' => setN l i (d, o'))
  | 0, _, _, _ :: _, h, e => by cases e; exact .head fun p hp q => (List.pairwise_cons.mp h).1 _ (List.mem_map_of_mem hp) q.symm
  | _ + 1, _, _, _ :: _, h, e => .tail (fun q => (List.pairwise_cons.mp h).1 _ (List.mem_map_of_mem (nth_mem e)) q) (UpdF.of (List.pairwise_cons.mp h).2 e)
theorem UpdF.at {d : Addr} {o : Obj} {l : List (Addr × Obj)} {g : Obj → List (Addr × Obj)} {A : List Addr} (i : Nat) (D : Dst A) (eA : l.map Prod.fst = A) (hi : nth l i = some (d, o)) (e : (fun o' => setN l i (d, o')) = g) : UpdF d o l g := by
  subst eA; subst e; exact UpdF.of D hi
theorem withDst {h₀ h : Heap} {L : Addr} {news : List (Addr × Obj)} {P : Prop} (_N : News h₀ L h news) (d : Dst (news.map Prod.fst)) (k : Dst (news.map Prod.fst) → P) : P := k d
end Mine
end
section
open PySem PySem.W PySem.Calls PyProof.Rows
namespace Mine
local macro_rules | `(tactic| walk_at "mine enter") => `(tactic| (k_dflt (refine' code_defS ?k1 ?k2 ?k3 ?k4 ?kS ?k5 ?kA ?kF ?kK ?k6 ?k7 ?k8 ?k9 ?kB ?_ ?c2 ?c3 ?c4 ?c5; (case kA | kF => exact rfl); (case kK => first | exact rfl | assumption); (case k1 | k2 | k3 | k4 => k_asm); (case kS => assumption); (case k5 => k_asm); (case k6 | k7 => k_is); (case k8 => ktr_room); (case k9 => exact BindsTo.of_eq rfl); (case c5 => decide); (case kB => exact locs rfl); (case c2 | c3 | c4 => exact rfl); k_whole)))
local macro_rules | `(tactic| walk_at "mine enterC") => `(tactic| (k_dflt (refine' code_defCS ?k1 ?k2 ?k3 ?k4 ?kS ?k5 ?kA ?kF ?kK ?k6 ?k7 ?k8 ?k9 ?kB ?kD ?_ ?c2 ?c3 ?c4; (case kA | kF => exact rfl); (case kK => first | exact rfl | assumption); (case k1 | k2 | k3 | k4 => k_asm); (case kS => assumption); (case k5 => k_asm); (case k6 | k7 => k_is); (case k8 => ktr_room); (case k9 => exact BindsTo.of_eq rfl); (case kB => exact rfl); (case kD => decide +kernel); (case c2 | c3 | c4 => exact rfl); k_whole)))
local macro_rules | `(tactic| walk_at "LeaveS") => `(tactic| (k_dflt (refine' leaveS_ ?k1 ?k2 ?_; (case k1 | k2 => k_asm); k_whole)))
local macro_rules | `(tactic| walk_at "mine sub") => `(tactic| first | exact List.forall_mem_nil _ | (refine List.forall_mem_cons.mpr ⟨?a, ?b⟩; (case a => k_mem); (case b => walk_at "mine sub")))
local macro_rules | `(tactic| walk_at "mine end") => `(tactic| ((case kF | kN => k_asm); (case kA => assumption); (case kS => walk_at "mine sub")))
section
open PySem PySem.W PyProof.Rows
local macro_rules | `(tactic| walk_at "mine pad") => `(tactic| fail)
theorem Mine.rst_C1 : True ∧ True := by
  w_top off
  first | (walk1; all_goals exact True.intro) | exact ⟨True.intro, True.intro⟩
end
section
open PySem PySem.W PySem.Calls PyProof.Rows
section
def signsOf (n : Int) : Str := Txt.item alph (n.fmod 6) ++ Txt.item alph (n.fmod 6 + 1 + (n.fdiv 6).fmod (6 - n.fmod 6))


theorem sign_spec (w : World) (n : Int) (tn : Tok) : Spec w 700 3000 84 [Value.int n tn] (fun t => Value.str (signsOf n) t) := by
  intro p loose mean mg mb news cn cs a ccd cl outer A₀ base h₀ L m s Q E B F X N T hk hret
  refine wpAny_call ?_
  have e1 : 0 ≤ n.fmod 6 := Int.fmod_nonneg_of_pos n (by decide)
  have e2 : n.fmod 6 < 6 := Int.fmod_lt_of_pos n (by decide)
  have e3 : 0 ≤ (n.fdiv 6).fmod (6 - n.fmod 6) := Int.fmod_nonneg_of_pos _ (by omega)
  have e4 : (n.fdiv 6).fmod (6 - n.fmod 6) < 6 - n.fmod 6 := Int.fmod_lt_of_pos _ (by omega)
  k_dflt cell_enter
  k_steps
  exact hret _ _ _ (by k_asm) (by k_asm)

def sideL : List Nat → List Nat → Nat → Int × Int
  | a :: r, b :: t, i => if a = b then sideL r t (i + 1) else (if Txt.find alph ⟨#[a]⟩ < Txt.find alph ⟨#[b]⟩ then -1 else 1, (i : Int))
  | _, _, _ => (0, 0)

theorem sideL_skip {x y : List Nat} : ∀ (i k : Nat), (∀ j < i, x[j]? = y[j]?) → i ≤ x.length → i ≤ y.length → sideL x y k = sideL (x.drop i) (y.drop i) (k + i) := by
  intro i
  induction i generalizing x y with
  | zero => intro k _ _ _; rfl
  | succ i ih =>
    intro k h hx hy
    cases x with
    | nil => simp at hx
    | cons a x =>
      cases y with
      | nil => simp at hy
      | cons b y =>
        have e0 : a = b := by simpa using h 0 (by omega)
        subst e0
        have := ih (x := x) (y := y) (k + 1) (fun j hj => by simpa using h (j + 1) (by omega)) (by simpa using hx) (by simpa using hy)
        simp only [sideL, if_true, List.drop_succ_cons]
        rw [this]; congr 1; omega
theorem sideL_hit {x y : List Nat} {i a b : Nat} (hj : ∀ j < i, x[j]? = y[j]?) (ha : x[i]? = some a) (hb : y[i]? = some b) (hne : a ≠ b) :
    sideL x y 0 = (if Txt.find alph ⟨#[a]⟩ < Txt.find alph ⟨#[b]⟩ then -1 else 1, (i : Int)) := by
  have h1 := (List.getElem?_eq_some_iff.mp ha).1
  have h2 := (List.getElem?_eq_some_iff.mp hb).1
  rw [sideL_skip i 0 hj (by omega) (by omega)]
  have e1 : x.drop i = a :: x.drop (i + 1) := by
    rw [List.drop_eq_getElem_cons h1, (List.getElem?_eq_some_iff.mp ha).2]
  have e2 : y.drop i = b :: y.drop (i + 1) := by
    rw [List.drop_eq_getElem_cons h2, (List.getElem?_eq_some_iff.mp hb).2]
  rw [e1, e2]
  simp only [sideL, if_neg hne, Nat.zero_add]
theorem sideL_none {x y : List Nat} (hl : x.length = y.length) (hj : ∀ j < x.length, x[j]? = y[j]?) : sideL x y 0 = (0, 0) := by
  rw [sideL_skip x.length 0 hj (Nat.le_refl _) (by omega)]
  simp [sideL]
section
local macro_rules | `(tactic| walk_at "pyIter ref") => `(tactic| refine hold ?_)
local macro_rules | `(tactic| walk_at "TurnEnd") => `(tactic| refine TurnEnd.ret ?_)
local macro_rules | `(tactic| walk_at "call builtin:len") => `(tactic| (k_here; (with_reducible show wpAny _ _ (call (Value.builtin "len") [Value.str _ _]) _ _ _); (refine lenStr (by omega) ?_)))
local macro_rules | `(tactic| walk_at "call builtin:str.index") => `(tactic| (refine index_is rfl _ rfl (by assumption) ?_))
local macro_rules | `(tactic| walk_at "subscriptTail Name Name str int") => `(tactic| (k_here; (with_reducible show wpAny _ _ (subscriptTail _ _ (Value.str _ _) (Value.int _ _)) _ _ _); (refine itemC (by assumption) (by omega) (by omega) ?_)))
theorem side_spec (w : World) (x y : Str) (tx ty : Tok) (hxy : x.length = y.length) (hx : ∀ c ∈ x.cps, 0 ≤ Txt.find alph ⟨#[c]⟩) (hy : ∀ c ∈ y.cps, 0 ≤ Txt.find alph ⟨#[c]⟩) (hsz : x.length < 1000000) :
    SpecR w 700 3000 110 [Value.str x tx, Value.str y ty] [] (fun _ => True)
    (fun v news' => ∃ r t1 t2, v = .ref r ∧ news' = [(r, { cls := .type "tuple", data := .seq [.int (sideL x.cps.toList y.cps.toList 0).1 t1, .int (sideL x.cps.toList y.cps.toList 0).2 t2].toArray })]) := by
  intro p loose mean mg mb rest cn cs a ccd cl outer A₀ base h₀ L m s Q E B F X N sep T hk _ hret
  refine wpAny_call ?_
  walk_at "mine enter"
  intro g L' h₁ F' N' B' X' T' kp l1
  (try dsimp only); (try k_fold)
  k_steps
  refine Hold.out ?_
  refine' for_range (m₀ := ?M) x.length (fun i m₁ news₁ => (∃ u : Str → Option Value, m₁ = fun z => if z = Str.ofString "i" then u z else (?M : Str → Option Value) z) ∧ news₁ = [] ∧ ∀ j < i, x.cps.toList[j]? = y.cps.toList[j]?) rfl ?r ?sm ?sz ?F ?N ?j ?t ?d
  case r => assumption
  case F => k_asm
  case N => k_asm
  case sm => exact small_up (by omega)
  case sz => exact size_up
  case j => exact ⟨⟨_, forget1 fun _ _ => rfl⟩, rfl, fun j hj => absurd hj (Nat.not_lt_zero _)⟩
  case t =>
    rintro I lI lL i u m₁ news₁ h tk oI hi ⟨⟨u', rfl⟩, rfl, hj⟩ off F9 N9
    rw [Int.zero_add, Int.mul_one] at F9
    have hi1 : i < x.cps.size := hi
    have hi2 : i < y.cps.size := by have : i < y.length := by omega
                                    exact this
    have hcx : x.cps[((i : Nat) : Int).toNat]? = some x.cps[i] := by rw [Int.toNat_natCast]; exact Array.getElem?_eq_getElem hi1
    have hcy : y.cps[((i : Nat) : Int).toNat]? = some y.cps[i] := by rw [Int.toNat_natCast]; exact Array.getElem?_eq_getElem hi2
    have fx := hx x.cps[i] (Array.getElem_mem hi1)
    have fy := hy y.cps[i] (Array.getElem_mem hi2)
    have lx : x.cps.toList[i]? = some x.cps[i] := by rw [Array.getElem?_toList]; exact Array.getElem?_eq_getElem hi1
    have ly : y.cps.toList[i]? = some y.cps[i] := by rw [Array.getElem?_toList]; exact Array.getElem?_eq_getElem hi2
    have hsl := fun hne => sideL_hit hj lx ly hne
    generalize x.cps[i] = cx at *
    generalize y.cps[i] = cy at *
    (try dsimp only); (try k_fold)
    k_steps
    · rename (Str.mk _ != Str.mk _) = true => hb
      have hne : cx ≠ cy := fun q => by rw [q] at hb; simp at hb
      rw [hsl hne, if_pos (by assumption)] at hret
      refine' endR hret ⟨_, _, _, rfl, rfl⟩ ?kF ?kN ?kA ?kS; walk_at "mine end"
    · rename (Str.mk _ != Str.mk _) = true => hb
      have hne : cx ≠ cy := fun q => by rw [q] at hb; simp at hb
      rw [hsl hne, if_neg (by assumption)] at hret
      refine' endR hret ⟨_, _, _, rfl, rfl⟩ ?kF ?kN ?kA ?kS; walk_at "mine end"
    · rename (Str.mk _ != Str.mk _) = false => hb
      have he : cx = cy := by simpa using hb
      refine' TurnEnd.next ?kF ?kN [] ?kS (fun p hp => nomatch hp) ⟨⟨_, forget1 fun z hz => ?_⟩, rfl, fun j hj2 => ?_⟩
      case kF => k_asm
      case kN => k_asm
      case kS => walk_at "mine sub"
      · simp only [hz, if_false]
      · rcases Nat.lt_succ_iff_lt_or_eq.mp hj2 with h1 | rfl
        · exact hj j h1
        · rw [lx, ly, he]
  case d =>
    rintro m₁ news₁ h tk ⟨⟨u', rfl⟩, rfl, hj⟩ F9 N9
    have hsl := sideL_none (by simpa [PySem.Str.length] using hxy) (fun j hjj => hj j (by simpa [PySem.Str.length] using hjj))
    (try dsimp only); (try k_fold)
    k_steps
    rw [hsl] at hret
    refine' endR hret ⟨_, _, _, rfl, rfl⟩ ?kF ?kN ?kA ?kS; walk_at "mine end"
end
end
end
section
open PySem PySem.W PyProof.Rows
local macro_rules | `(tactic| walk_at "mine pad") => `(tactic| fail)
theorem Mine.rst_C2 : True ∧ True := by
  w_top off
  first | (walk1; all_goals exact True.intro) | exact ⟨True.intro, True.intro⟩
end
section
open PySem PySem.W PySem.Calls PyProof.Rows
section
def bitOf (n most : Int) (i : Nat) : Int := ((n.fdiv most).fdiv (2 ^ i)).fmod 2
def wordL (a b : Nat) (n most : Int) : List Nat := (List.range (1 + n.fmod most).toNat).map fun i => if bitOf n most i = 0 then a else b
section
local macro_rules | `(tactic| walk_at "CompSrc") => `(tactic| refine hold ?_)
local macro_rules | `(tactic| walk_at "subscriptTail Name BinOp str int") => `(tactic| (k_here; (with_reducible show wpAny _ _ (subscriptTail _ _ (Value.str _ _) (Value.int _ _)) _ _ _); (refine itemC (by assumption) (by first | assumption | omega) (by first | omega | exact Nat.le_of_ble_eq_true rfl) ?_)))
local macro_rules | `(tactic| walk_at "call builtin:str.join") => `(tactic| (k_here; (refine joinL (News.isList (by k_asm) (by k_mem)) (by assumption) (by assumption) ?_); intro t9 k9))
local macro_rules | `(tactic| ktn_lt) => `(tactic| first | exact Fnd.z | (refine' Fnd.s ?fs; (case fs => ktn_lt)))
local macro_rules | `(tactic| k_places) => `(tactic| k_dflt (refine' (?pf : Fnd ?pl ?pi ?py → nth ?pl ?pi = some ?py) ?px; (case px => ktn_lt); (case pf => (intro _; exact rfl))))
local macro_rules | `(tactic| k_mem) => `(tactic| first | (refine' mem_at ?mi ?mh; (case mh => k_places)) | fail "none")
local macro_rules | `(tactic| k_ne) => `(tactic| ((try dsimp only); first | (rename Dst _ => sp9; refine' Dst.ne ?ni ?nj sp9 ?na ?nb ?nc; (case na | nb => k_places); (case nc => k_dflt (exact rfl))) | (refine neN ?_; (try dsimp only); omega)))
local macro_rules | `(tactic| k_upd) => `(tactic| first | (rename Dst _ => sp9; refine' Upd.at ?ui sp9 ?ua ?uh ?ue; (case ua => k_dflt (exact rfl)); (case uh => k_places); (case ue => (dsimp only [setN]; k_dflt (exact rfl)))) | fail "none")
local macro_rules | `(tactic| k_updF) => `(tactic| first | (rename Dst _ => sp9; refine' UpdF.at ?ui sp9 ?ua ?uh ?ue; (case ua => k_dflt (exact rfl)); (case uh => k_places); (case ue => (dsimp only [setN]; k_dflt (exact rfl)))) | fail "none")
local macro_rules | `(tactic| got_up) => `(tactic| first | exact pick_nil | (refine' pick_cons ?pa ?pb; (case pa => k_places); (case pb => got_up)))
local macro_rules | `(tactic| walk_at "mine dst") => `(tactic| first | (refine' Dst.pick ?dl ?di ?dp ?dn; (case dl => assumption); (case dp => got_up); (case dn => k_dflt (exact rfl))) | fail "none")
local macro_rules | `(tactic| k_lt $h:ident) => `(tactic| first | (rename Dst _ => sp9; refine' absorb (Dst.up sp9 $h ?lb) ?lc; (case lb => k_dflt (exact rfl)); intro sp8; clear sp9) | fail "none")
local macro_rules | `(tactic| k_lt2 $h:ident) => `(tactic| first | (rename Dst _ => sp9; refine' absorb (Dst.up2 sp9 $h ?la ?lb) ?lc; (case la => assumption); (case lb => k_dflt (exact rfl)); intro sp8; clear sp9) | fail "none")
theorem word_spec (w : World) (a b : Nat) (n most : Int) (tn t2 t3 : Tok) (hm : 1 ≤ most) (hm2 : most ≤ 4) : Spec w 700 3000 89 [Value.str (mk [a, b]) tn, .int n t2, .int most t3] (fun t => Value.str (mk (wordL a b n most)) t) := by
  intro p loose mean mg mb rest cn cs a9 ccd cl outer A₀ base h₀ L m s Q E B F X N T hk hret
  refine wpAny_call ?_
  have e1 : 0 ≤ n.fmod most := Int.fmod_nonneg_of_pos n (by omega)
  have e2 : n.fmod most < most := Int.fmod_lt_of_pos n (by omega)
  have N0 : News h₀ L s.heap ([] ++ rest) := N
  have sep := apart_nil rest
  walk_at "mine enterC"
  intro g L' h₁ tk' cells F' N' Y' B' X' T' kp l1
  k_cells Y'
  have SP : Dst [L' + 1 + 1 + 1, L' + 1 + 1, L' + 1] := Dst.cells Dst.nil (fun _ h => nomatch h) 3
  clear l1
  (try simp only [List.cons_append, List.nil_append, List.append_nil] at N')
  (try dsimp only); (try k_fold)
  k_steps
  refine Hold.out ?_
  refine' LCg.CompSrc.range (n := (1 + n.fmod most).toNat) rfl ?kF ?kN ?kR ?k4 ?k5 (by rw [sizeLine_eq]; omega) ?_
  case kF => k_asm
  case kN => k_asm
  case kR => assumption
  case k4 => exact small_one (by omega) (by omega) (by omega) (by omega)
  case k5 => rw [rangeSize_nat]; omega
  intro g9
  refine' comp_ind (1 + n.fmod most).toNat (fun i ys nw => nw = ?NW ∧ StrsAre ys ((List.range i).map fun j => mk [if bitOf n most j = 0 then a else b])) ?st ?fin _ 0 [] _ (by omega) ⟨rfl, .nil⟩
  case st =>
    rintro i ys nw hi ⟨rfl, hys⟩ v I oI C oC D m₂ h tk E' ⟨t, rfl⟩ hC hx F9 N9 off ne
    rw [Int.zero_add] at hx
    replace SP := SP.off3 off ne rfl
    have b1 : 0 ≤ bitOf n most i := Int.fmod_nonneg_of_pos _ (by omega)
    have b2 : bitOf n most i < 2 := Int.fmod_lt_of_pos _ (by omega)
    have hb : (mk [a, b]).cps[(((n.fdiv most).fdiv (2 ^ ((i : Nat) : Int).toNat)).fmod 2).toNat]? = some (if bitOf n most i = 0 then a else b) := by
      rw [Int.toNat_natCast]
      show #[a, b][(bitOf n most i).toNat]? = _
      rcases (by omega : bitOf n most i = 0 ∨ bitOf n most i = 1) with e | e <;> rw [e] <;> rfl
    have hb0 : 0 ≤ ((n.fdiv most).fdiv (2 ^ ((i : Nat) : Int).toNat)).fmod 2 := Int.fmod_nonneg_of_pos _ (by omega)
    have hi4 : (i : Int) < 4 := by omega
    k_steps
    rw [List.range_succ, List.map_append]
    exact hys.append' (.cons _ _ .nil)
  case fin =>
    rintro ys nw ⟨rfl, hys⟩
    have hlen : (((List.range (1 + n.fmod most).toNat).map fun j => mk [if bitOf n most j = 0 then a else b]).map (·.length)).sum ≤ 16000000 := by
      have : ∀ k : Nat, (((List.range k).map fun j => mk [if bitOf n most j = 0 then a else b]).map (·.length)).sum = k := by
        intro k
        induction k with
        | zero => rfl
        | succ k ih => rw [List.range_succ, List.map_append, List.map_append, List.sum_append, ih]; rfl
      rw [this]; omega
    have ew : wordL a b n most = ((List.range (1 + n.fmod most).toNat).map fun j => mk [if bitOf n most j = 0 then a else b]).flatMap fun y => y.cps.toList := by
      unfold wordL
      generalize List.range (1 + n.fmod most).toNat = l
      induction l with
      | nil => rfl
      | cons c l ih => rw [List.map_cons, List.map_cons, List.flatMap_cons, ih]; rfl
    rw [ew] at hret
    k_steps
    exact hret _ _ _ (by k_asm) (drop (by k_asm) fun p hp => List.mem_append_right _ hp)
end
end
end
section
open PySem PySem.W PySem.Calls PyProof.Rows
local macro_rules | `(tactic| walk_at "exec For Name Name cons nil") => `(tactic| (k_here; (rename Fr _ _ _ _ => lF'); (with_unfolding_all refine' For_invVF lF' ?k1 ?k2 ?_; (case k1 | k2 => exact rfl); k_whole)))
local macro_rules | `(tactic| walk_at "exec For Name Call cons nil") => `(tactic| (k_here; (rename Fr _ _ _ _ => lF'); (with_unfolding_all refine' For_invVF lF' ?k1 ?k2 ?_; (case k1 | k2 => exact rfl); k_whole)))
section
open PySem PySem.W PyProof.Rows
local macro_rules | `(tactic| walk_at "mine pad") => `(tactic| fail)
theorem Mine.rst_C3 : True ∧ True := by
  w_top off
  first | (walk1; all_goals exact True.intro) | exact ⟨True.intro, True.intro⟩
end
section
open PySem PySem.W PySem.Calls PyProof.Rows
section
def inH (c : Nat) : Bool := !(Builtin.Str.occurrences (Str.ofString "#Mz") ⟨#[c]⟩ 0 (Str.ofString "#Mz").length 1).isEmpty
def encV (sg : Str) (bare : Int) (c : Nat) : List Nat := if inH c && decide ((bare.fdiv (2 ^ (Txt.find sg ⟨#[c]⟩).toNat)).fmod 2 = 1) then [c] else [92, c]
section
local macro_rules | `(tactic| walk_at "pyIter str") => `(tactic| refine hold ?_)
local macro_rules | `(tactic| walk_at "call builtin:str.index") => `(tactic| (refine index_is rfl _ rfl (by assumption) ?_))
local macro_rules | `(tactic| walk_at "call builtin:str.join") => `(tactic| (k_here; (refine joinL (News.isList (by k_asm) (by k_mem)) (by assumption) (by assumption) ?_); intro t9 k9))
theorem bs (c : Nat) : (Str.ofString "\\" ++ ⟨#[c]⟩ : Str) = mk [92, c] := by
  apply Str.ext'
  rw [Str.cps_append, show (Str.ofString "\\").cps = #[92] from by decide +kernel]
  rfl
theorem take_snoc {l : List Nat} {i c : Nat} (h : l[i]? = some c) : l.take (i + 1) = l.take i ++ [c] := by
  rw [List.take_add_one, h]; rfl
theorem written_spec (w : World) (x sg : Str) (bare : Int) (tx t2 t3 : Tok) (hx : ∀ c ∈ x.cps, 0 ≤ Txt.find sg ⟨#[c]⟩ ∧ Txt.find sg ⟨#[c]⟩ < 2) (hsz : x.length < 1000000) : Spec w 700 3000 96 [Value.str x tx, .str sg t2, .int bare t3] (fun t => Value.str (mk (x.cps.toList.flatMap (encV sg bare))) t) := by
  intro p loose mean mg mb rest cn cs a9 ccd cl outer A₀ base h₀ L m s Q E B F X N T hk hret
  refine wpAny_call ?_
  have N0 : News h₀ L s.heap ([] ++ rest) := N
  have sep := apart_nil rest
  walk_at "mine enter"
  intro g L' h₁ F' N' B' X' T' kp l1
  (try dsimp only); (try k_fold)
  k_steps
  refine Hold.out ?_
  refine' for_str (m₀ := ?M) (news := [(?LP, _)]) (fun i m₁ news₁ => (∃ u : Str → Option Value, m₁ = fun z => if z = Str.ofString "sign" then u z else if z = Str.ofString "plain" then u z else (?M : Str → Option Value) z) ∧ ∃ ys k, news₁ = [(?LP, W.listOf ys.toArray k)] ∧ StrsAre ys ((x.cps.toList.take i).map fun c => mk (encV sg bare c)) ∧ ys.length = i) rfl ?F ?N ?j ?t ?d
  case F => k_asm
  case N => k_asm
  case j => exact ⟨⟨_, forget2 fun _ _ _ => rfl⟩, [], _, rfl, .nil, rfl⟩
  case t =>
    rintro I lI lL i c u m₁ news₁ h tk oI hi ⟨⟨u', rfl⟩, ys, k, rfl, hys, hyl⟩ off F9 N9
    have hc := hx c (Array.mem_of_getElem? hi)
    obtain ⟨hc0, hc1⟩ := hc
    have hil : i < x.length := (Array.getElem?_eq_some_iff.mp hi).1
    k_lt lI
    (try dsimp only); (try k_fold)
    have hi' : x.cps.toList[i]? = some c := by rw [Array.getElem?_toList]; exact hi
    k_steps
    · rename (List.isEmpty _ = true) => hb
      have he : encV sg bare c = [92, c] := by unfold encV inH; rw [hb]; rfl
      rename News _ _ _ _ => NN
      rw [List.push_toArray, bs] at NN
      refine' TurnEnd.next ?kF NN [(_, _)] ?kS ?off ⟨⟨_, forget2 fun z hz hz2 => ?_⟩, _, _, rfl, ?_, ?_⟩
      case kF => k_asm
      case kS => walk_at "mine sub"
      case off => intro p hp; rw [List.mem_singleton.mp hp]; exact Nat.ne_of_lt lI
      · simp only [hz, hz2, if_false]
      · rw [take_snoc hi', List.map_append]
        refine hys.append' ?_
        simp only [List.map_cons, List.map_nil, he]
        exact .cons _ _ .nil
      · simp [hyl]
    · rename (List.isEmpty _ = false) => hb
      rename (Int.fmod _ _ = 1) => hd
      have he : encV sg bare c = [c] := by unfold encV inH; rw [hb, hd]; rfl
      rename News _ _ _ _ => NN
      rw [List.push_toArray] at NN
      refine' TurnEnd.next ?kF NN [(_, _)] ?kS ?off ⟨⟨_, forget2 fun z hz hz2 => ?_⟩, _, _, rfl, ?_, ?_⟩
      case kF => k_asm
      case kS => walk_at "mine sub"
      case off => intro p hp; rw [List.mem_singleton.mp hp]; exact Nat.ne_of_lt lI
      · simp only [hz, hz2, if_false]
      · rw [take_snoc hi', List.map_append]
        refine hys.append' ?_
        simp only [List.map_cons, List.map_nil, he]
        exact .cons _ _ .nil
      · simp [hyl]
    · rename (List.isEmpty _ = false) => hb
      rename ¬ (Int.fmod _ _ = 1) => hd
      have he : encV sg bare c = [92, c] := by unfold encV inH; rw [hb, decide_eq_false hd]; rfl
      rename News _ _ _ _ => NN
      rw [List.push_toArray, bs] at NN
      refine' TurnEnd.next ?kF NN [(_, _)] ?kS ?off ⟨⟨_, forget2 fun z hz hz2 => ?_⟩, _, _, rfl, ?_, ?_⟩
      case kF => k_asm
      case kS => walk_at "mine sub"
      case off => intro p hp; rw [List.mem_singleton.mp hp]; exact Nat.ne_of_lt lI
      · simp only [hz, hz2, if_false]
      · rw [take_snoc hi', List.map_append]
        refine hys.append' ?_
        simp only [List.map_cons, List.map_nil, he]
        exact .cons _ _ .nil
      · simp [hyl]
  case d =>
    rintro m₁ news₁ h tk ⟨⟨u', rfl⟩, ys, k, rfl, hys, hyl⟩ F9 N9
    rw [show x.cps.size = x.cps.toList.length from by simp, List.take_length] at hys
    have hlen : ((x.cps.toList.map fun c => mk (encV sg bare c)).map (·.length)).sum ≤ 16000000 := by
      have : ∀ l : List Nat, ((l.map fun c => mk (encV sg bare c)).map (·.length)).sum ≤ 2 * l.length := by
        intro l
        induction l with
        | nil => exact Nat.le_refl _
        | cons c l ih =>
          rw [List.map_cons, List.map_cons, List.sum_cons, List.length_cons, mk_len]
          have : (encV sg bare c).length ≤ 2 := by unfold encV; split <;> simp
          omega
      have h1 := this x.cps.toList
      have h2 : x.cps.toList.length = x.length := by simp [PySem.Str.length]
      omega
    have ew : x.cps.toList.flatMap (encV sg bare) = (x.cps.toList.map fun c => mk (encV sg bare c)).flatMap fun y => y.cps.toList := by
      rw [List.flatMap_map]
    rw [ew] at hret
    (try dsimp only); (try k_fold)
    k_steps
    exact hret _ _ _ (by k_asm) (drop (by k_asm) fun p hp => List.mem_append_right _ hp)
end
end
end
section
open PySem PySem.W PyProof.Rows
local macro_rules | `(tactic| walk_at "mine pad") => `(tactic| fail)
theorem Mine.rst_C4 : True ∧ True := by
  w_top off
  first | (walk1; all_goals exact True.intro) | exact ⟨True.intro, True.intro⟩
end
section
open PySem PySem.W PySem.Calls PyProof.Rows
section
section
local macro_rules | `(tactic| walk_at "pyIter ref") => `(tactic| refine hold ?_)
inductive NumRet (v : Value) (news' : List (Addr × Obj)) : Prop
  | mk (r : Addr) (a b c : Int) (ta tb tc : Tok) (k : Nat) (ev : v = .ref r) (en : news' = [(r, W.listOf #[.int a ta, .int b tb, .int c tc] k)]) : NumRet v news'
inductive NumJ (m : Str → Option Value) (LP : Addr) (m₁ : Str → Option Value) (news₁ : List (Addr × Obj)) : Prop
  | mk (u : Str → Option Value) (em : m₁ = fun z => if z = Str.ofString "place" then u z else m z) (a b c : Int) (ta tb tc : Tok) (k : Nat) (en : news₁ = [(LP, W.listOf #[.int a ta, .int b tb, .int c tc] k)]) : NumJ m LP m₁ news₁
theorem numbers_spec (w : World) (ls : Addr) (vs : List Value) (ns : List Int) (hi : IntsAre vs ns) (hn : ns.length ≤ 63) :
    SpecR w 700 3000 77 [Value.ref ls] [] (fun g => g.IsList ls vs.toArray)
    NumRet := by
  intro p loose mean mg mb rest cn cs a9 ccd cl outer A₀ base h₀ L m s Q E B F X N sep T hk hold9 hret
  refine wpAny_call ?_
  walk_at "mine enter"
  intro g L' h₁ F' N' B' X' T' kp l1
  generalize s.toks + List.length _ = tk0
  have hl : g.IsList ls vs.toArray := by
    obtain ⟨o, ho, r⟩ := hold9
    exact ⟨o, kp _ _ ho (List.not_mem_nil), r⟩
  have hln := hi.length
  (try dsimp only); (try k_fold)
  k_steps
  refine Hold.out ?_
  have hl60 : (List.take 60 ns).length ≤ ns.length := by rw [List.length_take]; omega
  rename News _ _ _ _ => NN
  have NN2 := drop (news := [_]) NN (fun p hp => List.mem_cons_of_mem _ hp)
  refine' for_range (m₀ := ?M) (news := [(?LP, _)]) (List.take 60 ns).length (fun _ => NumJ ?M ?LP) rfl ?r ?sm ?sz ?F NN2 ?j ?t ?d
  case r => assumption
  case F => k_asm
  case sm => exact small_up (by omega)
  case sz => exact size_up
  case j => exact ⟨_, forget1 fun _ _ => rfl, _, _, _, _, _, _, _, rfl⟩
  case t =>
    rintro I lI lL i u m₁ news₁ h tk oI hi9 ⟨u', rfl, a, b, c, ta, tb, tc, k, rfl⟩ off F9 N9
    rw [Int.zero_add, Int.mul_one] at F9
    k_lt lI
    have f0 : 0 ≤ (i : Int).fmod 3 := Int.fmod_nonneg_of_pos _ (by decide)
    have f1 : (i : Int).fmod 3 < 3 := Int.fmod_lt_of_pos _ (by decide)
    have hin : (i : Int) < ns.length := by omega
    (try dsimp only); (try k_fold)
    k_steps
    rename News _ _ _ _ => NN
    refine' TurnEnd.next ?kF NN [(_, _)] ?kS ?off ⟨_, forget1 fun z hz => ?_, _, _, _, _, _, _, _, rfl⟩
    case kF => k_asm
    case kS => walk_at "mine sub"
    case off => intro p hp; rw [List.mem_singleton.mp hp]; exact Nat.ne_of_lt lI
    simp only [hz, if_false]
  case d =>
    rintro m₁ news₁ h tk ⟨u', rfl, a, b, c, ta, tb, tc, k, rfl⟩ F9 N9
    (try dsimp only); (try k_fold)
    k_steps
    refine' endR hret ⟨_, _, _, _, _, _, _, _, rfl, rfl⟩ ?kF ?kN ?kA ?kS; walk_at "mine end"
end
end
end
section
open PySem PySem.W PyProof.Rows
local macro_rules | `(tactic| walk_at "mine pad") => `(tactic| fail)
theorem Mine.rst_C5 : True ∧ True := by
  w_top off
  first | (walk1; all_goals exact True.intro) | exact ⟨True.intro, True.intro⟩
end
section
open PySem PySem.W PySem.Calls PyProof.Rows
section

local macro_rules | `(tactic| walk_at "mine call") => `(tactic| ((case k1 | k2 | k3 | k4 | k5 => k_asm); (case k6 => first | exact rfl | assumption); (case k7 => exact rfl); (case k8 | k9 => exact Nat.le_of_ble_eq_true rfl); (case k10 => exact rfl); k_whole; intro t9 h9 tk9 F9 N9; (try dsimp only); (try k_sweep)))
local macro_rules | `(tactic| walk_at "call ref") => `(tactic| (k_here; (with_reducible show wpAny _ _ (call (Value.ref 21) _) _ _ _); k_dflt (refine' Spec.out (strcoll_spec _ _ _ _ _) ?k1 ?k2 ?k3 ?k4 ?k5 ?k6 ?k7 ?k8 ?k9 ?k10 ?_; walk_at "mine call")))
section
local macro_rules | `(tactic| walk_at "pyIter ref") => `(tactic| refine hold ?_)
local macro_rules | `(tactic| walk_at "call builtin:len") => `(tactic| (k_here; (with_reducible show wpAny _ _ (call (Value.builtin "len") [Value.str _ _]) _ _ _); (refine lenMk (by omega) ?_)))
local macro_rules | `(tactic| walk_at "subscriptTail Name Slice str ref") => `(tactic| (k_here; (with_reducible rename Fr _ _ _ _ => F'); (with_reducible rename News _ _ _ _ => N'); (refine sliceFromT (s := ⟨_, _, _, _, _⟩) F' N' (by omega) ?_); intro h9 t9 k9 F9 N9))
theorem map4 {a b c d : Str} {va vb : Option Value} {m m₀ : Str → Option Value} (hab : b ≠ a) (ha : m a = va) (hb : m b = vb) (h : ∀ z, z ≠ a → z ≠ b → z ≠ c → z ≠ d → m z = m₀ z) :
    m = fun z => if z = a then va else if z = b then vb else if z = c then m z else if z = d then m z else m₀ z := by
  funext z
  by_cases h1 : z = a
  · subst h1; simp [ha]
  · by_cases h2 : z = b
    · subst h2; simp [hab, hb]
    · by_cases h3 : z = c
      · rw [if_neg h1, if_neg h2, if_pos h3]
      · by_cases h4 : z = d
        · rw [if_neg h1, if_neg h2, if_neg h3, if_pos h4]
        · simp [h1, h2, h3, h4, h z h1 h2 h3 h4]
local macro_rules | `(tactic| walk_at "mine map4") => `(tactic| (refine' map4 ?q1 ?q2 ?q3 fun z z1 z2 z3 z4 => ?q4; (case q2 | q3 => rfl); (case q1 => decide); (case q4 => simp only [z1, z2, z3, z4, if_false])))
def readStep (x y mark : List Nat) (below : Int) (st : List Nat × Int) : List Nat × Int :=
  if collS (mk st.1) (mk mark) = -1 then (st.1.drop (if below = 0 then x else y).length, 2 * st.2 + below) else (st.1.drop (if 1 - below = 0 then x else y).length, 2 * st.2 + (1 - below))
def readN (x y mark : List Nat) (below : Int) (r : List Nat) : Nat → List Nat × Int
  | 0 => (r, 0)
  | n + 1 => readStep x y mark below (readN x y mark below r n)

theorem itemB {prog : Program} {w : World} {A : Around} {E : Value → Shared → Prop} {s : Shared} {value slice : PySem.Expr} {l : Addr} {x y : List Nat} {tx ty : Tok} {e : Int} {u : Tok} {Q : Value → Shared → Prop}
    (hl : s.heap.IsList l [Value.str (mk x) tx, .str (mk y) ty].toArray) (h0 : 0 ≤ e) (h1 : e ≤ 1) (h : ∀ t, Q (.str (mk (if e = 0 then x else y)) t) s)
    (hs : subscripted slice false (.ref l) (.int e u) = operate [.ref l, .int e u] (getItem (.ref l) (.int e u)) := by with_unfolding_all rfl) :
    wpAny (model prog w) A (subscriptTail value slice (.ref l) (.int e u)) Q E s := by
  rcases (by omega : e = 0 ∨ e = 1) with rfl | rfl
  · exact tail_any hl.typeIs slot_list_getitem.lookup (wpAny_getItem_list hl h0 (by omega) rfl (h tx)) hs
  · exact tail_any hl.typeIs slot_list_getitem.lookup (wpAny_getItem_list hl h0 (by omega) rfl (h ty)) hs
local macro_rules | `(tactic| walk_at "subscriptTail Name Name ref int") => `(tactic| (k_here; (refine' itemB ?k1 ?k2 ?k3 ?_; (case k1 => exact Fr.lst (by k_asm) (by assumption)); (case k2 | k3 => omega)); intro t9))
theorem read_spec (w : World) (b : Int) (hb0 : 0 ≤ b) (hb1 : b ≤ 1) (r x y mark : List Nat) (pa : Addr) (tr t2 tx ty tm : Tok) (hr : r.length < 1000000) (hx : x.length < 1000000) (hy : y.length < 1000000) :
    SpecR w 700 3000 124 [Value.str (mk r) tr, .ref pa, .str (mk mark) tm, .int b t2] [] (fun g => g.IsList pa [.str (mk x) tx, .str (mk y) ty].toArray)
    (fun v news' => ∃ t, v = .int (readN x y mark b r 3).2 t ∧ news' = []) := by
  have hp0 : (if b = 0 then x else y).length < 1000000 := by split <;> assumption
  have hp1 : (if 1 - b = 0 then x else y).length < 1000000 := by split <;> assumption
  intro p loose mean mg mb rest cn cs a9 ccd cl outer A₀ base h₀ L m s Q E B F X N sep T hk hold9 hret
  refine wpAny_call ?_
  walk_at "mine enter"
  intro g L' h₁ F' N' B' X' T' kp l1
  generalize s.toks + List.length _ = tk0
  refine opq fun Q9 hq9 => ?_
  replace F' : Fr g L' h₁ (fun y9 => List.lookup y9 [(Str.ofString "below", .int b t2), (Str.ofString "mark", .str (mk mark) tm), (Str.ofString "pair", .ref pa), (Str.ofString "rest", .str (mk r) tr)]) := F'
  have hl : g.IsList pa [.str (mk x) tx, .str (mk y) ty].toArray := by
    obtain ⟨o, ho, r⟩ := hold9
    exact ⟨o, kp _ _ ho (List.not_mem_nil), r⟩
  (try dsimp only); (try k_fold)
  k_steps
  refine Hold.out ?_
  refine' for_range (m₀ := ?M) (news := []) 3 (fun i m₁ news₁ => (∃ (u : Str → Option Value) (t4 t5 : Tok), m₁ = fun z => if z = Str.ofString "rest" then some (.str (mk (readN x y mark b r i).1) t4) else if z = Str.ofString "number" then some (.int (readN x y mark b r i).2 t5) else if z = Str.ofString "turn" then u z else if z = Str.ofString "figure" then u z else (?M : Str → Option Value) z) ∧ news₁ = [] ∧ (readN x y mark b r i).1.length < 1000000) rfl ?r ?sm ?sz ?F ?N ?j ?t ?d
  case r => assumption
  case F => k_asm
  case N => k_asm
  case sm => decide
  case sz => decide
  case j =>
    refine ⟨⟨?u, tr, tk0, ?_⟩, rfl, hr⟩
    case u => exact fun z => if z = Str.ofString "number" then none else List.lookup z [(Str.ofString "below", .int b t2), (Str.ofString "mark", .str (mk mark) tm), (Str.ofString "pair", .ref pa), (Str.ofString "rest", .str (mk r) tr)]
    funext z
    by_cases h1 : z = Str.ofString "rest"
    · subst h1; rfl
    · by_cases h2 : z = Str.ofString "number"
      · subst h2; rfl
      · simp only [h1, h2, if_false]; (repeat' split) <;> rfl
  case t =>
    rintro I lI lL i u m₁ news₁ h tk oI hi9 ⟨⟨u', t4, t5, rfl⟩, rfl, hlen⟩ off F9 N9
    rw [Int.zero_add, Int.mul_one] at F9
    have hnext : readN x y mark b r (i + 1) = readStep x y mark b (readN x y mark b r i) := rfl
    rw [hnext]
    generalize readN x y mark b r i = st at *
    obtain ⟨r1, n1⟩ := st
    refine opq fun Q8 hq8 => ?_
    (try dsimp only at *); (try k_fold)
    k_steps
    all_goals (refine hq8 _ _ ?_)
    · rename (_ - _ = (-1 : Int)) => hb
      have hs : readStep x y mark b (r1, n1) = (r1.drop (if b = 0 then x else y).length, 2 * n1 + b) := by
        unfold readStep; rw [if_pos (show collS (mk r1) (mk mark) = -1 from hb)]
      rw [hs]
      refine' TurnEnd.next ?kF ?kN [] ?kS (fun p hp => nomatch hp) ⟨⟨?u, ?t4, ?t5, ?mm⟩, rfl, ?ll⟩
      case kF => k_asm
      case kN => k_asm
      case kS => walk_at "mine sub"
      case mm => walk_at "mine map4"
      case ll => simp only [List.length_drop]; omega
    · rename (_ - _ ≠ (-1 : Int)) => hb
      have hs : readStep x y mark b (r1, n1) = (r1.drop (if 1 - b = 0 then x else y).length, 2 * n1 + (1 - b)) := by
        unfold readStep; rw [if_neg (show ¬ collS (mk r1) (mk mark) = -1 from hb)]
      rw [hs]
      refine' TurnEnd.next ?kF ?kN [] ?kS (fun p hp => nomatch hp) ⟨⟨?u2, ?t42, ?t52, ?mm⟩, rfl, ?ll⟩
      case kF => k_asm
      case kN => k_asm
      case kS => walk_at "mine sub"
      case mm => walk_at "mine map4"
      case ll => simp only [List.length_drop]; omega
  case d =>
    rintro m₁ news₁ h tk ⟨⟨u', t4, t5, rfl⟩, rfl, hlen⟩ F9 N9
    (try dsimp only); (try k_fold)
    k_steps
    refine hq9 _ _ ?_
    k_steps
    refine' endR hret ⟨_, rfl, rfl⟩ ?kF ?kN ?kA ?kS; walk_at "mine end"
end
end
end
section
open PySem PySem.W PySem.Calls PyProof.Rows
section
theorem wpAny_callBorrowed {M : Model} {A : Around} {E : Value → Shared → Prop} {s : Shared} {f : Value} {pos : List Value} {Q : Value → Shared → Prop}
    (hc : codeAny M A (.call f ⟨pos, []⟩) (fun r s' => match r with | .ok (.ret v) => Q v s' | .ok _ => False | .error e => E e s') s) :
    wpAny M A (callBorrowed f pos) Q E s := fun Γ p hΓ => by
  unfold callBorrowed
  rw [Sem.wp_call]
  refine wpCode_mono (fun r s' h => ?_) (hc _ p rfl (hΓ.enter _ none p (by intro x; cases x)))
  cases r with
  | error e => exact h
  | ok f => cases f with
    | ret v => exact h
    | _ => exact h.elim
theorem cit_slot_next : Slot "callable_iterator" "__next__" "callable_iterator.__next__" :=
  .of (owner := "callable_iterator") (n := "__next__") (by rw [typeLookup_type, builtinLookup_eq_fast]; kernel_rfl) (by decide +kernel) (by decide +kernel) (by decide +kernel)
    (by first | exact .inl (by decide +kernel) | exact .inr (by decide +kernel)) (by rw [isSubtype_type]; kernel_rfl)
theorem cit_entry_next : entryFor table "callable_iterator.__next__" = some Builtin.«callable_iterator.__next__» := entryFor_of_fast (by kernel_rfl)
theorem cit_args_next (a : Value) : argsOk "callable_iterator.__next__" ⟨[a], []⟩ := by unfold argsOk; kernel_rfl

abbrev citObj (f sent : Value) (e : Bool) : Obj := { cls := .type "callable_iterator", data := .fields #[f, sent, .bool e] }

section
variable {prog : Program} {w : World} {A : Around} {E : Value → Shared → Prop} {s : Shared} {it bm f : Addr} {self : Value}

theorem borrows {Q : Bool → Shared → Prop} {fo : Obj} {fd : FuncData} (hbm : s.heap.get? bm = some (methodObj (.ref f) self)) (hf : s.heap.get? f = some fo) (hfd : fo.data = .func fd) (h : Q true s) : wpAny (model prog w) A (borrowsExactly (.ref bm)) Q E s := by
  unfold borrowsExactly
  refine wpAny_bind (wpAny_load hbm ?_)
  show wpAny _ _ (load f >>= _) _ _ _
  refine wpAny_bind (wpAny_load hf ?_)
  rw [hfd]
  exact wpAny_pure h

theorem stopIt {α : Type} {Q : α → Shared → Prop} (hh : A.handled = none)
    (h : ∀ h' e, (∀ b o, s.heap.get? b = some o → h'.get? b = some o) → ({ s with heap := h' } : Shared).TypeIs (.ref e) "StopIteration" → E (.ref e) { s with heap := h' }) : wpAny (model prog w) A (Builtin.SmallTypes.stopIteration : Sem α) Q E s := by
  show wpAny _ _ (newExc (.type "StopIteration") [] >>= _) _ _ _
  refine wpAny_bind ?_
  simp only [newExc, newTuple]
  refine wpAny_bind (wpAny_newObj_type ?_ (by size_fits))
  refine wpAny_bind (m := firstArgMember _ _) (wpAny_of_eq (a := Value.none) (by first | rfl | (simp only [firstArgMember]; rfl)) ?_)
  refine wpAny_newObj_type ?_ (by size_fits)
  simp only [raiseNew]
  refine wpAny_bind (wpAny_handled ?_)
  rw [show A.handled = none from hh]
  refine wpAny_bind (wpAny_pure (wpAny_throw ?_))
  exact h _ _ (fun b o e => Heap.get?_push_of_some _ (Heap.get?_push_of_some _ e)) ⟨_, Heap.get?_push_size _ rfl, rfl⟩

def CitEnd (it bm f : Addr) (self : Value) (te : Tok) (Q : Option Value → Shared → Prop) (r : Result) (s' : Shared) : Prop := match r with
  | .ok (.ret (.str x t)) => s'.heap.get? it = some (citObj (.ref bm) (.str (mk []) te) false) ∧ s'.heap.get? bm = some (methodObj (.ref f) self) ∧ (∃ fo fd, s'.heap.get? f = some fo ∧ fo.data = .func fd) ∧
      if x = mk [] then (∀ h', h'.get? it = some (citObj .none .none true) → (∀ b o, b ≠ it → s'.heap.get? b = some o → h'.get? b = some o) → Q none { s' with heap := h' }) else Q (some (.str x t)) s'
  | _ => False

theorem cit_next {Q : Option Value → Shared → Prop} {te : Tok} {fo : Obj} {fd : FuncData} (hh : A.handled = none) (hit : s.heap.get? it = some (citObj (.ref bm) (.str (mk []) te) false)) (hbm : s.heap.get? bm = some (methodObj (.ref f) self)) (hf : s.heap.get? f = some fo) (hfd : fo.data = .func fd)
    (h : codeAny (model prog w) A.in1 (.call (.ref f) ⟨[self], []⟩) (CitEnd it bm f self te Q) s) : wpAny (model prog w) A (pyNext (.ref it)) Q E s := by
  have hT : s.TypeIs (.ref it) "callable_iterator" := ⟨_, hit, rfl⟩
  unfold pyNext
  refine wpAny_bind (wpAny_attempt (wpAny_callSpecial?_slot (name := Str.ofString "__next__") hT cit_slot_next
    (wpAny_call_entry cit_slot_next hT cit_entry_next ?_ (cit_args_next _))))
  show wpAny _ _ (field (.ref it) 2 >>= _) _ _ s
  refine wpAny_bind (wpAny_field hit rfl (x := .bool false) rfl ?_)
  show wpAny _ _ (field (.ref it) 0 >>= _) _ _ s
  refine wpAny_bind (wpAny_field hit rfl (x := .ref bm) rfl ?_)
  refine wpAny_bind (wpAny_attempt ?_)
  unfold callOutOfASlot
  refine wpAny_bind (borrows hbm hf hfd ?_)
  refine wpAny_callBorrowed (method_call hbm (codeAny_mono h fun r s' hr => ?_))
  match r, hr with
  | .ok (.ret (.str x t)), hr =>
    obtain ⟨hit', hbm', ⟨fo', fd', hf', hfd'⟩, hq⟩ := hr
    dsimp only
    refine wpAny_bind (wpAny_field hit' rfl (x := .bool false) rfl ?_)
    show wpAny _ _ (field (.ref it) 1 >>= _) _ _ s'
    refine wpAny_bind (wpAny_field hit' rfl (x := .str (mk []) te) rfl ?_)
    refine wpAny_bind (wpAny_holding (PyProof.Rows.eqBool_str ?_))
    by_cases hx : x = mk []
    · subst hx
      rw [if_pos rfl] at hq
      rw [show ((mk [] : Str) == mk []) = true from by decide +kernel]
      refine wpAny_bind (wpAny_rule (wpAny_bind (wpAny_bind (wpAny_field hit' rfl (x := .ref bm) rfl ?_))))
      refine wpAny_bind (m := slotLetsGo _ _ _) ?_
      unfold slotLetsGo
      refine wpAny_bind (borrows hbm' hf' hfd' ?_)
      refine wpAny_pure ?_
      have o1 : (s'.heap.update it (Obj.mapFields (·.setIfInBounds 0 .none))).get? it = some (citObj .none (.str (mk []) te) false) := Heap.get?_update_self _ hit' rfl
      have o2 : ((s'.heap.update it (Obj.mapFields (·.setIfInBounds 0 .none))).update it (Obj.mapFields (·.setIfInBounds 1 .none))).get? it = some (citObj .none .none false) := Heap.get?_update_self _ o1 rfl
      have o3 : (((s'.heap.update it (Obj.mapFields (·.setIfInBounds 0 .none))).update it (Obj.mapFields (·.setIfInBounds 1 .none))).update it (Obj.mapFields (·.setIfInBounds 2 (.bool true)))).get? it = some (citObj .none .none true) := Heap.get?_update_self _ o2 rfl
      refine wpAny_bind (wpAny_setField hit' rfl (Nat.le_of_ble_eq_true rfl) ?_)
      refine wpAny_bind (wpAny_setField o1 rfl (Nat.le_of_ble_eq_true rfl) ?_)
      refine wpAny_setField o2 rfl (Nat.le_of_ble_eq_true rfl) ?_
      refine stopIt hh fun h' e hk hTe => ?_
      refine wpAny_bind (wpAny_isInstance (T := "StopIteration") (b := true) hTe isSubtype_stop ?_)
      refine wpAny_pure (hq h' (hk _ _ o3) fun b o hb e => hk _ _ ?_)
      rw [Heap.get?_update_ne _ _ _ _ hb, Heap.get?_update_ne _ _ _ _ hb, Heap.get?_update_ne _ _ _ _ hb]
      exact e
    · rw [if_neg hx] at hq
      rw [show (mk [] == x) = false from by
        rw [Bool.eq_false_iff]; intro e; exact hx (eq_of_beq e).symm]
      exact wpAny_pure ⟨_, rfl, wpAny_pure hq⟩

theorem cit_next_ended {Q : Option Value → Shared → Prop} (hh : A.handled = none) (hit : s.heap.get? it = some (citObj .none .none true))
    (h : ∀ h', (∀ b o, s.heap.get? b = some o → h'.get? b = some o) → Q none { s with heap := h' }) : wpAny (model prog w) A (pyNext (.ref it)) Q E s := by
  have hT : s.TypeIs (.ref it) "callable_iterator" := ⟨_, hit, rfl⟩
  unfold pyNext
  refine wpAny_bind (wpAny_attempt (wpAny_callSpecial?_slot (name := Str.ofString "__next__") hT cit_slot_next
    (wpAny_call_entry cit_slot_next hT cit_entry_next ?_ (cit_args_next _))))
  show wpAny _ _ (field (.ref it) 2 >>= _) _ _ s
  refine wpAny_bind (wpAny_field hit rfl (x := .bool true) rfl ?_)
  refine wpAny_bind (wpAny_rule ?_)
  refine wpAny_bind ?_
  refine stopIt hh fun h' e hk hTe => ?_
  refine wpAny_bind (wpAny_isInstance (T := "StopIteration") (b := true) hTe isSubtype_stop ?_)
  exact wpAny_pure (h h' hk)

theorem cit_slot_iter : Slot "callable_iterator" "__iter__" "callable_iterator.__iter__" :=
  .of (owner := "callable_iterator") (n := "__iter__") (by rw [typeLookup_type, builtinLookup_eq_fast]; kernel_rfl) (by decide +kernel) (by decide +kernel) (by decide +kernel)
    (by first | exact .inl (by decide +kernel) | exact .inr (by decide +kernel)) (by rw [isSubtype_type]; kernel_rfl)
theorem cit_entry_iter : entryFor table "callable_iterator.__iter__" = some Builtin.«dict_keyiterator.__iter__» :=
  entryFor_alias (id' := "dict_keyiterator.__iter__") (by kernel_rfl) rfl (by decide +kernel) (by kernel_rfl)
theorem cit_args_iter (a : Value) : argsOk "callable_iterator.__iter__" ⟨[a], []⟩ := by unfold argsOk; kernel_rfl
theorem cit_iter {Q : Value → Shared → Prop} {f9 s9 : Value} {e9 : Bool} (hit : s.heap.get? it = some (citObj f9 s9 e9)) (h : Q (.ref it) s) : wpAny (model prog w) A (pyIter (.ref it)) Q E s := by
  have hT : s.TypeIs (.ref it) "callable_iterator" := ⟨_, hit, rfl⟩
  refine wpAny_pyIter_slot hT cit_slot_iter (wpAny_call_entry cit_slot_iter hT cit_entry_iter ?_ (cit_args_iter _))
  show wpAny _ _ (ret (.ref it)) _ _ s
  exact wpAny_pure ⟨_, rfl, "callable_iterator", _, hT, cit_slot_next.lookup, h⟩
end
end
end
section
open PySem PySem.W PySem.Calls PyProof.Rows
open PySem.Builtin PySem.Builtin.ObjectAttr
section
theorem fn_slot_set : Slot "function" "__setattr__" "object.__setattr__" :=
  .of (owner := "object") (n := "__setattr__") (by rw [typeLookup_type, builtinLookup_eq_fast]; kernel_rfl) (by decide +kernel) (by decide +kernel) (by decide +kernel)
    (by first | exact .inl (by decide +kernel) | exact .inr (by decide +kernel)) (by rw [isSubtype_type]; kernel_rfl)
theorem fn_mro : mroOf (.type "function") = pure [.type "function", .type "object"] := by kernel_rfl
theorem fn_own : classOwn (.type "function") "__setattr__" = pure none := by
  show (pure (builtinOwn "function" "__setattr__") : Sem _) = _
  rw [builtinOwn_eq_fast]; kernel_rfl
theorem fn_passes (self : Value) : refuseLoop self "__setattr__" [.type "function", .type "object"] = pure () := by
  have h := PySem.F.store_object.passes self
  unfold refuseLoop at h ⊢
  rw [List.forIn_cons]
  simp only [show (("function" : String) == "_thread._local") = false from by decide, show (("function" : String) == "_pickle.Pickler" || ("function" : String) == "_pickle.Unpickler") = false from by decide, fn_own]
  exact h
theorem fn_noread : typeLookup (.type "function") "read" = pure none := by rw [typeLookup_type, builtinLookup_eq_fast]; kernel_rfl

abbrev oneDict (hs : Int) (name : Str) (t : Tok) (v : Value) : Obj := { cls := .type "dict", data := .dict #[⟨hs, .str name t, v⟩] 1 }
section
variable {prog : Program} {w : World} {A : Around} {E : Value → Shared → Prop} {s : Shared}
theorem fn_set {f : Addr} {fd : FuncData} {v : Value} {Q : Unit → Shared → Prop} (ho : s.heap.get? f = some { cls := .type "function", data := .func fd })
    (h : ∀ h' tk hs t, h'.get? f = some { cls := .type "function", dict := some s.heap.objs.size, data := .func fd } → h'.get? s.heap.objs.size = some (oneDict hs "read" t v) → (∀ b o, b ≠ f → s.heap.get? b = some o → h'.get? b = some o) → Q () { s with heap := h', toks := tk }) :
    wpAny (model prog w) A (setAttr (.ref f) "read" v) Q E s := by
  have hT : s.TypeIs (.ref f) "function" := ⟨_, ho, rfl⟩
  unfold setAttr
  refine wpAny_bind (wpAny_mkText ?_)
  have hT' : ({ s with toks := s.toks + 1 } : Shared).TypeIs (.ref f) "function" := hT
  refine wpAny_bind (wpAny_callSpecial?_slot (name := Str.ofString "__setattr__") hT' fn_slot_set (wpAny_call_entry fn_slot_set hT' PySem.F.store_object.entry ?_ (PySem.F.store_object.args _ _ _)))
  rw [osa_eq, refuse_eq]
  refine wpAny_bind (wpAny_bind (wpAny_typeOf hT' (wpAny_bind ?_)))
  rw [fn_mro]
  refine wpAny_pure ?_
  rw [fn_passes]
  refine wpAny_pure (wpAny_bind (wpAny_typeOf hT' (wpAny_bind ?_)))
  rw [fn_noread]
  refine wpAny_pure (wpAny_bind (wpAny_pure ?_))
  show wpAny _ _ (storeInOwnDict (.ref f) (.type "function") _ _ _ _) _ _ _
  unfold storeInOwnDict
  refine wpAny_bind (wpAny_pure ?_)
  show wpAny _ _ (ownDictForStores (.ref f) >>= _) _ _ _
  refine wpAny_bind ?_
  show wpAny _ _ (instanceDict f true) _ _ _
  unfold instanceDict
  refine wpAny_bind (wpAny_loadPart ho ?_)
  dsimp only
  rw [if_neg (show ¬ ((!true || !typeHasDict (.type "function")) = true) from by decide +kernel)]
  refine wpAny_bind (wpAny_alloc ?_)
  have ho' := Heap.get?_push_of_some ({ cls := .type "dict", data := .dict #[] } : Obj) ho
  refine wpAny_bind (wpAny_update ho' ?_)
  have hne : s.heap.objs.size ≠ f := Ne.symm (Nat.ne_of_lt (Heap.lt_size ho))
  have D0 : (s.heap.push ({ cls := .type "dict", data := .dict #[] } : Obj)).get? s.heap.objs.size = some { cls := .type "dict", data := .dict #[] } := Heap.get?_push_size _ rfl
  have D := (Heap.get?_update_ne _ _ _ (fun o : Obj => { o with dict := some s.heap.objs.size }) hne).trans D0
  have O := Heap.get?_update_self (fun o : Obj => { o with dict := some s.heap.objs.size }) ho' rfl
  refine wpAny_pure (wpAny_bind (wpAny_pure (wpAny_bind ?_)))
  unfold nsSet
  refine wpAny_bind (wpAny_bind (wpAny_askSetting (wpAny_pure (wpAny_bind (wpAny_mkText (wpAny_bind (wpAny_loadPart D ?_)))))))
  dsimp only
  rw [aRefKeyMayBeTheName_at, if_neg (show ¬ ((!(#[] : Array DictEntry).any (·.key.isStr (Str.ofString "read")) && (#[] : Array DictEntry).any (·.refKey)) = true) from by simp)]
  refine wpAny_updatePart D ?_
  have D' := fun hs t => Heap.get?_update_self (Obj.putName (Str.ofString "read") hs (.str (Str.ofString "read") t) v) D rfl
  have D2 : ∀ hs t, ((s.heap.push ({ cls := .type "dict", data := .dict #[] } : Obj)).update f (fun o => { o with dict := some s.heap.objs.size })).update s.heap.objs.size (Obj.putName (Str.ofString "read") hs (.str (Str.ofString "read") t) v) |>.get? s.heap.objs.size |> (· = some (oneDict hs (Str.ofString "read") t v)) := fun hs t => D' hs t
  refine wpAny_bind (wpAny_lookBehind (D2 _ _) (pastItsLine_dict (by show 1 ≤ sizeLine + 1; omega)) ?_)
  refine wpAny_pure ⟨_, rfl, wpAny_pure (h _ _ _ _ ?_ (D2 _ _) fun b o hb e => ?_)⟩
  · rw [Heap.get?_update_ne _ _ _ _ (Ne.symm hne)]; exact O
  · have hb2 : b ≠ s.heap.objs.size := Nat.ne_of_lt (Heap.lt_size e)
    rw [Heap.get?_update_ne _ _ _ _ hb2, Heap.get?_update_ne _ _ _ _ hb]
    exact Heap.get?_push_of_some _ e
end
end
end
section
open PySem PySem.W PySem.Calls PyProof.Rows
section
def IsFnD (h : Heap) (f D : Addr) (fd : FuncData) (md : Str → Option Value) : Prop := h.get? f = some { cls := .type "function", dict := some D, data := .func fd } ∧ h.Ns D md
theorem lk_fn_getattr : typeLookup (.type "function") "__getattr__" = pure none := by rw [typeLookup_type, builtinLookup_eq_fast]; kernel_rfl
theorem slot_fn_ga : Slot "function" "__getattribute__" "object.__getattribute__" :=
  .of (owner := "object") (n := "__getattribute__") (by rw [typeLookup_type, builtinLookup_eq_fast]; kernel_rfl) (by decide +kernel) (by decide +kernel) (by decide +kernel)
    (by first | exact .inl (by decide +kernel) | exact .inr (by decide +kernel)) (by rw [isSubtype_type]; kernel_rfl)
theorem canon_fn_ga : (Manifest.canonical "object.__getattribute__" != "object.__getattribute__") = false := by decide +kernel
theorem sub_fn_static : isSubtype (.type "function") (.type "staticmethod") = pure false := by rw [isSubtype_type]; kernel_rfl
theorem sub_fn_classm : isSubtype (.type "function") (.type "classmethod") = pure false := by rw [isSubtype_type]; kernel_rfl
theorem args_fn_ga (a b : Value) : argsOk "object.__getattribute__" ⟨[a, b], []⟩ := by unfold argsOk; kernel_rfl
section
variable {prog : Program} {w : World} {A : Around} {E : Value → Shared → Prop} {h : Heap} {g : Array GenState} {d : Drawn} {t : Nat} {os : OsState} {f D : Addr} {fd : FuncData} {md : Str → Option Value}
theorem fn_object_entry {name : Str} {tk : Tok} {v : Value} {Q : Fin → Shared → Prop} (hm : IsFnD h f D fd md) (hnm : typeLookup (.type "function") name = pure none) (hv : md name = some v)
    (hq : Q (.done (.ret v)) ⟨h, g, d, t, os⟩) : wpAny (model prog w) A (Builtin.«object.__getattribute__» ⟨[.ref f, .str name tk], []⟩) Q E ⟨h, g, d, t, os⟩ := by
  obtain ⟨hM, hD⟩ := hm
  have hT : (⟨h, g, d, t, os⟩ : Shared).TypeIs (.ref f) "function" := ⟨_, hM, rfl⟩
  have f1 := sub_fn_static
  have f2 := sub_fn_classm
  repeat (any_goals (first | assumption | with_reducible apply Flt.wpAny_nsGet_known | with_reducible apply Flt.wpAny_loadPart_known | wp_step))

theorem getMethod_fn {name : Str} {v : Value} {pl : Sem Bool} {Q : Value × List Value → Shared → Prop} (hm : IsFnD h f D fd md) (hnm : typeLookup (.type "function") name = pure none) (hv : md name = some v)
    (hh : handedOut v = pure v) (hq : Q (v, []) ⟨h, g, d, t + 1, os⟩) : wpAny (model prog w) A (getMethod (.ref f) name pl) Q E ⟨h, g, d, t, os⟩ := by
  have hM := hm.1
  have hT : (⟨h, g, d, t, os⟩ : Shared).TypeIs (.ref f) "function" := ⟨_, hM, rfl⟩
  have hT1 : (⟨h, g, d, t + 1, os⟩ : Shared).TypeIs (.ref f) "function" := ⟨_, hM, rfl⟩
  have f1 := slot_fn_ga.lookup
  have f2 := lk_fn_getattr
  have f4 := slot_fn_ga.bind (.ref f)
  unfold getMethod
  refine wpAny_bind (wpAny_specialOf hT f1 ?_)
  show wpAny _ A (if (Manifest.canonical "object.__getattribute__" != "object.__getattribute__") = true then _ else _) Q E _
  rw [canon_fn_ga, if_neg Bool.false_ne_true]
  refine wpAny_bind (wpAny_specialOf hT f2 ?_)
  refine wpAny_bind (wpAny_specialOf hT hnm ?_)
  repeat (any_goals (first | assumption | wp_step))
  refine codeAny_call_builtin slot_fn_ga.plain F.entry_object_getattribute (slot_fn_ga.check _ _ _ _ _ _ _ _ hT1 (args_fn_ga _ _) (fn_object_entry hm hnm hv ?_))
  repeat (any_goals (first | assumption | wp_step))
end
end
end
section
open PySem PySem.W PySem.Calls PyProof.Rows
local macro_rules | `(tactic| k_places) => `(tactic| k_dflt (refine' (?pf : Fnd ?pl ?pi ?py → nth ?pl ?pi = some ?py) ?px; (case px => ktn_lt); (case pf => (intro _; exact rfl))))
local macro_rules | `(tactic| k_mem) => `(tactic| first | (refine' mem_at ?mi ?mh; (case mh => k_places)) | fail "none")
local macro_rules | `(tactic| k_ne) => `(tactic| ((try dsimp only); first | (rename Dst _ => sp9; refine' Dst.ne ?ni ?nj sp9 ?na ?nb ?nc; (case na | nb => k_places); (case nc => k_dflt (exact rfl))) | (refine neN ?_; (try dsimp only); omega)))
local macro_rules | `(tactic| k_upd) => `(tactic| first | (rename Dst _ => sp9; refine' Upd.at ?ui sp9 ?ua ?uh ?ue; (case ua => k_dflt (exact rfl)); (case uh => k_places); (case ue => (dsimp only [setN]; k_dflt (exact rfl)))) | fail "none")
local macro_rules | `(tactic| k_updF) => `(tactic| first | (rename Dst _ => sp9; refine' UpdF.at ?ui sp9 ?ua ?uh ?ue; (case ua => k_dflt (exact rfl)); (case uh => k_places); (case ue => (dsimp only [setN]; k_dflt (exact rfl)))) | fail "none")
local macro_rules | `(tactic| got_up) => `(tactic| first | exact pick_nil | (refine' pick_cons ?pa ?pb; (case pa => k_places); (case pb => got_up)))
local macro_rules | `(tactic| walk_at "mine dst") => `(tactic| first | (refine' Dst.pick ?dl ?di ?dp ?dn; (case dl => assumption); (case dp => got_up); (case dn => k_dflt (exact rfl))) | fail "none")
local macro_rules | `(tactic| k_lt $h:ident) => `(tactic| first | (rename Dst _ => sp9; refine' absorb (Dst.up sp9 $h ?lb) ?lc; (case lb => k_dflt (exact rfl)); intro sp8; clear sp9) | fail "none")
local macro_rules | `(tactic| k_lt2 $h:ident) => `(tactic| first | (rename Dst _ => sp9; refine' absorb (Dst.up2 sp9 $h ?la ?lb) ?lc; (case la => assumption); (case lb => k_dflt (exact rfl)); intro sp8; clear sp9) | fail "none")
section
open PySem PySem.W PyProof.Rows
local macro_rules | `(tactic| walk_at "mine pad") => `(tactic| fail)
theorem Mine.rst_D4 : True ∧ True := by
  w_top off
  first | (walk1; all_goals exact True.intro) | exact ⟨True.intro, True.intro⟩
end
section
open PySem PySem.W PySem.Calls PyProof.Rows
section
theorem fn_setK {h₀ : Heap} {L f : Addr} {m : Str → Option Value} {news : List (Addr × Obj)} {g : Obj → List (Addr × Obj)} {prog : Program} {w : World} {A : Around} {E : Value → Shared → Prop} {s : Shared} {fd : FuncData} {v : Value} {Q : Unit → Shared → Prop}
    (F : Fr h₀ L s.heap m) (N : News h₀ L s.heap news) (U : UpdF f { cls := .type "function", data := .func fd } news g)
    (h : ∀ D hs t h' tk, Fr h₀ L h' m → News h₀ L h' ((D, oneDict hs "read" t v) :: g { cls := .type "function", dict := some D, data := .func fd }) → (∀ q ∈ news, q.1 < D) → Q () { s with heap := h', toks := tk }) :
    wpAny (model prog w) A (setAttr (.ref f) "read" v) Q E s := by
  obtain ⟨own, rest, rfl, hgr, h1, h2⟩ := U.split
  have hm := N (f, _) (List.mem_append_right _ (.head _))
  refine fn_set hm.1 fun h' tk hs t e1 e2 keep => ?_
  have hLs := F.ns.lt
  have fresh : h₀.get? s.heap.objs.size = none := Heap.get?_none_of_le (Nat.le_trans F.above (Nat.le_of_lt hLs))
  refine h s.heap.objs.size hs t h' tk ⟨F.ns.at' fun o e => keep _ _ hm.2.1.symm e, fun b o e => keep b o (fun q => by rw [q, hm.2.2] at e; cases e) (F.keep b o e), F.above⟩ (fun q hq => ?_) fun q hq => Heap.lt_size (N q hq).1
  rcases List.mem_cons.mp hq with rfl | hq
  · exact ⟨e2, Nat.ne_of_gt hLs, fresh⟩
  · rw [hgr] at hq
    rcases List.mem_append.mp hq with hq | hq
    · have n := N q (List.mem_append_left _ hq)
      exact ⟨keep _ _ (h1 q hq) n.1, n.2⟩
    · rcases List.mem_cons.mp hq with rfl | hq
      · exact ⟨e1, hm.2⟩
      · have n := N q (List.mem_append_right _ (.tail _ hq))
        exact ⟨keep _ _ (h2 q hq) n.1, n.2⟩
theorem hid_up {l : List Addr} {h g : Heap} (kp : ∀ b o, h.get? b = some o → b ∉ l → g.get? b = some o) : ∀ b o, (hideAll h l).get? b = some o → g.get? b = some o := fun b o e =>
  kp b o (of_hideAll _ e) fun q => by rw [hideAll_none _ q] at e; cases e
section
variable {prog : Program} {w : World} {A₀ A : Around} {s : Shared} {base h₀ : Heap} {outer : List Env} {L : Addr} {m mg mb : Str → Option Value} {env : Env} {need rest : List (Addr × Obj)} {K : Frag} {p : Program} {loose : List Str} {mean : ExcName → Option Value}
  {R : Result → Shared → Prop} {name qual : Str} {params : Arguments} {body : List Stmt} {scope : Scope} {cl : List (Str × Addr)} {doc pm ct : Value} {c' f : Addr} {args : Args} {binds : List (Str × Value)}
theorem code_nestS
    (B : Below A₀ base outer h₀) (F : Fr h₀ L s.heap m) (X₀ : K.In h₀) (N : News h₀ L s.heap (need ++ rest)) (sep : Apart need rest) (T : Top p loose mean mg mb h₀) (hA : A.frames = some (env :: outer)) (hf : env.frame = some L) (hke : env.scope.kind = .function)
    (ho : (f, fnMade name qual params body scope cl doc pm c' ct) ∈ need ++ rest) (hcd : s.heap.CodeRec (.ref c') qual) (hroom : A.depth < recursionLimit)
    (hbind : BindsTo s (fnX name qual params body scope cl .none .none doc pm none (.ref c') ct) args binds) (hloc : ∀ y ∈ binds, scope.names.lookup y.1 = some .local)
    (h : ∀ g L' h₁, Fr g L' h₁ (fun y => binds.reverse.lookup y) → News g L' h₁ need → Below A base (env :: outer) g → K.In g → Top p loose mean mg mb g → (∀ b o, s.heap.get? b = some o → b ∉ need.map (·.1) → g.get? b = some o) → (∀ p ∈ need, p.1 < L') →
      wpAny (model prog w) (A.deeper (envX qual scope L' f (.ref c') cl)) (execs body (envX qual scope L' f (.ref c') cl))
        (fun fl s' => LeaveS h₀ L m g rest R (match fl with | .ret v => v | _ => .none) s')
        (fun e s' => wpAny (model prog w) (A.deeper (envX qual scope L' f (.ref c') cl)) (leaving (envX qual scope L' f (.ref c') cl) e) (fun _ s'' => R (.error e) s'') (fun e' s'' => R (.error e') s'') s')
        { s with heap := h₁, toks := s.toks + binds.length })
    (hco : scope.isCoroutine = false) (hgen : scope.isGenerator = false) (hk : scope.kind = .function)
    (hcell : ∀ x ∈ scope.names, x.2 ≠ .cell) : codeAny (model prog w) A (.call (.ref f) args) R s :=
  callS_plain B F N sep T.nolimit hA hf hke (N _ ho).1 rfl hcd hroom hbind hloc (fun g L' h₁ F' N' B' st kp l => h g L' h₁ F' N' B' (X₀.keeps st) (T.keeps st) kp l) hcell hco hgen hk
end
local macro_rules | `(tactic| walk_at "mine enterN") => `(tactic| (k_dflt (refine' code_nestS ?k1 ?k2 ?k3 ?k4 ?kS ?k5 ?kA ?kF ?kK ?k6 ?k7 ?k8 ?k9 ?kB ?_ ?c2 ?c3 ?c4 ?c5; (case kA | kF => exact rfl); (case kK => first | exact rfl | assumption); (case k1 | k2 | k3 => k_asm); (case k4 | kS => assumption); (case k5 => k_asm); (case k6 => exact List.mem_append_left _ (by k_mem)); (case k7 => exact codeRec_news (by assumption) (List.mem_append_left _ (by k_mem)) (by assumption) (by assumption)); (case k8 => ktr_room); (case k9 => exact BindsTo.of_eq rfl); (case c5 => decide); (case kB => exact locs rfl); (case c2 | c3 | c4 => exact rfl); k_whole)))

abbrev Lt9 (a b : Addr) : Prop := @LT.lt Nat instLTNat a b
abbrev lexDict (w : World) (S P : Addr) (l : Int) (k1 k2 k3 k4 t1 t3 : Tok) : Obj := W.dictOf [⟨PyData.keyHash w.params (Str.ofString "lineno"), .str (Str.ofString "lineno") k1, .int l t1⟩, ⟨PyData.keyHash w.params (Str.ofString "instream"), .str (Str.ofString "instream") k2, .ref S⟩,
  ⟨PyData.keyHash w.params (Str.ofString "whitespace"), .str (Str.ofString "whitespace") k3, .str (Str.ofString "\n\t\r ") t3⟩, ⟨PyData.keyHash w.params (Str.ofString "pushback"), .str (Str.ofString "pushback") k4, .ref P⟩] 4
abbrev lexTab (c1 c : Addr) : Obj := tabObj (#[] ++ #[rawInt ((68 : Nat) : Int), rawInt ((13 : Nat) : Int), .ref c1] ++ #[rawInt ((70 : Nat) : Int), rawInt ((4 : Nat) : Int), .ref c])
def GiveOk (w : World) (x : List Nat) (at9 f : Addr) (gs : List (Addr × Obj)) : Prop := ∀ (p : Nat) (ta : Tok) (k : Nat) (t1 : Tok), p ≤ x.length →
  SpecR w 850 4500 f [.int 1 t1] ((at9, W.listOf #[.int p ta] k) :: gs) (fun _ => True) (fun v news' => ∃ t' ta' k', v = .str (mk ((x.drop p).take 1)) t' ∧ news' = (at9, W.listOf #[.int ((p:Int) + ((x.drop p).take 1).length) ta'] k') :: gs)
abbrev fnObj (fd : FuncData) : Obj := { cls := .type "function", data := .func fd }
/-- the lexer's objects, but for the place -/
inductive LexIs (w : World) (x : List Nat) (at9 lx : Addr) (l : Int) (pb : List Value) (c : Addr) (oc : Obj) (O : List (Addr × Obj)) : Prop
  | mk (D P S DS f cA cT : Addr) (oA oT : Obj) (fdf fdS : FuncData) (hs : Int) (tr k1 k2 k3 k4 t1 t3 : Tok) (kP : Nat)
    (eO : O = [(lx, W.instObj 59 D), (D, lexDict w S P l k1 k2 k3 k4 t1 t3), (P, W.listOf pb.toArray kP), (DS, oneDict hs (Str.ofString "read") tr (.ref f)), (S, { cls := .type "function", dict := some DS, data := .func fdS }), (f, fnObj fdf), (c, oc), (cA, oA), (cT, oT)])
    (hg : GiveOk w x at9 f [(f, fnObj fdf), (c, oc), (cA, oA), (cT, oT)]) (od : Dst (at9 :: O.map Prod.fst)) : LexIs w x at9 lx l pb c oc O
theorem lex_end {w : World} {x : List Nat} {h₀ h' : Heap} {L at9 : Addr} {m : Str → Option Value} {rest all : List (Addr × Obj)} {s : Shared} {Q : Value → Shared → Prop} {tk' : Nat} {Ret : Value → List (Addr × Obj) → Prop}
    {D P S DS f cA cT c lx : Addr} {oA oT oc oat : Obj} {fdf fdS : FuncData} {hs : Int} {tr k1 k2 k3 k4 t1 t3 : Tok} {kP : Nat} {pb : List Value} {l : Int} {tb : Obj}
    (ret : ∀ (v : Value) (news' : List (Addr × Obj)) (h' : Heap) (tk' : Nat), Ret v news' → Fr h₀ L h' m → News h₀ L h' (news' ++ rest) → Apart news' rest → Q v { s with heap := h', toks := tk' })
    (F : Fr h₀ L h' m) (N : News h₀ L h' (all ++ rest)) (A : Apart all rest)
    (sub : ∀ p ∈ (98, tb) :: (at9, oat) :: [(lx, W.instObj 59 D), (D, lexDict w S P l k1 k2 k3 k4 t1 t3), (P, W.listOf pb.toArray kP), (DS, oneDict hs (Str.ofString "read") tr (.ref f)), (S, { cls := .type "function", dict := some DS, data := .func fdS }), (f, fnObj fdf), (c, oc), (cA, oA), (cT, oT)], p ∈ all)
    (g : GiveOk w x at9 f [(f, fnObj fdf), (c, oc), (cA, oA), (cT, oT)]) (od : Dst [98, at9, lx, D, P, DS, S, f, c, cA, cT])
    (R : ∀ O, LexIs w x at9 lx l pb c oc O → Dst (98 :: at9 :: O.map Prod.fst) → Ret (.ref lx) ((98, tb) :: (at9, oat) :: O)) : Q (.ref lx) { s with heap := h', toks := tk' } :=
  endR ret (R _ ⟨D, P, S, DS, f, cA, cT, oA, oT, fdf, fdS, hs, tr, k1, k2, k3, k4, t1, t3, kP, rfl, g, od.tail⟩ od) F N A sub
section
local macro_rules | `(tactic| ktn_lt) => `(tactic| first | exact Fnd.z | (refine' Fnd.s ?fs; (case fs => ktn_lt)))
local macro_rules | `(tactic| walk_at "setAttr") => `(tactic| (k_here; (with_reducible show wpAny _ _ (setAttr (Value.ref _) _ (Value.ref _)) _ _ _); k_dflt (refine' fn_setK ?k1 ?k2 ?k3 ?_; (case k1 | k2 => k_asm); (case k3 => k_updF); k_whole); intro D9 hs9 t9 h' tk' F' N' l1; (try dsimp only at N'); (try k_lt l1)))

theorem slice_give {x : List Nat} {p : Nat} (h : p ≤ x.length) : Txt.slice (mk x) (some ([(p : Int)].getD (Int.toNat 0) 0)) (some ([(p : Int)].getD (Int.toNat 0) 0 + 1)) = mk ((x.drop p).take 1) := slice_one x p h
local macro_rules | `(tactic| walk_at "call builtin:len") => `(tactic| (k_here; (with_reducible show wpAny _ _ (call (Value.builtin "len") [Value.str (Txt.slice _ _ _) _]) _ _ _); (refine hold ?_)))
local macro_rules | `(tactic| walk_at "call builtin:len") => `(tactic| (k_here; (with_reducible show wpAny _ _ (call (Value.builtin "len") [Value.str (mk _) _]) _ _ _); (refine lenMk (by first | omega | assumption) ?_)))
inductive LexARet (w : World) (x : List Nat) (at9 : Addr) (oat : Obj) (v : Value) (news' : List (Addr × Obj)) : Prop
  | mk (lx c1 c : Addr) (oc : Obj) (O : List (Addr × Obj)) (vs : Array Value) (t : Tok) (ev : v = .ref lx) (en : news' = (98, lexTab c1 c) :: (at9, oat) :: O) (hO : LexIs w x at9 lx 1 [] c oc O) (h1 : oc.data = .fields vs) (h2 : vs[1]? = some (.str (Str.ofString "_law_lexer.<locals>._law_give") t)) (h3 : Dst (98 :: at9 :: O.map Prod.fst)) : LexARet w x at9 oat v news'
inductive LexBRet (w : World) (x : List Nat) (at9 : Addr) (oat oc : Obj) (c1 c : Addr) (v : Value) (news' : List (Addr × Obj)) : Prop
  | mk (lx : Addr) (O : List (Addr × Obj)) (ev : v = .ref lx) (en : news' = (98, lexTab c1 c) :: (at9, oat) :: O) (hO : LexIs w x at9 lx 1 [] c oc O) (h3 : Dst (98 :: at9 :: O.map Prod.fst)) : LexBRet w x at9 oat oc c1 c v news'
theorem lex_a (w : World) (x : List Nat) (at9 : Addr) (t1 : Tok) (oat : Obj) (hsz : x.length < 1000000) (h98 : Dst [98, at9]) : SpecR w 700 3000 103 [.str (mk x) t1, .ref at9] [(98, tabObj #[]), (at9, oat)] (fun g => CodeHd g 102 98) (LexARet w x at9 oat) := by
  intro p loose mean mg mb rest cn cs a9 ccd cl outer A₀ base h₀ L m s Q E B F X N sep T hk hold9 hret
  refine wpAny_call ?_
  walk_at "mine enterC"
  intro g L' h₁ tk' cells F' N' Y' B' X' T' kp l1
  have C9 := hold9.keeps (hid_up kp)
  k_cells Y'
  have SP := Dst.cellsN 2 h98 l1 rfl
  clear l1 h98
  dsimp only [List.cons_append, List.nil_append] at N'
  replace SP : Dst [L' + 1 + 1, L' + 1, 98, at9] := SP
  (try dsimp only); (try k_fold)
  k_steps
  rename News _ _ _ _ => NN
  rename Apart _ _ => AA
  rename Dst _ => SP
  refine' lex_end (x := x) (pb := []) hret (by k_asm) NN AA (sub_at [10, 11, 1, 2, 0, 3, 6, 4, 5, 8, 9] rfl) ?g ?od ?R
  case R => exact fun O hO hd => ⟨_, _, _, _, _, _, _, rfl, rfl, hO, by assumption, by assumption, hd⟩
  case od => exact SP.pick [10, 11, 1, 2, 0, 3, 6, 4, 5, 8, 9] rfl rfl
  case g =>
    clear hret F N B T X sep hk hold9 kp NN AA
    repeat (rename Fr _ _ _ _ => F1; clear F1)
    repeat (rename News _ _ _ _ => F1; clear F1)
    repeat (rename Below _ _ _ _ => F1; clear F1)
    repeat (rename Top _ _ _ _ _ _ => F1; clear F1)
    repeat (rename Frag.In _ _ => F1; clear F1)
    intro p9 ta k9 t9 hp9
    intro p loose mean mg mb rest cn cs a9 ccd cl outer A₀ base h₀ L m s Q E B F X N sep T hk _ hret
    refine wpAny_call ?_
    walk_at "mine enterN"
    intro g L' h₁ F' N' B' X' T' kp l1
    generalize s.toks + List.length _ = tk0
    refine withDst N' ?dd ?_
    case dd => ((try dsimp only [List.map_cons, List.map_nil]); walk_at "mine dst")
    intro SG
    (try dsimp only [List.map_cons, List.map_nil] at SG)
    clear SP l1
    (try dsimp only); (try k_fold)
    k_steps
    refine Hold.out ?_
    rename Fr _ _ _ _ => F9
    have hs := slice_give hp9
    generalize Txt.slice (mk x) (some ([(p9 : Int)].getD (Int.toNat 0) 0)) (some ([(p9 : Int)].getD (Int.toNat 0) 0 + 1)) = q at *
    subst hs
    have hl1 : (List.take 1 (List.drop p9 x)).length < 16000000 := by rw [List.length_take]; omega
    k_steps
    refine' endR hret ⟨_, _, _, rfl, rfl⟩ ?kF ?kN ?kA ?kS; walk_at "mine end"
theorem lex_b (w : World) (x : List Nat) (at9 : Addr) (t1 : Tok) (oat oc : Obj) (c1 c : Addr) (vs : Array Value) (t2 : Tok) (hsz : x.length < 1000000) (h98 : Dst [98, c, at9]) (hvs : oc.data = .fields vs) (hvs2 : vs[1]? = some (.str (Str.ofString "_law_lexer.<locals>._law_give") t2)) : SpecR w 700 3000 103 [.str (mk x) t1, .ref at9] [(98, lexTab c1 c), (c, oc), (at9, oat)] (fun g => CodeHd g 102 98) (LexBRet w x at9 oat oc c1 c) := by
  intro p loose mean mg mb rest cn cs a9 ccd cl outer A₀ base h₀ L m s Q E B F X N sep T hk hold9 hret
  refine wpAny_call ?_
  walk_at "mine enterC"
  intro g L' h₁ tk' cells F' N' Y' B' X' T' kp l1
  have C9 := hold9.keeps (hid_up kp)
  k_cells Y'
  have SP := Dst.cellsN 2 h98 l1 rfl
  clear l1 h98
  dsimp only [List.cons_append, List.nil_append] at N'
  replace SP : Dst [L' + 1 + 1, L' + 1, 98, c, at9] := SP
  (try dsimp only); (try k_fold)
  k_steps
  rename News _ _ _ _ => NN
  rename Apart _ _ => AA
  rename Dst _ => SP
  refine' lex_end (x := x) (pb := []) hret (by k_asm) NN AA (sub_at [8, 10, 1, 2, 0, 3, 5, 4, 9, 6, 7] rfl) ?g ?od ?R
  case R => exact fun O hO hd => ⟨_, _, rfl, rfl, hO, hd⟩
  case od => exact SP.pick [8, 10, 1, 2, 0, 3, 5, 4, 9, 6, 7] rfl rfl
  case g =>
    clear hret F N B T X sep hk hold9 kp NN AA
    repeat (rename Fr _ _ _ _ => F1; clear F1)
    repeat (rename News _ _ _ _ => F1; clear F1)
    repeat (rename Below _ _ _ _ => F1; clear F1)
    repeat (rename Top _ _ _ _ _ _ => F1; clear F1)
    repeat (rename Frag.In _ _ => F1; clear F1)
    intro p9 ta k9 t9 hp9
    intro p loose mean mg mb rest cn cs a9 ccd cl outer A₀ base h₀ L m s Q E B F X N sep T hk _ hret
    refine wpAny_call ?_
    walk_at "mine enterN"
    intro g L' h₁ F' N' B' X' T' kp l1
    generalize s.toks + List.length _ = tk0
    refine withDst N' ?dd ?_
    case dd => ((try dsimp only [List.map_cons, List.map_nil]); walk_at "mine dst")
    intro SG
    (try dsimp only [List.map_cons, List.map_nil] at SG)
    clear SP l1
    (try dsimp only); (try k_fold)
    k_steps
    refine Hold.out ?_
    rename Fr _ _ _ _ => F9
    have hs := slice_give hp9
    generalize Txt.slice (mk x) (some ([(p9 : Int)].getD (Int.toNat 0) 0)) (some ([(p9 : Int)].getD (Int.toNat 0) 0 + 1)) = q at *
    subst hs
    have hl1 : (List.take 1 (List.drop p9 x)).length < 16000000 := by rw [List.length_take]; omega
    k_steps
    refine' endR hret ⟨_, _, _, rfl, rfl⟩ ?kF ?kN ?kA ?kS; walk_at "mine end"
end
end
end
section
open PySem PySem.W PySem.Calls PyProof.Rows
section
def SpecC (w : World) (d u : Nat) (f : Addr) (vs : List Value) (need : List (Addr × Obj)) (Old : Heap → Prop) (Ret : Value → List (Addr × Obj) → Prop) : Prop :=
  ∀ (p : Program) (loose : List Str) (mean : ExcName → Option Value) (mg mb : Str → Option Value) (rest : List (Addr × Obj)) (cn : Str) (cs : Scope) (a : Addr) (ccd : Value) (cl : List (Str × Addr)) (outer : List Env) (A₀ : Around) (base h₀ : Heap) (L : Addr) (m : Str → Option Value) (s : Shared) (Q E : Value → Shared → Prop),
    Below A₀ base outer h₀ → Fr h₀ L s.heap m → Frag.In (hd.heap_39 w.params) h₀ → News h₀ L s.heap (need ++ rest) → Apart need rest → Top p loose mean mg mb h₀ → cs.kind = .function → Old (hideAll s.heap (need.map (·.1))) →
    (∀ (v : Value) (news' : List (Addr × Obj)) (h' : Heap) (tk' : Nat), Ret v news' → Fr h₀ L h' m → News h₀ L h' (news' ++ rest) → Apart news' rest → Q v { s with heap := h', toks := tk' }) →
      codeAny (model PR w) (ktrTop d u none cn cs L a ccd cl outer) (.call (.ref f) ⟨vs, []⟩) (fun r s' => match r with | .ok (.ret v) => Q v s' | .ok _ => False | .error e => E e s') s
theorem SpecC.toR {w : World} {d u : Nat} {f : Addr} {vs : List Value} {need : List (Addr × Obj)} {Old : Heap → Prop} {Ret : Value → List (Addr × Obj) → Prop} (H : SpecC w d u f vs need Old Ret) : SpecR w d u f vs need Old Ret := by
  intro p loose mean mg mb rest cn cs a9 ccd cl outer A₀ base h₀ L m s Q E B F X N sep T hk hold9 hret
  exact wpAny_call (H p loose mean mg mb rest cn cs a9 ccd cl outer A₀ base h₀ L m s Q E B F X N sep T hk hold9 hret)
theorem upC {M : Model} {A : Around} {c : Code} {R : Result → Shared → Prop} {s : Shared} {env : Env} {outer : List Env} {d u : Nat}
    (h : codeAny M { handled := none, depth := d, frames := some (env :: outer), guards := none, units := u } c R s)
    (hh : A.handled = none) (hd : A.depth ≤ d) (hu : A.units ≤ u) (hf : A.frames = some (env :: outer)) : codeAny M A c R s :=
  fun Γ p hc hΓ => h Γ p hc ⟨hΓ.1.trans hh, Nat.le_trans hΓ.2.1 hd, fun l hl => by cases hl; exact hΓ.2.2.1 _ hf, fun g hg => (by cases hg), Nat.le_trans hΓ.2.2.2.2 hu⟩

inductive Pick (a : Addr × Obj) : List (Addr × Obj) → List (Addr × Obj) → Prop
  | head {l : List (Addr × Obj)} : Pick a (a :: l) l
  | tail {b : Addr × Obj} {l l' : List (Addr × Obj)} : Pick a l l' → Pick a (b :: l) (b :: l')
inductive Picks : List (Addr × Obj) → List (Addr × Obj) → List (Addr × Obj) → Prop
  | nil {l : List (Addr × Obj)} : Picks [] l l
  | cons {a : Addr × Obj} {need l l' rest : List (Addr × Obj)} : Pick a l l' → Picks need l' rest → Picks (a :: need) l rest
theorem Pick.sub {a : Addr × Obj} {l l' : List (Addr × Obj)} (h : Pick a l l') : ∀ p ∈ a :: l', p ∈ l := by
  induction h with
  | head => exact fun p h => h
  | tail _ ih =>
    intro p hp
    rcases List.mem_cons.mp hp with rfl | hp
    · exact .tail _ (ih _ (.head _))
    · rcases List.mem_cons.mp hp with rfl | hp
      · exact .head _
      · exact .tail _ (ih _ (.tail _ hp))
theorem Picks.sub {need l rest : List (Addr × Obj)} (h : Picks need l rest) : ∀ p ∈ need ++ rest, p ∈ l := by
  induction h with
  | nil => exact fun p h => h
  | cons h _ ih =>
    intro p hp
    rcases List.mem_cons.mp hp with rfl | hp
    · exact h.sub _ (.head _)
    · exact h.sub _ (.tail _ (ih p hp))
def AllNe (a : Addr) : List (Addr × Obj) → Prop
  | [] => True
  | q :: r => @Ne Nat a q.1 ∧ AllNe a r
def ApartAll : List (Addr × Obj) → List (Addr × Obj) → Prop
  | [], _ => True
  | p :: r, l => AllNe p.1 l ∧ ApartAll r l
theorem AllNe.out {a : Addr} {l : List (Addr × Obj)} (h : AllNe a l) : ∀ q ∈ l, a ≠ q.1 := by
  induction l with
  | nil => exact fun q hq => nomatch hq
  | cons b r ih =>
    intro q hq
    rcases List.mem_cons.mp hq with rfl | hq
    · exact h.1
    · exact ih h.2 q hq
theorem ApartAll.out {need rest : List (Addr × Obj)} (h : ApartAll need rest) : Apart need rest := by
  induction need with
  | nil => exact fun q hq => nomatch hq
  | cons b r ih =>
    intro q hq
    rcases List.mem_cons.mp hq with rfl | hq
    · exact AllNe.out h.1
    · exact ih h.2 q hq
theorem Pick.perm {a : Addr × Obj} {l l' : List (Addr × Obj)} (h : Pick a l l') : (a :: l').Perm l := by
  induction h with
  | head => exact .refl _
  | tail _ ih => exact (List.Perm.swap _ _ _).trans (ih.cons _)
theorem Picks.perm {need l rest : List (Addr × Obj)} (h : Picks need l rest) : (need ++ rest).Perm l := by
  induction h with
  | nil => exact .refl _
  | cons h _ ih => exact (ih.cons _).trans h.perm
theorem Picks.dst {need news rest : List (Addr × Obj)} {A : List Addr} (hp : Picks need news rest) (SP : Dst A) (eA : news.map Prod.fst = A) : Dst (need.map Prod.fst ++ rest.map Prod.fst) := by
  subst eA
  rw [← List.map_append]
  exact SP.perm (hp.perm.map Prod.fst).symm
/-- a call by its contract: the ledger is split by `Picks` -/
theorem SpecR.outP {w : World} {d u : Nat} {f : Addr} {vs : List Value} {need : List (Addr × Obj)} {Old : Heap → Prop} {Ret : Value → List (Addr × Obj) → Prop} (H : SpecR w d u f vs need Old Ret) {p : Program} {loose : List Str} {mean : ExcName → Option Value} {mg mb : Str → Option Value} {news rest : List (Addr × Obj)} {cn : Str} {cs : Scope} {a : Addr} {ccd : Value} {cl : List (Str × Addr)} {outer : List Env} {A₀ A : Around} {base h₀ : Heap} {L : Addr} {m : Str → Option Value} {s : Shared} {Q E : Value → Shared → Prop}
    (B : Below A₀ base outer h₀) (F : Fr h₀ L s.heap m) (X : Frag.In (hd.heap_39 w.params) h₀) (N : News h₀ L s.heap news) (T : Top p loose mean mg mb h₀) (hk : cs.kind = .function)
    (hh : A.handled = none) (hd : A.depth ≤ d) (hu : A.units ≤ u) (hf : A.frames = some (envX cn cs L a ccd cl :: outer))
    {Ad : List Addr} (hp : Picks need news rest) (SP : Dst Ad) (eA : news.map Prod.fst = Ad) (old : Old (hideAll s.heap (need.map (·.1))))
    (ret : ∀ (v : Value) (news' : List (Addr × Obj)) (h' : Heap) (tk' : Nat), Ret v news' → Fr h₀ L h' m → News h₀ L h' (news' ++ rest) → Q v { s with heap := h', toks := tk' }) :
    wpAny (model PR w) A (call (.ref f) vs) Q E s :=
  SpecR.out H B F X N T hk hh hd hu hf hp.sub (hp.dst SP eA).apart old fun v n h' tk a b c _ => ret v n h' tk a b c
end
end
section
open PySem PySem.W PyProof.Rows
local macro_rules | `(tactic| walk_at "mine pad") => `(tactic| fail)
theorem Mine.rst_D5 : True ∧ True := by
  w_top off
  first | (walk1; all_goals exact True.intro) | exact ⟨True.intro, True.intro⟩
end
section
open PySem PySem.W PySem.Calls PyProof.Rows
section
local macro_rules | `(tactic| ktn_lt) => `(tactic| first | exact Fnd.z | (refine' Fnd.s ?fs; (case fs => ktn_lt)))
theorem oneDict_ns {h : Heap} {D : Addr} {hs : Int} {name : Str} {t : Tok} {v : Value} (e : h.get? D = some (oneDict hs name t v)) : h.Ns D (nsFind #[⟨hs, .str name t, v⟩]) :=
  ⟨_, _, _, e, rfl, fun d hd => ⟨name, t, by rw [Array.mem_singleton.mp hd]⟩, fun _ => rfl⟩
theorem oneDict_find {hs : Int} {name : Str} {t : Tok} {v : Value} : nsFind #[⟨hs, .str name t, v⟩] name = some v := by
  unfold nsFind findBy
  simp [Value.isStr]
/-- the bound «read» of the stream -/
theorem getMethod_read {prog : Program} {w : World} {A : Around} {E : Value → Shared → Prop} {s : Shared} {h₀ : Heap} {L S DS f : Addr} {fd : FuncData} {hs : Int} {t : Tok} {news : List (Addr × Obj)} {pl : Sem Bool} {Q : Value × List Value → Shared → Prop}
    (N : News h₀ L s.heap news) (m1 : (S, ({ cls := .type "function", dict := some DS, data := .func fd } : Obj)) ∈ news) (m2 : (DS, oneDict hs (Str.ofString "read") t (.ref f)) ∈ news)
    (hq : Q (.ref f, []) { s with toks := s.toks + 1 }) : wpAny (model prog w) A (getMethod (.ref S) (Str.ofString "read") pl) Q E s :=
  getMethod_fn (h := s.heap) (g := s.gens) (d := s.drawn) (t := s.toks) (os := s.os) ⟨(N _ m1).1, oneDict_ns (N _ m2).1⟩ fn_noread oneDict_find rfl hq
local macro_rules | `(tactic| walk_at "mine pick") => `(tactic| first | with_reducible exact Pick.head | (refine' Pick.tail ?hq; (case hq => walk_at "mine pick")))
local macro_rules | `(tactic| walk_at "mine picks") => `(tactic| first | with_reducible exact Picks.nil | (refine' Picks.cons ?ha ?hb; (case ha => walk_at "mine pick"); (case hb => walk_at "mine picks")))
local macro_rules | `(tactic| walk_at "mine apart") => `(tactic| ((simp only [ApartAll, AllNe, and_true]); (repeat' apply And.intro) <;> omega))
local macro_rules | `(tactic| walk_at "getMethod ref") => `(tactic| (k_here; (with_reducible show wpAny _ _ (getMethod (Value.ref _) _ _) _ _ _); (refine' getMethod_read ?k1 ?k2 ?k3 ?_; (case k1 => k_asm); (case k2 | k3 => k_mem); k_whole)))
local macro_rules | `(tactic| walk_at "callWith ref") => `(tactic| (k_here; (refine' callWith_F ?k1 ?_; (case k1 => exact FnAt.of (by k_asm) (by k_mem)); k_whole)))
local macro_rules | `(tactic| walk_at "FnAt") => `(tactic| (k_dflt (exact FnAt.of (by k_asm) (by k_mem))))
def nl9 (y : List Nat) : Int := if y = [10] then 1 else 0
theorem nl9_t {y : List Nat} (h : (mk y == Str.ofString "\n") = true) : nl9 y = 1 := by
  have := eq_of_beq h
  rw [show Str.ofString "\n" = mk [10] from by decide +kernel] at this
  simp only [Str.mk.injEq] at this
  have e : y = [10] := by simpa using congrArg Array.toList this
  unfold nl9; rw [if_pos e]
theorem nl9_f {y : List Nat} (h : (mk y == Str.ofString "\n") = false) : nl9 y = 0 := by
  unfold nl9; rw [if_neg]
  rintro rfl
  rw [show Str.ofString "\n" = mk [10] from by decide +kernel] at h
  simp at h
section
local macro_rules | `(tactic| walk_at "call ref") => `(tactic| (k_here; (with_reducible show wpAny _ _ (call (Value.ref _) _) _ _ _); (refine hold ?_)))
inductive StrRet (w : World) (x : List Nat) (at9 lx c : Addr) (oc : Obj) (T : List Nat) (P l : Int) (pb : List Value) (v : Value) (news' : List (Addr × Obj)) : Prop
  | mk (t ta' : Tok) (kA' : Nat) (O' : List (Addr × Obj)) (ev : v = .str (Mine.mk T) t) (en : news' = (at9, W.listOf #[.int P ta'] kA') :: O') (hO : LexIs w x at9 lx l pb c oc O') : StrRet w x at9 lx c oc T P l pb v news'
theorem read_char_spec (w : World) (x : List Nat) (at9 lx : Addr) (l : Int) (p9 : Nat) (ta : Tok) (kA : Nat) (pb : List Value) (c : Addr) (oc : Obj) (O : List (Addr × Obj)) (hO : LexIs w x at9 lx l pb c oc O) (hp : p9 ≤ x.length) :
    SpecC w 800 4000 42 [.ref lx] ((at9, W.listOf #[.int p9 ta] kA) :: O) (fun _ => True) (StrRet w x at9 lx c oc ((x.drop p9).take 1) ((p9:Int) + ((x.drop p9).take 1).length) (l + nl9 ((x.drop p9).take 1)) pb) := by
  intro p loose mean mg mb rest cn cs a9 ccd cl outer A₀ base h₀ L m s Q E B F X N sep T hk _ hret
  obtain ⟨D, P, S, DS, f, cA, cT, oA, oT, fdf, fdS, hs, tr, k1, k2, k3, k4, t1, t3, kP, rfl, hg, od⟩ := hO
  have SP : Dst [at9, lx, D, P, DS, S, f, c, cA, cT] := od
  walk_at "mine enter"
  intro g L' h₁ F' N' B' X' T' kp l1
  generalize s.toks + List.length _ = tk0
  clear l1
  (try dsimp only); (try k_fold)
  k_steps
  refine Hold.out ?_
  refine' SpecR.outP (hg p9 ta kA _ hp) ?k1 ?k2 ?k3 ?k4 ?k5 ?k6 ?k7 ?k8 ?k9 ?k10 ?kp SP ?ke ?ko ?_
  case k10 => exact rfl
  case k1 => k_asm
  case k2 => k_asm
  case k3 => k_asm
  case k4 => k_asm
  case k5 => k_asm
  case k6 => exact rfl
  case k7 => exact rfl
  case k8 => exact Nat.le_of_ble_eq_true rfl
  case k9 => exact Nat.le_of_ble_eq_true rfl
  case ke => exact rfl
  case kp => walk_at "mine picks"
  case ko => trivial
  k_whole
  rintro v news' h' tk' ⟨t', ta', k', rfl, rfl⟩ F9 N9
  dsimp only [List.cons_append, List.nil_append] at N9
  (try dsimp only); (try k_sweep)
  k_steps
  · rename (mk _ == _) = true => hb
    have he : nl9 (List.take 1 (List.drop p9 x)) = 1 := nl9_t hb
    refine' endR hret ⟨_, _, _, [(_, _), (_, _), (_, _), (_, _), (_, _), (_, _), (_, _), (_, _), (_, _)], rfl, rfl, D, P, S, DS, f, cA, cT, oA, oT, fdf, fdS, hs, tr, k1, k2, k3, k4, _, t3, kP, by rw [he], hg, SP⟩ ?kF ?kN ?kA ?kS; walk_at "mine end"
  · rename (mk _ == _) = false => hb
    have he : nl9 (List.take 1 (List.drop p9 x)) = 0 := nl9_f hb
    refine' endR hret ⟨_, _, _, [(_, _), (_, _), (_, _), (_, _), (_, _), (_, _), (_, _), (_, _), (_, _)], rfl, rfl, D, P, S, DS, f, cA, cT, oA, oT, fdf, fdS, hs, tr, k1, k2, k3, k4, t1, t3, kP, by rw [he, Int.add_zero], hg, SP⟩ ?kF ?kN ?kA ?kS; walk_at "mine end"
end
end
end
section
open PySem PySem.W PySem.Calls PyProof.Rows
section
theorem meth_call_slot : Slot "method" "__call__" "method.__call__" :=
  .of (owner := "method") (n := "__call__") (by rw [typeLookup_type, builtinLookup_eq_fast]; kernel_rfl) (by decide +kernel) (by decide +kernel) (by decide +kernel)
    (by first | exact .inl (by decide +kernel) | exact .inr (by decide +kernel)) (by rw [isSubtype_type]; kernel_rfl)
theorem iter_args2 (a b : Value) : argsOk "iter" ⟨[a, b], []⟩ := by unfold argsOk; kernel_rfl
theorem empty_mk : Str.ofString "" = mk [] := by decide +kernel
section
variable {prog : Program} {w : World} {A : Around} {E : Value → Shared → Prop} {s : Shared} {h₀ : Heap} {L D : Addr} {m : Str → Option Value} {news news' : List (Addr × Obj)}
theorem cit_make {bm f : Addr} {self : Value} {t : Tok} {Q : Value → Shared → Prop} (F : Fr h₀ L s.heap m) (N : News h₀ L s.heap news) (hm : (bm, methodObj (.ref f) self) ∈ news)
    (h : ∀ I h', Fr h₀ L h' m → News h₀ L h' ((I, citObj (.ref bm) (.str (mk []) t) false) :: news) → (∀ q ∈ news, q.1 < I) → Q (.ref I) { s with heap := h' }) :
    wpAny (model prog w) A (call (.builtin "iter") [.ref bm, .str (Str.ofString "") t]) Q E s := by
  have hT : s.TypeIs (.ref bm) "method" := ⟨_, (N _ hm).1, rfl⟩
  refine call_function_entry (by decide +kernel) (by decide +kernel) kdk_entry_iter (iter_args2 _ _) ?_
  unfold Builtin.«iter»
  refine wpAny_bind (m := someArgs "iter" 1 2 _) (wpAny_of_eq (a := [Value.ref bm, .str (Str.ofString "") t]) (by first | rfl | kernel_rfl!) ?_)
  show wpAny _ _ (specialOf (.ref bm) "__call__" >>= _) _ _ _
  refine wpAny_bind (wpAny_specialOf hT meth_call_slot.lookup ?_)
  refine wpAny_bind (wpAny_rule ?_)
  rw [empty_mk]
  refine wpAny_bind ?_
  unfold newFields
  refine wpAny_newObj_type ?_ (by size_fits)
  exact wpAny_pure ⟨_, rfl, h _ _ (F.push _) (News.push F N _ rfl) (fun q hq => Heap.lt_size (N q hq).1)⟩
theorem truthyL {l : Addr} {items : List Value} {n : Nat} {Q : Bool → Shared → Prop} (N : News h₀ L s.heap news) (hm : (l, W.listOf items.toArray n) ∈ news) (hz : items.length < 1000000)
    (h : Q (!items.isEmpty) { s with toks := s.toks + 1 + 1 }) : wpAny (model prog w) A (truthy (.ref l)) Q E s :=
  wpAny_truthy_list (News.isList N hm) (by rw [List.size_toArray]; omega) (by rw [List.isEmpty_toArray]; exact h)
theorem popHead {y : Value} {q : List Value} {n : Nat} {u : Tok} {Q : Value → Shared → Prop} (F : Fr h₀ L s.heap m) (N : News h₀ L s.heap news) (U : Upd D (W.listOf (y :: q).toArray n) (W.listOf q.toArray (n + 1)) news news') (hz : q.length < 1000000)
    (h : ∀ h', Fr h₀ L h' m → News h₀ L h' news' → Q y { s with heap := h' }) : wpAny (model prog w) A (call (.builtin "list.pop") [.ref D, .int 0 u]) Q E s :=
  kl_popAt (k := 0) (p := []) (q := q) (y := y) F N rfl (by
    rw [List.size_toArray, List.length_cons]
    unfold seqIndex?; simp) rfl U (by rw [sizeLine_eq]; simp; omega) h
end

def LoopC (prog : Program) (w : World) (A : Around) (env : Env) (x : Str) (px : Pos) (body : List Stmt) (Q : Flow → Shared → Prop) (E : Value → Shared → Prop) (it : Value) (s : Shared) : Prop :=
  PassesOwn (model prog w) A env E → codeAny (model prog w) A (.forLoop (.Name x px) it body [] env) (fun r s' => match r with | .ok f => Q f s' | .error e => cameBackBy (model prog w) A env E e s') s
section
variable {prog : Program} {w : World} {A : Around} {E : Value → Shared → Prop} {s : Shared} {env : Env} {h₀ : Heap} {x : Str} {body : List Stmt} {Q : Flow → Shared → Prop}
theorem For_cit0 {px pos : Pos} {iter : Expr}
    (h : wpAny (model prog w) A (eval iter env) (fun xv s₁ => wpAny (model prog w) A (pyIter xv) (fun it s₂ => LoopC prog w A env x px body Q E it s₂) E s₁) E s)
    (hs : ∀ x, foldedSetIterable iter env x = pure x := by intro _; rfl)
    (hE : PassesOwn (model prog w) A env E := by passes_own) :
    wpAny (model prog w) A (exec (.For (.Name x px) iter body [] pos) env) Q E s :=
  wpAny_For (wpAny_mono h (fun xv s₁ h₁ => wpAny_mono h₁ (fun it s₂ h₂ => h₂ hE) fun _ _ e => e) fun _ _ e => e) hs

def TurnE (h₀ : Heap) (L : Addr) (J : Nat → (Str → Option Value) → List (Addr × Obj) → Prop) (n : Nat) (Q : Flow → Shared → Prop) (s : Shared) (f : Flow) (s₂ : Shared) : Prop :=
  match f with
  | .ret v => Q (.ret v) s₂
  | .brk => Q .next s₂
  | _ => ∃ n', n' < n ∧ ∃ h' tk m' news', s₂ = { s with heap := h', toks := tk } ∧ Fr h₀ L h' m' ∧ News h₀ L h' news' ∧ J n' m' news'
theorem TurnE.next {L : Addr} {J : Nat → (Str → Option Value) → List (Addr × Obj) → Prop} {n : Nat} {h' : Heap} {tk : Nat} {m' : Str → Option Value} {all : List (Addr × Obj)} (n' : Nat) (hn : n' < n) (F : Fr h₀ L h' m') (N : News h₀ L h' all) (news' : List (Addr × Obj)) (sub : ∀ p ∈ news', p ∈ all) (hJ : J n' m' news') :
    TurnE h₀ L J n Q s .next { s with heap := h', toks := tk } := ⟨n', hn, h', tk, m', news', rfl, F, drop N sub, hJ⟩
theorem TurnE.ret {L : Addr} {J : Nat → (Str → Option Value) → List (Addr × Obj) → Prop} {n : Nat} {v : Value} {s₂ : Shared} (h : Q (.ret v) s₂) : TurnE h₀ L J n Q s (.ret v) s₂ := h
theorem loopC {px : Pos} {it : Addr} {m : Str → Option Value} {news : List (Addr × Obj)} (J : Nat → (Str → Option Value) → List (Addr × Obj) → Prop) (n : Nat)
    (F : Fr h₀ env.locals s.heap m) (N : News h₀ env.locals s.heap news) (hj : J n m news) (hx : env.kindOf x = some .local)
    (hp : (env.scope.kind == .class || (env.scope.kind == .module && env.locals != env.globals)) = false)
    (turn : ∀ n m₁ news₁ h tk, J n m₁ news₁ → Fr h₀ env.locals h m₁ → News h₀ env.locals h news₁ → wpAny (model prog w) A (pyNext (.ref it)) (fun r s₁ => match r with
      | none => Q .next s₁
      | some v => ∃ h' tk' news', s₁ = { s with heap := h', toks := tk' } ∧ Fr h₀ env.locals h' m₁ ∧ News h₀ env.locals h' news' ∧
          ∀ h'' tk'', Fr h₀ env.locals h'' (fun y => if y = x then some v else m₁ y) → News h₀ env.locals h'' news' → wpAny (model prog w) A (execs body env) (TurnE h₀ env.locals J n Q s) E { s with heap := h'', toks := tk'' })
      (fun _ _ => False) { s with heap := h, toks := tk }) : LoopC prog w A env x px body Q E (.ref it) s := by
  intro hE
  refine codeAny_forLoop (fun k s' => ∃ h' tk m' news', s' = { s with heap := h', toks := tk } ∧ Fr h₀ env.locals h' m' ∧ News h₀ env.locals h' news' ∧ J k m' news') ?_ n ⟨s.heap, s.toks, m, news, rfl, F, N, hj⟩
  rintro k s' ⟨h', tk, m', news', rfl, F', N', hJ⟩
  refine wpAny_mono (turn k m' news' h' tk hJ F' N') (fun r s₁ h₁ => ?_) fun _ _ e => e.elim
  cases r with
  | none => exact wpAny_execs_nil h₁
  | some v =>
    obtain ⟨h2, tk2, news2, rfl, F2, N2, hb⟩ := h₁
    refine wpAny_assign_Name (wpAny_storeName_local hx F2.ns (fun h3 hn3 hs3 => ?_) hp)
    refine wpAny_passesOwn hE (wpAny_mono (hb h3 _ (F2.set hn3 hs3) (N2.set hs3)) (fun f s3 q => ?_) fun _ _ e => e)
    cases f with
    | ret v => exact q
    | brk => exact q
    | next => obtain ⟨n', hn, h4, tk4, m4, news4, e, F4, N4, hJ4⟩ := q; exact ⟨n', hn, h4, tk4, m4, news4, e, F4, N4, hJ4⟩
    | cont => obtain ⟨n', hn, h4, tk4, m4, news4, e, F4, N4, hJ4⟩ := q; exact ⟨n', hn, h4, tk4, m4, news4, e, F4, N4, hJ4⟩
structure Hid9 (P : Prop) : Prop where
  out : P
def TurnG (h₀ : Heap) (L : Addr) (J : Nat → (Str → Option Value) → List (Addr × Obj) → Prop) (n : Nat) (Q : Flow → Shared → Prop) (G : Array GenState) (Dr : Drawn) (O : OsState) (f : Flow) (s₂ : Shared) : Prop :=
  match f with
  | .ret v => Q (.ret v) s₂
  | .brk => Q .next s₂
  | _ => ∃ n', n' < n ∧ ∃ h' tk m' news', s₂ = ⟨h', G, Dr, tk, O⟩ ∧ Fr h₀ L h' m' ∧ News h₀ L h' news' ∧ J n' m' news'
section
variable {G : Array GenState} {Dr : Drawn} {O : OsState}
theorem TurnG.next {L : Addr} {J : Nat → (Str → Option Value) → List (Addr × Obj) → Prop} {n : Nat} {h' : Heap} {tk : Nat} {m' : Str → Option Value} {all : List (Addr × Obj)} (n' : Nat) (hn : n' < n) (F : Fr h₀ L h' m') (N : News h₀ L h' all) (news' : List (Addr × Obj)) (sub : ∀ p ∈ news', p ∈ all) (hJ : J n' m' news') :
    TurnG h₀ L J n Q G Dr O .next ⟨h', G, Dr, tk, O⟩ := ⟨n', hn, h', tk, m', news', rfl, F, drop N sub, hJ⟩
theorem TurnG.ret {L : Addr} {J : Nat → (Str → Option Value) → List (Addr × Obj) → Prop} {n : Nat} {v : Value} {s₂ : Shared} (h : Q (.ret v) s₂) : TurnG h₀ L J n Q G Dr O (.ret v) s₂ := h
theorem turnGE {L : Addr} {J : Nat → (Str → Option Value) → List (Addr × Obj) → Prop} {n : Nat} {hp : Heap} {tk : Nat} {f : Flow} {s₂ : Shared} (h : TurnG h₀ L J n Q G Dr O f s₂) : TurnE h₀ L J n Q ⟨hp, G, Dr, tk, O⟩ f s₂ := by
  cases f <;> exact h
theorem loopG {px : Pos} {it : Addr} {m : Str → Option Value} {news : List (Addr × Obj)} {hp : Heap} {tk0 : Nat} (J : Nat → (Str → Option Value) → List (Addr × Obj) → Prop) (n : Nat)
    (F : Fr h₀ env.locals hp m) (N : News h₀ env.locals hp news) (hj : J n m news) (hx : env.kindOf x = some .local)
    (hpp : (env.scope.kind == .class || (env.scope.kind == .module && env.locals != env.globals)) = false)
    (turn : ∀ n m₁ news₁ h tk, J n m₁ news₁ → Fr h₀ env.locals h m₁ → News h₀ env.locals h news₁ → wpAny (model prog w) A (pyNext (.ref it)) (fun r s₁ => match r with
      | none => Q .next s₁
      | some v => ∃ h' tk' news', s₁ = ⟨h', G, Dr, tk', O⟩ ∧ Fr h₀ env.locals h' m₁ ∧ News h₀ env.locals h' news' ∧
          ∀ h'' tk'', Fr h₀ env.locals h'' (fun y => if y = x then some v else m₁ y) → News h₀ env.locals h'' news' → wpAny (model prog w) A (execs body env) (TurnG h₀ env.locals J n Q G Dr O) E ⟨h'', G, Dr, tk'', O⟩)
      (fun _ _ => False) ⟨h, G, Dr, tk, O⟩) : LoopC prog w A env x px body Q E (.ref it) ⟨hp, G, Dr, tk0, O⟩ := by
  refine loopC J n F N hj hx hpp fun n m₁ news₁ h tk hJ F1 N1 => wpAny_mono (turn n m₁ news₁ h tk hJ F1 N1) (fun r s₁ q => ?_) fun _ _ e => e
  cases r with
  | none => exact q
  | some v =>
    obtain ⟨h', tk', news', e, F2, N2, hb⟩ := q
    exact ⟨h', tk', news', e, F2, N2, fun h'' tk'' F3 N3 => wpAny_mono (hb h'' tk'' F3 N3) (fun f s₂ q => turnGE q) fun _ _ e => e⟩
end
end

section
variable {w : World} {A A₀ : Around} {E : Value → Shared → Prop} {s : Shared} {h₀ base : Heap} {L : Addr} {m mg mb : Str → Option Value} {p : Program} {loose : List Str} {mean : ExcName → Option Value} {cn : Str} {cs : Scope} {a9 : Addr} {ccd : Value} {cl : List (Str × Addr)} {outer : List Env}
theorem next_tok {x : List Nat} {at9 lx it bm c : Addr} {l : Int} {p9 : Nat} {ta te : Tok} {kA : Nat} {pb : List Value} {oc : Obj} {O rest : List (Addr × Obj)} {Q : Option Value → Shared → Prop} {oc42 : Value} {od42 : Option Addr} {fd42 : FuncData} {sl42 : Array (Option Value)}
    (hO : LexIs w x at9 lx l pb c oc O) (hp : p9 ≤ x.length)
    (B : Below A₀ base outer h₀) (F : Fr h₀ L s.heap m) (X : Frag.In (hd.heap_39 w.params) h₀) (N : News h₀ L s.heap ((((at9, W.listOf #[.int p9 ta] kA) : Addr × Obj) :: O) ++ (it, citObj (.ref bm) (.str (mk []) te) false) :: (bm, methodObj (.ref 42) (.ref lx)) :: rest))
    (sep : Apart (((at9, W.listOf #[.int p9 ta] kA) : Addr × Obj) :: O) ((it, citObj (.ref bm) (.str (mk []) te) false) :: (bm, methodObj (.ref 42) (.ref lx)) :: rest)) (hit : ∀ q ∈ (bm, methodObj (.ref 42) (.ref lx)) :: rest, q.1 ≠ it)
    (T : Top p loose mean mg mb h₀) (hk : cs.kind = .function)
    (hf42 : (hd.heap_39 w.params).lookup 42 = some ⟨oc42, od42, .func fd42, sl42⟩)
    (hh : A.handled = none) (hd : A.depth ≤ 800) (hu : A.units ≤ 3999) (hf : A.frames = some (envX cn cs L a9 ccd cl :: outer))
    (done : x.drop p9 = [] → ∀ h' tk ta' kA' O', LexIs w x at9 lx l pb c oc O' → Fr h₀ L h' m → News h₀ L h' ((((at9, W.listOf #[.int p9 ta'] kA') : Addr × Obj) :: O') ++ (it, citObj .none .none true) :: (bm, methodObj (.ref 42) (.ref lx)) :: rest) →
      Apart (((at9, W.listOf #[.int p9 ta'] kA') : Addr × Obj) :: O') ((it, citObj .none .none true) :: (bm, methodObj (.ref 42) (.ref lx)) :: rest) → Q none { s with heap := h', toks := tk })
    (item : ∀ a r, x.drop p9 = a :: r → ∀ h' tk t ta' kA' O', LexIs w x at9 lx (l + nl9 [a]) pb c oc O' → Fr h₀ L h' m → News h₀ L h' ((((at9, W.listOf #[.int ((p9 + 1 : Nat) : Int) ta'] kA') : Addr × Obj) :: O') ++ (it, citObj (.ref bm) (.str (mk []) te) false) :: (bm, methodObj (.ref 42) (.ref lx)) :: rest) →
      Apart (((at9, W.listOf #[.int ((p9 + 1 : Nat) : Int) ta'] kA') : Addr × Obj) :: O') ((it, citObj (.ref bm) (.str (mk []) te) false) :: (bm, methodObj (.ref 42) (.ref lx)) :: rest) → Q (some (.str (mk [a]) t)) { s with heap := h', toks := tk }) :
    wpAny (model PR w) A (pyNext (.ref it)) Q E s := by
  have Nit := N (it, citObj (.ref bm) (.str (mk []) te) false) (List.mem_append_right _ (.head _))
  have Nbm := N (bm, methodObj (.ref 42) (.ref lx)) (List.mem_append_right _ (.tail _ (.head _)))
  refine cit_next hh Nit.1 Nbm.1 (F.keep _ _ (X _ _ hf42)) rfl (upC (d := 800) (u := 4000) (env := envX cn cs L a9 ccd cl) (outer := outer) (codeAny_mono (read_char_spec w x at9 lx l p9 ta kA pb c oc O hO hp p loose mean mg mb _ cn cs a9 ccd cl outer A₀ base h₀ L m s (fun v s' => CitEnd it bm 42 (.ref lx) te Q (.ok (.ret v)) s') (fun _ _ => False) B F X N sep T hk trivial ?_) (fun r s' q => ?_)) hh hd (by show A.units + 1 ≤ 4000; omega) hf)
  · rintro v news' h' tk' ⟨t, ta', kA', O', rfl, rfl, hO'⟩ F' N' A'
    refine ⟨(N' (it, _) (List.mem_append_right _ (.head _))).1, (N' (bm, _) (List.mem_append_right _ (.tail _ (.head _)))).1, ⟨_, _, F'.keep _ _ (X _ _ hf42), rfl⟩, ?_⟩
    have Nit' := N' (it, citObj (.ref bm) (.str (mk []) te) false) (List.mem_append_right _ (.head _))
    cases e : x.drop p9 with
    | nil =>
      rw [e] at hO' N' A'
      simp only [List.take_nil, List.length_nil] at hO' N' A'
      rw [if_pos (show mk (List.take 1 ([] : List Nat)) = mk [] from rfl)]
      intro h2 e1 keep
      have ez : nl9 [] = 0 := by decide
      rw [ez, Int.add_zero] at hO'
      rw [show ((p9 : Int) + ((0 : Nat) : Int)) = p9 from by omega] at N' A'
      have off : ∀ q ∈ (((at9, W.listOf #[.int p9 ta'] kA') : Addr × Obj) :: O'), q.1 ≠ it := fun q hq => A' q hq _ (.head _)
      refine done e h2 tk' ta' kA' O' hO' ⟨F'.ns.at' fun o e => keep _ _ Nit'.2.1.symm e, fun b o e => keep b o (fun q => by rw [q, Nit'.2.2] at e; cases e) (F'.keep b o e), F'.above⟩ (fun q hq => ?_) fun p hp q hq => ?_
      · rcases List.mem_append.mp hq with hq | hq
        · have n := N' q (List.mem_append_left _ hq)
          exact ⟨keep _ _ (off q hq) n.1, n.2⟩
        · rcases List.mem_cons.mp hq with rfl | hq
          · exact ⟨e1, Nit'.2⟩
          · have n := N' q (List.mem_append_right _ (.tail _ hq))
            exact ⟨keep _ _ (hit q hq) n.1, n.2⟩
      · rcases List.mem_cons.mp hq with rfl | hq
        · exact off p hp
        · exact A' p hp q (.tail _ hq)
    | cons a r =>
      rw [e] at hO' N' A'
      simp only [List.take_succ_cons, List.take_zero, List.length_cons, List.length_nil] at hO' N' A'
      rw [if_neg (show ¬ (mk (List.take 1 (a :: r)) = mk []) by simp)]
      exact item a r e h' tk' t ta' kA' O' hO' F' N' A'
  · match r, q with
    | .ok (.ret v), q => exact q
theorem next_end {it bm : Addr} {Q : Option Value → Shared → Prop} {news : List (Addr × Obj)} (hh : A.handled = none) (F : Fr h₀ L s.heap m) (N : News h₀ L s.heap news) (hm : (it, citObj .none .none true) ∈ news)
    (done : ∀ h', Fr h₀ L h' m → News h₀ L h' news → Q none { s with heap := h' }) : wpAny (model PR w) A (pyNext (.ref it)) Q E s :=
  cit_next_ended hh (N _ hm).1 fun h' keep => done h' ⟨F.ns.keeps keep, fun b o e => keep b o (F.keep b o e), F.above⟩ fun q hq => ⟨keep _ _ (N q hq).1, (N q hq).2⟩
end
end
end
section
open PySem PySem.W PySem.Calls PyProof.Rows
local macro_rules | `(tactic| walk_at "mine pick") => `(tactic| first | with_reducible exact Pick.head | (refine' Pick.tail ?hq; (case hq => walk_at "mine pick")))
local macro_rules | `(tactic| walk_at "mine picks") => `(tactic| first | with_reducible exact Picks.nil | (refine' Picks.cons ?ha ?hb; (case ha => walk_at "mine pick"); (case hb => walk_at "mine picks")))
local macro_rules | `(tactic| walk_at "mine apart") => `(tactic| ((simp only [ApartAll, AllNe, and_true]); (repeat' apply And.intro) <;> omega))
local macro_rules | `(tactic| walk_at "callWith ref") => `(tactic| (k_here; (refine' callWith_F ?k1 ?_; (case k1 => exact FnAt.of (by k_asm) (by k_mem)); k_whole)))
local macro_rules | `(tactic| walk_at "FnAt") => `(tactic| (k_dflt (exact FnAt.of (by k_asm) (by k_mem))))
section
open PySem PySem.W PyProof.Rows
local macro_rules | `(tactic| walk_at "mine pad") => `(tactic| fail)
theorem Mine.rst_D6b : True ∧ True := by
  w_top off
  first | (walk1; all_goals exact True.intro) | exact ⟨True.intro, True.intro⟩
end
section
open PySem PySem.W PySem.Calls PyProof.Rows
section
section
local macro_rules | `(tactic| walk_at "truthy ref") => `(tactic| (k_here; (with_reducible show wpAny _ _ (truthy (Value.ref _)) _ _ _); k_dflt (refine' truthyL ?k1 ?k2 ?k3 ?_; (case k1 => k_asm); (case k2 => k_mem); (case k3 => (simp only [List.length_cons]; omega)); k_whole); (try simp only [List.isEmpty_cons, Bool.not_false])))
local macro_rules | `(tactic| walk_at "call builtin:list.pop") => `(tactic| (k_here; k_dflt (refine' popHead ?F ?N ?U ?z ?_; (case F | N => k_asm); (case U => k_upd); (case z => omega); k_whole); (intro h' F' N'; (try dsimp only [List.nil_append, List.cons_append] at N'))))
local macro_rules | `(tactic| ktn_lt) => `(tactic| first | exact Fnd.z | (refine' Fnd.s ?fs; (case fs => ktn_lt)))
theorem tok_pb (w : World) (x : List Nat) (at9 lx : Addr) (l : Int) (v9 : Str) (t9 : Tok) (pb : List Value) (c : Addr) (oc : Obj) (O : List (Addr × Obj)) (hO : LexIs w x at9 lx l (.str v9 t9 :: pb) c oc O) (hpb : pb.length < 1000) :
    SpecC w 750 3500 49 [.ref lx] O (fun _ => True) (fun v news' => v = .str v9 t9 ∧ LexIs w x at9 lx l pb c oc news') := by
  intro p loose mean mg mb rest cn cs a9 ccd cl outer A₀ base h₀ L m s Q E B F X N sep T hk _ hret
  obtain ⟨D, P, S, DS, f, cA, cT, oA, oT, fdf, fdS, hs, tr, k1, k2, k3, k4, t1, t3, kP, rfl, hg, od⟩ := hO
  have od' : Dst [at9, lx, D, P, DS, S, f, c, cA, cT] := od
  have SP := od'.tail
  walk_at "mine enter"
  intro g L' h₁ F' N' B' X' T' kp l1
  generalize s.toks + List.length _ = tk0
  clear l1
  (try dsimp only); (try k_fold)
  k_steps
  refine' endR (wanted := [(_, _), (_, _), (_, _), (_, _), (_, _), (_, _), (_, _), (_, _), (_, _)]) hret ⟨rfl, D, P, S, DS, f, cA, cT, oA, oT, fdf, fdS, hs, tr, k1, k2, k3, k4, t1, t3, kP + 1, rfl, hg, od'⟩ ?kF ?kN ?kA ?kS; walk_at "mine end"
end
end
end
section
open PySem PySem.W PyProof.Rows
local macro_rules | `(tactic| walk_at "mine pad") => `(tactic| fail)
theorem Mine.rst_D6 : True ∧ True := by
  w_top off
  first | (walk1; all_goals exact True.intro) | exact ⟨True.intro, True.intro⟩
end
section
open PySem PySem.W PySem.Calls PyProof.Rows
section
def wsB (a : Nat) : Bool := !(Builtin.Str.occurrences (Str.ofString "\n\t\r ") ⟨#[a]⟩ 0 (Str.ofString "\n\t\r ").length 1).isEmpty
def run : List Nat → List Nat → Nat → Int → List Nat × Nat × Int
  | [], tok, p, l => (tok, p, l)
  | [a], tok, p, l => if wsB a then (tok, p + 1, l + nl9 [a]) else if a = 92 then (tok, p + 1, l + nl9 [a]) else (tok ++ [a], p + 1, l + nl9 [a])
  | a :: b :: r, tok, p, l => if wsB a then (tok, p + 1, l + nl9 [a]) else if a = 92 then run r (tok ++ [b]) (p + 1 + 1) (l + nl9 [a] + nl9 [b]) else run (b :: r) (tok ++ [a]) (p + 1) (l + nl9 [a])
theorem run_ws {a : Nat} {r tok : List Nat} {p : Nat} {l : Int} (h : wsB a = true) : run (a :: r) tok p l = (tok, p + 1, l + nl9 [a]) := by
  cases r <;> simp [run, h]
theorem run_plain {a : Nat} {r tok : List Nat} {p : Nat} {l : Int} (h : wsB a = false) (h2 : a ≠ 92) : run (a :: r) tok p l = run r (tok ++ [a]) (p + 1) (l + nl9 [a]) := by
  cases r <;> simp [run, h, h2]
theorem run_esc0 {tok : List Nat} {p : Nat} {l : Int} : run [92] tok p l = (tok, p + 1, l + nl9 [92]) := by
  have : wsB 92 = false := by decide +kernel
  simp [run, this]
theorem run_esc {b : Nat} {r tok : List Nat} {p : Nat} {l : Int} : run (92 :: b :: r) tok p l = run r (tok ++ [b]) (p + 1 + 1) (l + nl9 [92] + nl9 [b]) := by
  have : wsB 92 = false := by decide +kernel
  simp [run, this]
inductive TokM (lx it : Addr) (tok : List Nat) (m : Str → Option Value) : Prop
  | mk (t : Tok) (u : Str → Option Value) (e : m = fun z => if z = Str.ofString "token" then some (.str (Mine.mk tok) t) else if z = Str.ofString "fiter" then some (.ref it) else if z = Str.ofString "self" then some (.ref lx) else u z) : TokM lx it tok m
inductive TokN (w : World) (x : List Nat) (at9 lx it bm c : Addr) (oc cit : Obj) (q : Nat) (l : Int) (news : List (Addr × Obj)) : Prop
  | mk (ta : Tok) (kA : Nat) (O : List (Addr × Obj)) (e : news = (((at9, W.listOf #[.int (q : Int) ta] kA) : Addr × Obj) :: O) ++ [(it, cit), (bm, methodObj (.ref 42) (.ref lx))]) (hO : LexIs w x at9 lx l [] c oc O) (hA : Apart (((at9, W.listOf #[.int (q : Int) ta] kA) : Addr × Obj) :: O) [(it, cit), (bm, methodObj (.ref 42) (.ref lx))]) : TokN w x at9 lx it bm c oc cit q l news
inductive TokJ (w : World) (x : List Nat) (at9 lx it9 q9 c : Addr) (oc : Obj) (T9 : List Nat) (P9 : Nat) (l9 : Int) (n : Nat) (m₁ : Str → Option Value) (news₁ : List (Addr × Obj)) : Prop
  | mk (tok : List Nat) (q : Nat) (l1 : Int) (te : Tok) (hn : n + q = x.length) (hr : run (x.drop q) tok q l1 = (T9, P9, l9)) (htl : tok.length ≤ q) (hM : TokM lx it9 tok m₁) (hN : TokN w x at9 lx it9 q9 c oc (citObj (.ref q9) (.str (Mine.mk []) te) false) q l1 news₁) : TokJ w x at9 lx it9 q9 c oc T9 P9 l9 n m₁ news₁
theorem rot2 {h₀ h : Heap} {L : Addr} {a b : Addr × Obj} {l : List (Addr × Obj)} (N : News h₀ L h (a :: b :: l)) : News h₀ L h (l ++ [a, b]) := drop N fun p hp => (List.mem_append.mp hp).elim (fun h => .tail _ (.tail _ h)) fun h => by
  simp only [List.mem_cons, List.not_mem_nil, or_false] at h ⊢
  rcases h with h | h <;> simp [h]
theorem run_bs {r tok : List Nat} {p : Nat} {l : Int} : run (92 :: r) tok p l = run (r.drop 1) (tok ++ r.take 1) (p + 1 + (r.take 1).length) (l + nl9 [92] + nl9 (r.take 1)) := by
  cases r with
  | nil => rw [run_esc0]; simp [run, nl9]
  | cons b r => rw [run_esc]; simp
theorem drop_two {x r y : List Nat} {p a : Nat} (h : x.drop p = a :: r) (hy : r.take 1 = y) : x.drop (p + 1 + y.length) = r.drop 1 := by
  rw [← List.drop_drop, ← List.drop_drop, h, ← hy]
  cases r <;> rfl
theorem drop_succ {x r : List Nat} {p a : Nat} (h : x.drop p = a :: r) : x.drop (p + 1) = r := by
  rw [← List.drop_drop, h]; rfl
theorem map3 {a b c : Str} {va vb vc : Option Value} {m : Str → Option Value} (ha : m a = va) (hb : m b = vb) (hc : m c = vc) : m = fun z => if z = a then va else if z = b then vb else if z = c then vc else m z := by
  funext z
  by_cases h1 : z = a
  · subst h1; simp [ha]
  · by_cases h2 : z = b
    · subst h2; simp [h1, hb]
    · by_cases h3 : z = c
      · subst h3; simp [h1, h2, hc]
      · simp [h1, h2, h3]
theorem map1 {a : Str} {va : Option Value} {m : Str → Option Value} (ha : m a = va) : m = fun z => if z = a then va else m z := by
  funext z
  by_cases h1 : z = a
  · subst h1; simp [ha]
  · simp [h1]
section
local macro_rules | `(tactic| walk_at "call builtin:iter") => `(tactic| (k_here; k_dflt (refine' cit_make ?F ?N ?U ?_; (case F | N => k_asm); (case U => k_mem); k_whole); (intro it' h' F' N' l1; k_lt l1)))
local macro_rules | `(tactic| walk_at "exec For Name Name cons nil") => `(tactic| (k_here; (with_unfolding_all refine' For_cit0 ?_ ?hs ?hE; (case hs => exact fun _ => rfl); (case hE => passes_own))))
local macro_rules | `(tactic| walk_at "pyIter ref") => `(tactic| refine hold ?_)
local macro_rules | `(tactic| walk_at "call ref") => `(tactic| (k_here; (with_reducible show wpAny _ _ (call (Value.ref _) _) _ _ _); (refine hold ?_)))
local macro_rules | `(tactic| walk_at "TurnE") => `(tactic| refine TurnE.ret ?_)
local macro_rules | `(tactic| walk_at "TurnG") => `(tactic| refine TurnG.ret ?_)
local macro_rules | `(tactic| ktn_lt) => `(tactic| first | exact Fnd.z | (refine' Fnd.s ?fs; (case fs => ktn_lt)))
theorem tok_rd (w : World) (x : List Nat) (at9 lx : Addr) (l : Int) (p9 : Nat) (ta : Tok) (kA : Nat) (c : Addr) (oc : Obj) (O : List (Addr × Obj)) (hO : LexIs w x at9 lx l [] c oc O) (hp : p9 ≤ x.length) (hsz : x.length < 1000000)
    (hst : x.drop p9 = [] ∨ ∃ a r, x.drop p9 = a :: r ∧ wsB a = false ∧ a ≠ 34) (T9 : List Nat) (P9 : Nat) (l9 : Int) (hrun : run (x.drop p9) [] p9 l = (T9, P9, l9)) :
    SpecC w 750 3500 49 [.ref lx] ((at9, W.listOf #[.int p9 ta] kA) :: O) (fun _ => True) (StrRet w x at9 lx c oc T9 P9 l9 []) := by
  intro p loose mean mg mb rest cn cs a9 ccd cl outer A₀ base h₀ L m s Q E B F X N sep T hk _ hret
  have hO0 := hO
  obtain ⟨D, P, S, DS, f, cA, cT, oA, oT, fdf, fdS, hs, tr, k1, k2, k3, k4, t1, t3, kP, rfl, hg, od⟩ := hO
  have SP : Dst [at9, lx, D, P, DS, S, f, c, cA, cT] := od
  walk_at "mine enter"
  intro g L' h₁ F' N' B' X' T' kp l1
  generalize s.toks + List.length _ = tk0
  clear l1
  (try dsimp only); (try k_fold)
  k_steps
  refine Hold.out ?_
  rename Fr _ _ _ _ => FF
  rename News _ _ _ _ => NN
  refine cit_iter (NN _ (.head _)).1 ?_
  rename Dst _ => SP
  rename_i q9 hq9 lq it9 hi9 li hj9
  have hit : ∀ q ∈ [((q9, methodObj (.ref 42) (.ref lx)) : Addr × Obj)], q.1 ≠ it9 := fun q hq => by
    rw [List.mem_singleton.mp hq]; exact Nat.ne_of_lt (li _ (.head _))
  have NN2 := rot2 NN
  refine' loopC (fun n m₁ news₁ => (n = 1 ∧ TokM lx it9 [] m₁ ∧ ∃ te, TokN w x at9 lx it9 q9 c oc (citObj (.ref q9) (.str (mk []) te) false) p9 l news₁) ∨ (n = 0 ∧ TokM lx it9 T9 m₁ ∧ TokN w x at9 lx it9 q9 c oc (citObj .none .none true) P9 l9 news₁)) 1 FF NN2 ?hj rfl rfl ?turn
  case hj =>
    refine .inl ⟨rfl, ⟨_, _, map3 (by rw [← empty_mk]; rfl) rfl rfl⟩, _, _, _, _, rfl, hO0, Dst.apart' (by exact SP)⟩
  case turn =>
    rintro n m₁ news₁ h tk (⟨rfl, ⟨t9, u9, rfl⟩, te, ta9, kA9, O9, rfl, hO9, A9⟩ | ⟨rfl, ⟨t9, u9, rfl⟩, ta9, kA9, O9, rfl, hO9, A9⟩) F9 N9
    · refine' next_tok hO9 hp B' F9 X' N9 A9 hit T' ?hk ?hf42 rfl ?hd ?hu rfl ?done ?item
      case hk => exact rfl
      case hf42 => k_is
      case hd => exact Nat.le_of_ble_eq_true rfl
      case hu => exact Nat.le_of_ble_eq_true rfl
      case done =>
        intro he h' tk1 ta' kA' O' hO' F9 N9 A9
        rw [he] at hrun
        simp only [run, Prod.mk.injEq] at hrun
        obtain ⟨rfl, rfl, rfl⟩ := hrun
        dsimp only
        k_steps
        exact endR hret ⟨_, _, _, _, rfl, rfl, hO'⟩ (by k_asm) (by assumption) (by assumption) (fun p hp => List.mem_append_left _ hp)
      case item =>
        intro a r he h' tk1 t1 ta' kA' O' hO' F9 N9 A9
        obtain ⟨ha1, ha2⟩ : wsB a = false ∧ a ≠ 34 := by
          rcases hst with h | ⟨b, q, h, h1, h2⟩
          · rw [h] at he; cases he
          · rw [h] at he; cases he; exact ⟨h1, h2⟩
        rw [he] at hrun
        have hlen : x.length = p9 + 1 + r.length := by
          have := congrArg List.length he
          rw [List.length_drop, List.length_cons] at this; omega
        refine ⟨h', tk1, _, rfl, F9, N9, fun h2 tk2 F2 N2 => ?_⟩
        have hO2 := hO'
        obtain ⟨D, P, S, DS, f, cA, cT, oA, oT, fdf, fdS, hs, tr, k1, k2, k3, k4, t1, t3, kP, rfl, hg, od⟩ := hO'
        simp only [List.cons_append, List.nil_append] at N2
        clear F9 N9 NN NN2 FF
        refine' absorb (P := Hid9 ?TT) ?pf ?kk
        case kk =>
          intro turn0
          k_steps
          · exfalso
            rename (mk _ == _) = true => hb
            have := eq_of_beq hb
            rw [show Str.ofString "\"" = mk [34] from by decide +kernel] at this
            simp at this; exact ha2 this
          · have ha3 : a = 92 := by
              rename (mk _ == Str.ofString "\\") = true => hb
              have := eq_of_beq hb
              rw [show Str.ofString "\\" = mk [92] from by decide +kernel] at this
              simpa using this
            subst ha3
            refine Hold.out ?_
            rename Fr _ _ _ _ => F5
            rename News _ _ _ _ => N5
            refine' SpecR.out (rest := [(it9, _), (q9, methodObj (.ref 42) (.ref lx))]) (read_char_spec w x at9 lx _ (p9 + 1) _ _ [] c oc _ hO2 (by omega)).toR B' F5 X' N5 T' ?hk rfl ?hd ?hu rfl (fun p h => h) A9 trivial ?_
            case hk => exact rfl
            case hd => exact Nat.le_of_ble_eq_true rfl
            case hu => exact Nat.le_of_ble_eq_true rfl
            k_whole
            rintro v news' h3 tk3 ⟨t', ta2, kA2, O2, rfl, rfl, hO3⟩ F3 N3 A3
            generalize hy : List.take 1 (List.drop (p9 + 1) x) = y at hO3 N3 A3 ⊢
            rw [drop_succ he] at hy
            have hyl : y.length ≤ r.length := by rw [← hy, List.length_take]; omega
            have hyl1 : y.length ≤ 1 := by rw [← hy, List.length_take]; omega
            rw [← Int.natCast_add] at N3 A3
            have hmy : (mk y).length = y.length := mk_len y
            k_steps
            rw [run_bs, hy] at hrun
            refine Hold.out ?_
            rename Fr _ _ _ _ => F5
            rename News _ _ _ _ => N5
            refine cit_iter (N5 (it9, _) (by k_mem)).1 ?_
            refine' loopG (TokJ w x at9 lx it9 q9 c oc T9 P9 l9) (x.length - (p9 + 1 + y.length)) F5 N5 ?hj rfl rfl ?turn
            case hj =>
              refine ⟨y, p9 + 1 + y.length, l + nl9 [92] + nl9 y, _, by omega, by rw [drop_two he hy]; exact hrun, by simp <;> omega, ⟨_, _, map3 (by first | (rw [mk_app]; rfl) | rfl) rfl rfl⟩, _, _, _, rfl, hO3, A3⟩
            case turn => exact turn0.out
          · have ha3 : a ≠ 92 := by
              rename (mk _ == Str.ofString "\\") = false => hb
              rintro rfl
              rw [show Str.ofString "\\" = mk [92] from by decide +kernel] at hb
              simp at hb
            rw [run_plain ha1 ha3] at hrun
            refine Hold.out ?_
            rename Fr _ _ _ _ => F5
            rename News _ _ _ _ => N5
            refine cit_iter (N5 (it9, _) (by k_mem)).1 ?_
            refine' loopG (TokJ w x at9 lx it9 q9 c oc T9 P9 l9) (x.length - (p9 + 1)) F5 N5 ?hj rfl rfl ?turn
            case hj =>
              refine ⟨[a], p9 + 1, l + nl9 [a], _, by omega, by rw [drop_succ he]; exact hrun, by simp <;> omega, ⟨_, _, map3 (by first | (rw [mk_app]; rfl) | rfl) rfl rfl⟩, _, _, _, rfl, hO2, A9⟩
            case turn => exact turn0.out
          · exfalso
            rename (List.isEmpty _) = false => hb
            unfold wsB at ha1
            rw [show (⟨#[a]⟩ : Str) = mk [a] from rfl, hb] at ha1
            cases ha1
        case pf =>
          refine ⟨?_⟩
          rintro n m₁ news₁ h tk ⟨tok, q, l1, te, hn, hr, htl, ⟨t9, u9, rfl⟩, ta9, kA9, O9, rfl, hO9, A9⟩ F9 N9
          refine' next_tok hO9 (by omega) B' F9 X' N9 A9 hit T' ?hk ?hf42 rfl ?hd ?hu rfl ?done ?item
          case hk => exact rfl
          case hf42 => k_is
          case hd => exact Nat.le_of_ble_eq_true rfl
          case hu => exact Nat.le_of_ble_eq_true rfl
          case done =>
            intro he h' tk1 ta' kA' O' hO' F9 N9 A9
            rw [he] at hr
            simp only [run, Prod.mk.injEq] at hr
            obtain ⟨rfl, rfl, rfl⟩ := hr
            dsimp only
            k_steps
            refine TurnE.next 0 (by decide) (by k_asm) N9 _ (fun p h => h) (.inr ⟨rfl, ⟨_, _, rfl⟩, _, _, _, rfl, hO', A9⟩)
          case item =>
            intro a r he h' tk1 t1 ta' kA' O' hO' F9 N9 A9
            rw [he] at hr
            have hlen : x.length = q + 1 + r.length := by
              have := congrArg List.length he
              rw [List.length_drop, List.length_cons] at this; omega
            refine ⟨h', tk1, _, rfl, F9, N9, fun h2 tk2 F2 N2 => ?_⟩
            have hO2 := hO'
            obtain ⟨D, P, S, DS, f, cA, cT, oA, oT, fdf, fdS, hs, tr, k1, k2, k3, k4, t1, t3, kP, rfl, hg, od⟩ := hO'
            simp only [List.cons_append, List.nil_append] at N2
            clear F9 N9
            have hml : (mk tok).length = tok.length := mk_len tok
            k_steps
            · have ha3 : a = 92 := by
                rename (mk _ == Str.ofString "\\") = true => hb
                have := eq_of_beq hb
                rw [show Str.ofString "\\" = mk [92] from by decide +kernel] at this
                simpa using this
              subst ha3
              refine Hold.out ?_
              rename Fr _ _ _ _ => F5
              rename News _ _ _ _ => N5
              refine' SpecR.out (rest := [(it9, _), (q9, methodObj (.ref 42) (.ref lx))]) (read_char_spec w x at9 lx _ (q + 1) _ _ [] c oc _ hO2 (by omega)).toR B' F5 X' N5 T' ?hk rfl ?hd ?hu rfl (fun p h => h) A9 trivial ?_
              case hk => exact rfl
              case hd => exact Nat.le_of_ble_eq_true rfl
              case hu => exact Nat.le_of_ble_eq_true rfl
              k_whole
              rintro v news' h3 tk3 ⟨t', ta2, kA2, O2, rfl, rfl, hO3⟩ F3 N3 A3
              clear F5 N5
              generalize hy : List.take 1 (List.drop (q + 1) x) = y at hO3 N3 A3 ⊢
              rw [drop_succ he] at hy
              have hyl : y.length ≤ r.length := by rw [← hy, List.length_take]; omega
              have hyl1 : y.length ≤ 1 := by rw [← hy, List.length_take]; omega
              rw [← Int.natCast_add] at N3 A3
              have hmy : (mk y).length = y.length := mk_len y
              k_steps
              rw [run_bs, hy] at hr
              rename Fr _ _ _ _ => F5
              rename News _ _ _ _ => N5
              exact TurnG.next (x.length - (q + 1 + y.length)) (by omega) F5 N5 _ (fun p h => h) ⟨tok ++ y, q + 1 + y.length, _, _, by omega, by rw [drop_two he hy]; exact hr, by simp; omega, ⟨_, _, map3 (by first | (rw [mk_app]; rfl) | rfl) rfl rfl⟩, _, _, _, rfl, hO3, A3⟩
            · have ha3 : a ≠ 92 := by
                rename (mk _ == Str.ofString "\\") = false => hb
                rintro rfl
                rw [show Str.ofString "\\" = mk [92] from by decide +kernel] at hb
                simp at hb
              have ha1 : wsB a = false := by
                rename (List.isEmpty _) = true => hb
                unfold wsB
                rw [show (⟨#[a]⟩ : Str) = mk [a] from rfl, hb]; rfl
              rw [run_plain ha1 ha3] at hr
              rename Fr _ _ _ _ => F5
              rename News _ _ _ _ => N5
              exact TurnG.next (x.length - (q + 1)) (by omega) F5 N5 _ (fun p h => h) ⟨tok ++ [a], q + 1, _, _, by omega, by rw [drop_succ he]; exact hr, by simp; omega, ⟨_, _, map3 (by first | (rw [mk_app]; rfl) | rfl) rfl rfl⟩, _, _, _, rfl, hO2, A9⟩
            · have ha1 : wsB a = true := by
                rename (List.isEmpty _) = false => hb
                unfold wsB
                rw [show (⟨#[a]⟩ : Str) = mk [a] from rfl, hb]; rfl
              rw [run_ws ha1] at hr
              simp only [Prod.mk.injEq] at hr
              obtain ⟨rfl, rfl, rfl⟩ := hr
              exact endR hret ⟨_, _, _, _, rfl, rfl, hO2⟩ (by k_asm) (by assumption) (by assumption) (fun p hp => List.mem_append_left [(it9, citObj (.ref q9) (.str (mk []) te) false), (q9, methodObj (.ref 42) (.ref lx))] hp)
    · refine next_end (bm := q9) rfl F9 N9 (List.mem_append_right _ (.head _)) fun h' F9 N9 => ?_
      dsimp only
      k_steps
      exact endR hret ⟨_, _, _, _, rfl, rfl, hO9⟩ (by k_asm) (by assumption) (by assumption) (fun p hp => List.mem_append_left _ hp)
end
end
end
section
open PySem PySem.W PyProof.Rows
local macro_rules | `(tactic| walk_at "mine pad") => `(tactic| fail)
theorem Mine.rst_E1 : True ∧ True := by
  w_top off
  first | (walk1; all_goals exact True.intro) | exact ⟨True.intro, True.intro⟩
end
section
open PySem PySem.W PySem.Calls PyProof.Rows
section
def rndStep (st : Str × List Str) (o : Str) : Str × List Str := if collS o st.1 = -1 then (o, st.2 ++ [st.1]) else (st.1, st.2 ++ [o])
def rnd (w : Str) (rest : List Str) : Str × List Str := rest.foldl rndStep (w, [])
def riseStep (st : List Str × List Str) : List Str × List Str := match st.1 with
  | [] => st
  | w :: rest => ((rnd w rest).2, st.2 ++ [(rnd w rest).1])
def riseN (ws : List Str) : Nat → List Str × List Str
  | 0 => (ws, [])
  | n + 1 => riseStep (riseN ws n)
theorem rnd_len (rest : List Str) : ∀ st : Str × List Str, (rest.foldl rndStep st).2.length = st.2.length + rest.length := by
  induction rest with
  | nil => intro st; rfl
  | cons o r ih =>
    intro st
    rw [List.foldl_cons, ih]
    have : (rndStep st o).2.length = st.2.length + 1 := by unfold rndStep; split <;> simp
    rw [this, List.length_cons]; omega
theorem riseN_len (ws : List Str) : ∀ n, n ≤ ws.length → (riseN ws n).1.length = ws.length - n ∧ (riseN ws n).2.length = n := by
  intro n
  induction n with
  | zero => intro _; exact ⟨rfl, rfl⟩
  | succ n ih =>
    intro h
    obtain ⟨h1, h2⟩ := ih (by omega)
    show (riseStep (riseN ws n)).1.length = _ ∧ _
    cases e : (riseN ws n).1 with
    | nil => rw [e] at h1; simp at h1; omega
    | cons w rest =>
      rw [e, List.length_cons] at h1
      have e2 : riseStep (riseN ws n) = ((rnd w rest).2, (riseN ws n).2 ++ [(rnd w rest).1]) := by unfold riseStep; rw [e]
      show (riseStep (riseN ws n)).1.length = _ ∧ (riseStep (riseN ws n)).2.length = _
      rw [e2]
      refine ⟨?_, by simp [h2]⟩
      show (rnd w rest).2.length = _
      unfold rnd
      rw [rnd_len]; simp; omega
inductive RiseN (w : World) (x : List Nat) (at9 lx c : Addr) (oc : Obj) (l : Int) (R : Addr) (more : List (Addr × Obj)) (st : List Str × List Str) (news : List (Addr × Obj)) : Prop
  | mk (pb rs : List Value) (k : Nat) (O : List (Addr × Obj)) (e : news = O ++ (R, W.listOf rs.toArray k) :: more) (hO : LexIs w x at9 lx l pb c oc O) (hA : Apart O ((R, W.listOf rs.toArray k) :: more)) (h1 : StrsAre pb st.1) (h2 : StrsAre rs st.2) : RiseN w x at9 lx c oc l R more st news
theorem forget4 {a b c d : Str} {m m₀ : Str → Option Value} (h : ∀ z, z ≠ a → z ≠ b → z ≠ c → z ≠ d → m z = m₀ z) : m = fun z => if z = a then m z else if z = b then m z else if z = c then m z else if z = d then m z else m₀ z := by
  funext z
  by_cases h1 : z = a
  · simp [h1]
  · by_cases h2 : z = b
    · simp [h2]
    · by_cases h3 : z = c
      · simp [h3]
      · by_cases h4 : z = d
        · simp [h4]
        · simp [h1, h2, h3, h4, h z h1 h2 h3 h4]
theorem mapF {a b c : Str} {va : Option Value} {m m₀ : Str → Option Value} (ha : m a = va) (h : ∀ z, z ≠ a → z ≠ b → z ≠ c → m z = m₀ z) : m = fun z => if z = a then va else if z = b then m z else if z = c then m z else m₀ z := by
  funext z
  by_cases h1 : z = a
  · subst h1; simp [ha]
  · by_cases h2 : z = b
    · rw [if_neg h1, if_pos h2]
    · by_cases h3 : z = c
      · rw [if_neg h1, if_neg h2, if_pos h3]
      · simp [h1, h2, h3, h z h1 h2 h3]
theorem apart_snoc {O : List (Addr × Obj)} {l : List (Addr × Obj)} {I : Addr} {oI : Obj} (A : Apart O l) (h : ∀ p ∈ O, p.1 ≠ I) : Apart O ((I, oI) :: l) := fun p hp q hq => by
  rcases List.mem_cons.mp hq with rfl | hq
  · exact h p hp
  · exact A p hp q hq
theorem sub_turn {O l : List (Addr × Obj)} {a : Addr × Obj} : ∀ p ∈ O ++ a :: l, p ∈ a :: (O ++ l) := fun p hp => by
  rcases List.mem_append.mp hp with h | h
  · exact .tail _ (List.mem_append_left _ h)
  · rcases List.mem_cons.mp h with rfl | h
    · exact .head _
    · exact .tail _ (List.mem_append_right _ h)
theorem sub_turn' {O l : List (Addr × Obj)} {a : Addr × Obj} : ∀ p ∈ a :: (O ++ l), p ∈ O ++ a :: l := fun p hp => by
  rcases List.mem_cons.mp hp with rfl | h
  · exact List.mem_append_right _ (.head _)
  · rcases List.mem_append.mp h with h | h
    · exact List.mem_append_left _ h
    · exact List.mem_append_right _ (.tail _ h)
theorem off_app {O l : List (Addr × Obj)} {I : Addr} {oI : Obj} (A : Apart O ((I, oI) :: l)) (h : ∀ p ∈ l, p.1 ≠ I) : ∀ p ∈ O ++ l, p.1 ≠ I := fun p hp => (List.mem_append.mp hp).elim (fun q => A p q _ (.head _)) (h p)
theorem apart_tail {O l : List (Addr × Obj)} {a : Addr × Obj} (A : Apart O (a :: l)) : Apart O l := fun p hp q hq => A p hp q (.tail _ hq)
theorem off_app2 {O l : List (Addr × Obj)} {I : Addr} (A : ∀ p ∈ O, p.1 ≠ I) (h : ∀ p ∈ l, p.1 ≠ I) : ∀ p ∈ O ++ l, p.1 ≠ I := fun p hp => (List.mem_append.mp hp).elim (A p) (h p)
theorem apart_obj {O more : List (Addr × Obj)} {R : Addr} {o o' : Obj} (A : Apart O ((R, o) :: more)) : Apart O ((R, o') :: more) := fun p hp q hq => by
  rcases List.mem_cons.mp hq with rfl | hq
  · exact A p hp (R, o) (.head _)
  · exact A p hp q (.tail _ hq)
theorem upd_app {d : Addr} {o o' : Obj} {O l l' : List (Addr × Obj)} (h : ∀ p ∈ O, p.1 ≠ d) (U : Upd d o o' l l') : Upd d o o' (O ++ l) (O ++ l') := by
  induction O with
  | nil => exact U
  | cons b r ih => exact .tail (h b (.head _)) (ih fun p hp => h p (.tail _ hp))
local macro_rules | `(tactic| ktn_lt) => `(tactic| first | exact Fnd.z | (refine' Fnd.s ?fs; (case fs => ktn_lt)))
theorem push_spec (w : World) (x : List Nat) (at9 lx : Addr) (l : Int) (v9 : Str) (t9 : Tok) (pb : List Value) (c : Addr) (oc : Obj) (O : List (Addr × Obj)) (hO : LexIs w x at9 lx l pb c oc O) (hpb : pb.length < 1000) :
    SpecC w 750 3500 56 [.ref lx, .str v9 t9] O (fun _ => True) (fun v news' => v = .none ∧ LexIs w x at9 lx l (pb ++ [.str v9 t9]) c oc news') := by
  intro p loose mean mg mb rest cn cs a9 ccd cl outer A₀ base h₀ L m s Q E B F X N sep T hk _ hret
  obtain ⟨D, P, S, DS, f, cA, cT, oA, oT, fdf, fdS, hs, tr, k1, k2, k3, k4, t1, t3, kP, rfl, hg, od⟩ := hO
  have od' : Dst [at9, lx, D, P, DS, S, f, c, cA, cT] := od
  have SP := od'.tail
  walk_at "mine enter"
  intro g L' h₁ F' N' B' X' T' kp l1
  generalize s.toks + List.length _ = tk0
  clear l1
  (try dsimp only); (try k_fold)
  k_steps
  refine' endR (wanted := [(_, _), (_, _), (_, _), (_, _), (_, _), (_, _), (_, _), (_, _), (_, _)]) hret ⟨rfl, D, P, S, DS, f, cA, cT, oA, oT, fdf, fdS, hs, tr, k1, k2, k3, k4, t1, t3, kP + 1, by rw [← List.push_toArray], hg, od'⟩ ?kF ?kN ?kA ?kS; walk_at "mine end"
section
local macro_rules | `(tactic| walk_at "pyIter ref") => `(tactic| refine hold ?_)
local macro_rules | `(tactic| walk_at "call ref") => `(tactic| (k_here; (with_reducible show wpAny _ _ (call (Value.ref _) _) _ _ _); (refine hold ?_)))
local macro_rules | `(tactic| walk_at "call type:range") => `(tactic| (k_here; (with_reducible show wpAny _ _ (call _ [Value.int (Nat.cast (List.length _)) _, _, _]) _ _ _); (refine hold ?_)))
local macro_rules | `(tactic| walk_at "call builtin:list.append") => `(tactic| refine hold ?_)
inductive RiseRet (w : World) (x : List Nat) (at9 lx c : Addr) (oc : Obj) (l : Int) (ws : List Str) (v : Value) (news' : List (Addr × Obj)) : Prop
  | mk (R : Addr) (rs : List Value) (k : Nat) (O' : List (Addr × Obj)) (ev : v = .ref R) (en : news' = (R, W.listOf rs.toArray k) :: O') (hO : LexIs w x at9 lx l [] c oc O') (hs : StrsAre rs (riseN ws 8).2) (hA : Apart O' [(R, W.listOf rs.toArray k)]) : RiseRet w x at9 lx c oc l ws v news'
inductive RiseJ (w : World) (x : List Nat) (at9 lx c : Addr) (oc : Obj) (l : Int) (more : List (Addr × Obj)) (qd : List Str) (rj : Str × List Str) (m m₁ : Str → Option Value) (news₁ : List (Addr × Obj)) : Prop
  | mk (t : Tok) (u : Str → Option Value) (em : m₁ = fun z => if z = Str.ofString "word" then some (.str rj.1 t) else if z = Str.ofString "turn" then u z else if z = Str.ofString "other" then u z else m z) (pb : List Value) (O : List (Addr × Obj)) (en : news₁ = O ++ more) (hO : LexIs w x at9 lx l pb c oc O) (hA : Apart O more) (h1 : StrsAre pb (qd ++ rj.2)) (h2 : pb.length ≤ 7) : RiseJ w x at9 lx c oc l more qd rj m m₁ news₁
theorem rising_spec (w : World) (x : List Nat) (at9 lx wa : Addr) (l : Int) (vs : List Value) (ws : List Str) (hvs : StrsAre vs ws) (hlen : ws.length = 8) (c : Addr) (oc : Obj) (O : List (Addr × Obj)) (hO : LexIs w x at9 lx l [] c oc O) :
    SpecR w 700 3000 117 [.ref lx, .ref wa] O (fun g => g.IsList wa vs.toArray) (RiseRet w x at9 lx c oc l ws) := by
  intro p loose mean mg mb rest cn cs a9 ccd cl outer A₀ base h₀ L m s Q E B F X N sep T hk hold9 hret
  refine wpAny_call ?_
  walk_at "mine enter"
  intro g L' h₁ F' N' B' X' T' kp l1
  have hl : g.IsList wa vs.toArray := by
    obtain ⟨o, ho, r⟩ := hold9
    exact ⟨o, hid_up kp _ _ ho, r⟩
  generalize s.toks + List.length _ = tk0
  (try dsimp only); (try k_fold)
  k_steps
  refine Hold.out ?_
  rename Fr _ _ _ _ => F5
  rename News _ _ _ _ => N5
  refine' for_base (m₀ := ?M) (fun i m₁ news₁ => (∃ u : Str → Option Value, m₁ = fun z => if z = Str.ofString "word" then u z else (?M : Str → Option Value) z) ∧ ∃ pb, LexIs w x at9 lx l pb c oc news₁ ∧ StrsAre pb (ws.take i)) rfl hl F5 N5 ?j ?t ?d
  case j => exact ⟨⟨_, forget1 fun _ _ => rfl⟩, [], hO, .nil⟩
  case t =>
    rintro I lI lL i a m₁ news₁ h tk oI hi ⟨⟨u', rfl⟩, pb, hO1, hpb⟩ off F9 N9
    obtain ⟨y, t9, rfl, hy⟩ := hvs.item i a hi
    have hpl := hpb.length
    have hil : i < ws.length := (List.getElem?_eq_some_iff.mp hy).1
    rw [List.length_take] at hpl
    have hO2 := hO1
    obtain ⟨D, P, S, DS, f, cA, cT, oA, oT, fdf, fdS, hs, tr, k1, k2, k3, k4, t1, t3, kP, rfl, hg, od⟩ := hO1
    (try dsimp only); (try k_fold)
    clear F5 N5 hO
    k_steps
    refine Hold.out ?_
    rename Fr _ _ _ _ => F5
    rename News _ _ _ _ => N5
    refine' SpecR.out (rest := [(I, oI)]) (push_spec w x at9 lx l y t9 pb c oc _ hO2 (by omega)).toR B' F5 X' N5 T' ?hk rfl ?hd ?hu rfl ?hsub ?sep trivial ?_
    case hk => exact rfl
    case hd => exact Nat.le_of_ble_eq_true rfl
    case hu => exact Nat.le_of_ble_eq_true rfl
    case hsub => exact fun p hp => (List.mem_append.mp hp).elim (fun h => .tail _ h) fun h => by rw [List.mem_singleton.mp h]; exact .head _
    case sep => exact fun p hp q hq => by rw [List.mem_singleton.mp hq]; exact off p hp
    k_whole
    rintro v news' h3 tk3 ⟨rfl, hO3⟩ F3 N3 A3
    clear F5 N5
    k_steps
    refine' TurnEnd.next F3 N3 _ (fun p hp => ?_) (fun p hp => A3 p hp _ (.head _)) ⟨⟨_, forget1 fun z hz => ?_⟩, _, hO3, ?_⟩
    · rcases List.mem_cons.mp hp with rfl | hp
      · exact List.mem_append_right _ (.head _)
      · exact List.mem_append_left _ hp
    · simp only [hz, if_false]
    · rw [List.take_add_one, hy]
      exact hpb.append' (.cons _ _ .nil)
  case d =>
    rintro m₁ news₁ h tk ⟨⟨u', rfl⟩, pb, hO1, hpb⟩ F9 N9
    clear F5 N5 hO
    rw [hvs.length, List.take_length] at hpb
    have hvl := hvs.length
    (try dsimp only); (try k_fold)
    k_steps
    refine Hold.out ?_
    rw [show ((ws.length : Nat) : Int) = 8 from by omega]
    k_steps
    refine Hold.out ?_
    rename Fr _ _ _ _ => F5
    rename News _ _ _ _ => N5
    rename_i hlk R9 h1' Fa Na lR h2' Fb Nb h3' tk3 ra rb rc hra keep
    clear Fa Na Fb Nb keep
    refine' for_range (m₀ := ?M2) 8 (fun i m₁ news₁ => (∃ u : Str → Option Value, m₁ = fun z => if z = Str.ofString "word" then u z else if z = Str.ofString "left" then u z else if z = Str.ofString "turn" then u z else if z = Str.ofString "other" then u z else (?M2 : Str → Option Value) z) ∧ RiseN w x at9 lx c oc l R9 [] (riseN ws i) news₁) rfl hra (by decide) (by decide) ?F ?N ?j ?t ?d
    case F => k_asm
    case N => exact (drop N5 (fun p hp => (List.mem_append.mp hp).elim (fun h => .tail _ h) fun h => by rw [List.mem_singleton.mp h]; exact .head _) : News _ _ _ (news₁ ++ [(R9, W.listOf #[] 0)]))
    case j => exact ⟨⟨_, forget4 fun _ _ _ _ _ => rfl⟩, pb, [], _, _, rfl, hO1, fun p hp q hq => by rw [List.mem_singleton.mp hq]; exact Nat.ne_of_lt (lR p hp), hlk, .nil⟩
    case t =>
      rintro I lI lL i u m₁ news₁ h tk oI hi ⟨⟨u', rfl⟩, pb, rs, kR, O, rfl, hO1, A1, hpb, hrs⟩ off F9 N9
      have hst := riseN_len ws i (by omega)
      have hrl := hrs.length
      rw [hst.2] at hrl
      have hrl2 : rs.length < 1000 := by omega
      have hnext : riseN ws (i + 1) = riseStep (riseN ws i) := rfl
      rw [hnext]
      generalize riseN ws i = sti at *
      obtain ⟨q1, r1⟩ := sti
      dsimp only at hst hpb hrs
      cases q1 with
      | nil => exfalso; have := hst.1; simp at this; omega
      | cons wd q1 =>
        obtain ⟨t9, pb', rfl, hpb'⟩ := hpb.cons_inv
        have hql : q1.length = 7 - i := by have := hst.1; rw [List.length_cons] at this; omega
        have hpl := hpb'.length
        have hpl2 : pb'.length < 1000 := by omega
        have hO2 := hO1
        obtain ⟨D, P, S, DS, f, cA, cT, oA, oT, fdf, fdS, hs, tr, k1, k2, k3, k4, t1, t3, kP, rfl, hg, od⟩ := hO1
        have offO := fun p hp => off p (List.mem_append_left _ hp)
        have A2 := apart_snoc (oI := oI) A1 offO
        replace N9 := drop N9 sub_turn
        clear F5 N5
        have hold1 : Hold (i < 8) := hi
        have hold2 : Hold (q1.length = 7 - i) := hql
        have hold3 : Hold (pb'.length = q1.length) := hpl
        have hoff : Hold (∀ p ∈ [(R9, W.listOf rs.toArray kR)], p.1 ≠ I) := fun p hp => off p (List.mem_append_right _ hp)
        clear hi hql hpl hst hrl off
        simp only [List.cons_append, List.nil_append] at N9
        (try dsimp only); (try k_fold)
        k_steps
        refine Hold.out ?_
        rename Fr _ _ _ _ => F5
        rename News _ _ _ _ => N5
        refine' SpecR.out (rest := [(I, oI), (R9, W.listOf rs.toArray kR)]) (tok_pb w x at9 lx l wd t9 pb' c oc _ hO2 hpl2).toR B' F5 X' N5 T' ?hk rfl ?hd ?hu rfl (fun p h => h) A2 trivial ?_
        case hk => exact rfl
        case hd => exact Nat.le_of_ble_eq_true rfl
        case hu => exact Nat.le_of_ble_eq_true rfl
        k_whole
        rintro v news' h3 tk3 ⟨rfl, hO3⟩ F3 N3 A3
        clear F5 N5
        k_steps
        refine Hold.out ?_
        rename Fr _ _ _ _ => F5
        rename News _ _ _ _ => N5
        have e9 : (8 + (i : Int) * -1 - 1) = ((7 - i : Nat) : Int) := by have : i < 8 := hold1; omega
        refine' for_range (m₀ := ?M3) (7 - i) (fun j => RiseJ w x at9 lx c oc l [(I, oI), (R9, W.listOf rs.toArray kR)] (q1.drop j) ((q1.take j).foldl rndStep (wd, [])) ?M3) rfl ?r3 ?sm3 ?sz3 ?F3 ?N3 ?j3 ?t3 ?d3
        case r3 => assumption
        case F3 => k_asm
        case N3 => exact N5
        case sm3 => rw [e9]; exact small_up (by omega)
        case sz3 => rw [e9]; exact size_up
        case j3 =>
          have h8 : q1.length = 7 - i := hold2
          have h9 : pb'.length = q1.length := hold3
          refine ⟨_, _, mapF rfl fun _ _ _ _ => rfl, pb', _, rfl, hO3, A3, ?_, by omega⟩
          simpa using hpb'
        case t3 =>
          rintro I2 lI2 lL2 j u2 m₂ news₂ h4 tk4 oI2 hj ⟨t5, u5, rfl, pb2, O2, rfl, hO4, A4, hpb2, hp7⟩ off2 F6 N6
          have h8 : q1.length = 7 - i := hold2
          have hj2 : j < q1.length := by omega
          have hd1 : q1.drop j = q1[j] :: q1.drop (j + 1) := List.drop_eq_getElem_cons hj2
          have ht1 : q1.take (j + 1) = q1.take j ++ [q1[j]] := by rw [List.take_add_one, List.getElem?_eq_getElem hj2]; rfl
          rw [ht1, List.foldl_append]
          rw [hd1, List.cons_append] at hpb2
          generalize (q1.take j).foldl rndStep (wd, []) = rj at *
          generalize q1[j] = y9 at *
          obtain ⟨wj, qj⟩ := rj
          obtain ⟨t7, pb3, rfl, hpb3⟩ := hpb2.cons_inv
          rw [List.length_cons] at hp7
          have hp3 : pb3.length < 1000 := by omega
          have hO5 := hO4
          obtain ⟨D, P, S, DS, f, cA, cT, oA, oT, fdf, fdS, hs, tr, k1, k2, k3, k4, t1, t3, kP, rfl, hg, od⟩ := hO4
          have offO := fun p hp => off2 p (List.mem_append_left _ hp)
          have A5 := apart_snoc (oI := oI2) A4 offO
          replace N6 := drop N6 sub_turn
          have hoff2 : Hold (∀ p ∈ [(I, oI), (R9, W.listOf rs.toArray kR)], p.1 ≠ I2) := fun p hp => off2 p (List.mem_append_right _ hp)
          clear F5 N5 off2 F3 N3 A3
          simp only [List.cons_append, List.nil_append] at N6
          (try dsimp only); (try k_fold)
          k_steps
          refine Hold.out ?_
          rename Fr _ _ _ _ => F5
          rename News _ _ _ _ => N5
          refine' SpecR.out (rest := [(I2, oI2), (I, oI), (R9, W.listOf rs.toArray kR)]) (tok_pb w x at9 lx l y9 t7 pb3 c oc _ hO5 hp3).toR B' F5 X' N5 T' ?hk rfl ?hd ?hu rfl (fun p h => h) A5 trivial ?_
          case hk => exact rfl
          case hd => exact Nat.le_of_ble_eq_true rfl
          case hu => exact Nat.le_of_ble_eq_true rfl
          k_whole
          rintro v news' h3 tk3 ⟨rfl, hO6⟩ F3 N3 A3
          clear F5 N5
          k_steps
          refine Hold.out ?_
          rename Fr _ _ _ _ => F5
          rename News _ _ _ _ => N5
          refine' Spec.out (strcoll_spec w y9 wj t7 t5) B' F5 X' N5 T' ?hk rfl ?hd ?hu rfl ?_
          case hk => exact rfl
          case hd => exact Nat.le_of_ble_eq_true rfl
          case hu => exact Nat.le_of_ble_eq_true rfl
          intro t8 h8 tk8 F8 N8
          have hO7 := hO6
          obtain ⟨D, P, S, DS, f, cA, cT, oA, oT, fdf, fdS, hs, tr, k1, k2, k3, k4, t1, t3, kP, rfl, hg, od⟩ := hO6
          clear F5 N5 F3 N3
          simp only [List.cons_append, List.nil_append] at N8
          k_whole
          (try dsimp only); (try k_sweep)
          k_steps
          · rename (_ - _ = (-1 : Int)) => hb
            have hs : List.foldl rndStep (wj, qj) [y9] = (y9, qj ++ [wj]) := by show rndStep _ _ = _; unfold rndStep; rw [if_pos (show collS y9 wj = -1 from hb)]
            refine Hold.out ?_
            rename Fr _ _ _ _ => F5
            rename News _ _ _ _ => N5
            refine' SpecR.out (rest := [(I2, oI2), (I, oI), (R9, W.listOf rs.toArray kR)]) (push_spec w x at9 lx l wj t5 pb3 c oc _ hO7 hp3).toR B' F5 X' N5 T' ?hk rfl ?hd ?hu rfl (fun p h => .tail _ h) A3 trivial ?_
            case hk => exact rfl
            case hd => exact Nat.le_of_ble_eq_true rfl
            case hu => exact Nat.le_of_ble_eq_true rfl
            k_whole
            rintro v news' h3 tk3 ⟨rfl, hO8⟩ F9 N9 A9
            clear F5 N5
            k_steps
            rw [hs]
            refine' TurnEnd.next F9 N9 _ sub_turn' (off_app A9 hoff2) ⟨_, _, mapF rfl fun z z1 z2 z3 => ?_, _, _, rfl, hO8, apart_tail A9, ?_, ?_⟩
            · simp only [z1, z2, z3, if_false]
            · have := hpb3.append' (.cons wj t5 .nil)
              rw [List.append_assoc] at this
              exact this
            · simp; omega
          · rename (_ - _ ≠ (-1 : Int)) => hb
            have hs : List.foldl rndStep (wj, qj) [y9] = (wj, qj ++ [y9]) := by show rndStep _ _ = _; unfold rndStep; rw [if_neg (show ¬ collS y9 wj = -1 from hb)]
            refine Hold.out ?_
            rename Fr _ _ _ _ => F5
            rename News _ _ _ _ => N5
            refine' SpecR.out (rest := [(I2, oI2), (I, oI), (R9, W.listOf rs.toArray kR)]) (push_spec w x at9 lx l y9 t7 pb3 c oc _ hO7 hp3).toR B' F5 X' N5 T' ?hk rfl ?hd ?hu rfl (fun p h => h) A3 trivial ?_
            case hk => exact rfl
            case hd => exact Nat.le_of_ble_eq_true rfl
            case hu => exact Nat.le_of_ble_eq_true rfl
            k_whole
            rintro v news' h3 tk3 ⟨rfl, hO8⟩ F9 N9 A9
            clear F5 N5
            k_steps
            rw [hs]
            refine' TurnEnd.next F9 N9 _ sub_turn' (off_app A9 hoff2) ⟨_, _, mapF rfl fun z z1 z2 z3 => ?_, _, _, rfl, hO8, apart_tail A9, ?_, ?_⟩
            · simp only [z1, z2, z3, if_false]
            · have := hpb3.append' (.cons y9 t7 .nil)
              rw [List.append_assoc] at this
              exact this
            · simp; omega
        case d3 =>
          rintro m₂ news₂ h4 tk4 ⟨t5, u5, rfl, pb2, O2, rfl, hO4, A4, hpb2, hp7⟩ F6 N6
          rw [show 7 - i = q1.length from Eq.symm hold2] at hpb2 F6
          rw [List.drop_length, List.take_length, List.nil_append] at hpb2
          rw [List.take_length] at F6
          have hO5 := hO4
          obtain ⟨D, P, S, DS, f, cA, cT, oA, oT, fdf, fdS, hs, tr, k1, k2, k3, k4, t1, t3, kP, rfl, hg, od⟩ := hO4
          clear F5 N5 F3 N3
          simp only [List.cons_append, List.nil_append] at N6
          (try dsimp only); (try k_fold)
          k_steps
          refine Hold.out ?_
          rename Fr _ _ _ _ => F5
          rename News _ _ _ _ => N5
          refine' append_K F5 N5 (upd_app (fun p hp => A4 p hp _ (.tail _ (.head _))) (.tail (fun e => hoff _ (.head _) e.symm) (.head (fun _ h => nomatch h)))) ?_ (by rw [sizeLine_eq, List.size_toArray]; omega)
          intro h7 F7 N7
          rw [List.push_toArray] at N7
          k_steps
          refine' TurnEnd.next F7 N7 _ sub_turn' (off_app2 (fun p hp => A4 p hp _ (.head _)) (fun p hp => by rw [List.mem_singleton.mp hp]; exact hoff (R9, W.listOf rs.toArray kR) (.head _))) ⟨⟨_, forget4 fun z z1 z2 z3 z4 => ?_⟩, _, _, _, _, rfl, hO5, apart_obj (apart_tail A4), hpb2, ?_⟩
          · simp only [z1, z2, z3, z4, if_false]
          · exact hrs.append' (.cons _ _ .nil)
    case d =>
      rintro m₁ news₁ h tk ⟨⟨u', rfl⟩, pb, rs, kR, O, rfl, hO1, A1, hpb, hrs⟩ F9 N9
      have hst := riseN_len ws 8 (by omega)
      have hpn : pb = [] := by
        have := hpb.length
        rw [hst.1, hlen] at this
        exact List.eq_nil_of_length_eq_zero this
      subst hpn
      clear F5 N5
      (try dsimp only); (try k_fold)
      k_steps
      refine' endR hret ⟨R9, rs, kR, O, rfl, rfl, hO1, hrs, A1⟩ ?kF ?kN ?kA ?kS
      case kF => k_asm
      case kN => assumption
      case kA => assumption
      case kS =>
        intro p hp
        rcases List.mem_cons.mp hp with rfl | hp
        · exact List.mem_append_right _ (.head _)
        · exact List.mem_append_left _ hp
end
end
end
end
end
section
open PySem PySem.W PySem.Calls PyProof.Rows
section
inductive C1s (cm : Str → Option Value) (n : Str) (c : Addr) (r : List (Str × Addr)) (cells : List (Addr × Obj)) : Prop
  | mk (o : Obj) (s : List (Addr × Obj)) (e : cells = (c, o) :: s) (h : o.data = .cell (cm n)) (x : CellsAre cm r s) : C1s cm n c r cells
theorem c1s {cm : Str → Option Value} {n : Str} {c : Addr} {r : List (Str × Addr)} {cells : List (Addr × Obj)} (x : CellsAre cm ((n, c) :: r) cells) : C1s cm n c r cells := by
  cases x with | cons h r => exact ⟨_, _, rfl, h, r⟩
theorem c0s {cm : Str → Option Value} {cells : List (Addr × Obj)} (x : CellsAre cm [] cells) : cells = [] := by
  cases x; rfl
inductive C14 (cm : Str → Option Value) (n₁ n₂ n₃ n₄ n₅ n₆ n₇ n₈ n₉ n₁₀ n₁₁ n₁₂ n₁₃ n₁₄ : Str) (c₁ c₂ c₃ c₄ c₅ c₆ c₇ c₈ c₉ c₁₀ c₁₁ c₁₂ c₁₃ c₁₄ : Addr) (cells : List (Addr × Obj)) : Prop
  | mk (o₁ o₂ o₃ o₄ o₅ o₆ o₇ o₈ o₉ o₁₀ o₁₁ o₁₂ o₁₃ o₁₄ : Obj) (e : cells = [(c₁, o₁), (c₂, o₂), (c₃, o₃), (c₄, o₄), (c₅, o₅), (c₆, o₆), (c₇, o₇), (c₈, o₈), (c₉, o₉), (c₁₀, o₁₀), (c₁₁, o₁₁), (c₁₂, o₁₂), (c₁₃, o₁₃), (c₁₄, o₁₄)]) (h₁ : o₁.data = .cell (cm n₁)) (h₂ : o₂.data = .cell (cm n₂)) (h₃ : o₃.data = .cell (cm n₃)) (h₄ : o₄.data = .cell (cm n₄)) (h₅ : o₅.data = .cell (cm n₅)) (h₆ : o₆.data = .cell (cm n₆)) (h₇ : o₇.data = .cell (cm n₇)) (h₈ : o₈.data = .cell (cm n₈)) (h₉ : o₉.data = .cell (cm n₉)) (h₁₀ : o₁₀.data = .cell (cm n₁₀)) (h₁₁ : o₁₁.data = .cell (cm n₁₁)) (h₁₂ : o₁₂.data = .cell (cm n₁₂)) (h₁₃ : o₁₃.data = .cell (cm n₁₃)) (h₁₄ : o₁₄.data = .cell (cm n₁₄)) : C14 cm n₁ n₂ n₃ n₄ n₅ n₆ n₇ n₈ n₉ n₁₀ n₁₁ n₁₂ n₁₃ n₁₄ c₁ c₂ c₃ c₄ c₅ c₆ c₇ c₈ c₉ c₁₀ c₁₁ c₁₂ c₁₃ c₁₄ cells
theorem kc_14 {cm : Str → Option Value} {n₁ n₂ n₃ n₄ n₅ n₆ n₇ n₈ n₉ n₁₀ n₁₁ n₁₂ n₁₃ n₁₄ : Str} {c₁ c₂ c₃ c₄ c₅ c₆ c₇ c₈ c₉ c₁₀ c₁₁ c₁₂ c₁₃ c₁₄ : Addr} {cells : List (Addr × Obj)} (x : CellsAre cm [(n₁, c₁), (n₂, c₂), (n₃, c₃), (n₄, c₄), (n₅, c₅), (n₆, c₆), (n₇, c₇), (n₈, c₈), (n₉, c₉), (n₁₀, c₁₀), (n₁₁, c₁₁), (n₁₂, c₁₂), (n₁₃, c₁₃), (n₁₄, c₁₄)] cells) : C14 cm n₁ n₂ n₃ n₄ n₅ n₆ n₇ n₈ n₉ n₁₀ n₁₁ n₁₂ n₁₃ n₁₄ c₁ c₂ c₃ c₄ c₅ c₆ c₇ c₈ c₉ c₁₀ c₁₁ c₁₂ c₁₃ c₁₄ cells := by
  obtain ⟨o₁, s₁, e₁, h₁, x⟩ := c1s x
  obtain ⟨o₂, s₂, e₂, h₂, x⟩ := c1s x
  obtain ⟨o₃, s₃, e₃, h₃, x⟩ := c1s x
  obtain ⟨o₄, s₄, e₄, h₄, x⟩ := c1s x
  obtain ⟨o₅, s₅, e₅, h₅, x⟩ := c1s x
  obtain ⟨o₆, s₆, e₆, h₆, x⟩ := c1s x
  obtain ⟨o₇, s₇, e₇, h₇, x⟩ := c1s x
  obtain ⟨o₈, s₈, e₈, h₈, x⟩ := c1s x
  obtain ⟨o₉, s₉, e₉, h₉, x⟩ := c1s x
  obtain ⟨o₁₀, s₁₀, e₁₀, h₁₀, x⟩ := c1s x
  obtain ⟨o₁₁, s₁₁, e₁₁, h₁₁, x⟩ := c1s x
  obtain ⟨o₁₂, s₁₂, e₁₂, h₁₂, x⟩ := c1s x
  obtain ⟨o₁₃, s₁₃, e₁₃, h₁₃, x⟩ := c1s x
  obtain ⟨o₁₄, s₁₄, e₁₄, h₁₄, x⟩ := c1s x
  exact ⟨o₁, o₂, o₃, o₄, o₅, o₆, o₇, o₈, o₉, o₁₀, o₁₁, o₁₂, o₁₃, o₁₄, by rw [e₁, e₂, e₃, e₄, e₅, e₆, e₇, e₈, e₉, e₁₀, e₁₁, e₁₂, e₁₃, e₁₄, c0s x], h₁, h₂, h₃, h₄, h₅, h₆, h₇, h₈, h₉, h₁₀, h₁₁, h₁₂, h₁₃, h₁₄⟩
end
end
section
open PySem PySem.W PySem.Calls PyProof.Rows
section
section
variable {prog : Program} {w : World} {A : Around} {E : Value → Shared → Prop} {s : Shared}
theorem collect_range {Q : List Value → Shared → Prop} {r : Addr} {a b c : Int} {t u v : Tok} {n : Nat} (hh : A.handled = none) (hr : IsRange s.heap r a b c t u v) (hsmall : Builtin.Range.small a b c = true)
    (hn : Builtin.Range.rangeSize a b c = n) (hlen : n ≤ 2 ^ 24)
    (hQ : ∀ h' tk (acc : Array Value), (∀ b o, s.heap.get? b = some o → h'.get? b = some o) → ItemsOf (fun i v => ∃ t, v = .int (a + i * c) t) acc n → Q acc.toList { s with heap := h', toks := tk }) :
    wpAny (model prog w) A (collect (.ref r)) Q E s := by
  unfold collect
  refine wpAny_bind (wpAny_runValue (codeAny_builtin F.entry_proto_collect ?_))
  rw [Around.under_plainId F.plain_proto_collect _]
  show wpAny _ A.in1 (newList [] >>= fun l => again (.builtin "list.__iadd__" ⟨[l, .ref r], []⟩)) _ _ s
  refine wpAny_bind (wpAny_newObj_type ?_ (by size_fits))
  refine wpAny_pure ⟨plainId_quiet F.plain_list_iadd _, codeAny_builtin F.entry_list_iadd ?_⟩
  rw [Around.under_plainId F.plain_list_iadd _]
  have hS : (s.heap.push { cls := .type "list", data := .seq ([] : List Value).toArray }).get? s.heap.objs.size = some { cls := .type "list", data := .seq #[] } := Heap.get?_push_size _ rfl
  show wpAny _ A.in1 (Builtin.List.listExtendWith (.ref s.heap.objs.size) (.ref r) (.ref s.heap.objs.size)) _ _ _
  refine wpAny_extend_range (R := fun r s' => match r with
      | .ok (.ret v) => wpAny (model prog w) A (match v with
        | .ref a => (do match (← load a).data with
          | .seq xs _ => pure xs.toList
          | _ => unsupported "internal:collect")
        | _ => unsupported "internal:collect") Q E s'
      | .ok _ => False
      | .error e => E e s') (s := { s with heap := s.heap.push { cls := .type "list", data := .seq ([] : List Value).toArray } }) hh (Heap.get?_push_of_some _ hr) hsmall hn hlen s.heap.objs.size _ _ hS fun h' tk acc' c' hk hS' hacc => ?_
  show wpAny _ A (load s.heap.objs.size >>= _) _ _ _
  refine wpAny_bind (wpAny_load hS' ?_)
  exact wpAny_pure (hQ h' tk acc' (fun b o e => hk b o (Nat.ne_of_lt (Heap.lt_size e)) (Heap.get?_push_of_some _ e)) hacc)
variable {h₀ : Heap} {L : Addr} {m : Str → Option Value} {news : List (Addr × Obj)}
theorem sorted_range0 {Q : Value → Shared → Prop} {r : Addr} {t u v : Tok} {n : Nat} {kz : List Int} {f : Addr} (hh : A.handled = none) (F : Fr h₀ L s.heap m) (N : News h₀ L s.heap news) (hr : IsRange s.heap r 0 (n : Int) 1 t u v) (hn : n < 64)
    (hlen : kz.length = n)
    (turn : ∀ (i : Nat) (t : Tok) (k : Int), i < n → kz[i]? = some k → ∀ (h : Heap) (tk : Nat) (own : List (Addr × Obj)), Fr h₀ L h m → News h₀ L h (news ++ own) →
      wpAny (model prog w) A.in1.in1 (call (.ref f) [.int (i : Int) t]) (KskEnd h₀ L m (news ++ own) k { s with heap := h, toks := tk }) (fun _ _ => False) { s with heap := h, toks := tk })
    (h : ∀ D h' tk out c (vs : List Value), Fr h₀ L h' m → News h₀ L h' ((D, seqObj "list" out c) :: news) → (∀ q ∈ news, q.1 < D) → IntsAre vs (List.map (fun i : Nat => (i : Int)) (List.range n)) → KskOut false kz vs out.toList → Q (.ref D) { s with heap := h', toks := tk }) :
    wpAny (model prog w) A (call (.builtin "sorted") [.ref r] [(Str.ofString "key", .ref f)]) Q E s := by
  refine call_function_entry_kw kind_sorted plain_sorted entry_sorted (ksk_s1 _ _) ?_
  unfold Builtin.«sorted»
  refine wpAny_bind (m := checkCount "sorted" 1 1 _) (wpAny_pure ?_)
  refine wpAny_bind (collect_range (A := A.in1) (n := n) hh hr (small_one (by omega) (by omega) (by omega) (by omega)) (by rw [rangeSize_nat]; omega) (by omega) fun h1 tk1 acc hk hacc => ?_)
  have hal : acc.toList.length = n := by rw [Array.length_toList]; exact hacc.1
  refine wpAny_bind (wpAny_newList ?_ (by rw [hal, sizeLine_eq]; omega))
  have hints : IntsAre acc.toList (List.map (fun i : Nat => (i : Int)) (List.range n)) := by
    have key : ∀ (l : List Value) (i0 : Nat), (∀ j v, l[j]? = some v → ∃ t, v = Value.int ((i0 + j : Nat) : Int) t) → IntsAre l (List.map (fun i : Nat => (i : Int)) (List.range' i0 l.length)) := by
      intro l
      induction l with
      | nil => intro i0 _; exact .nil
      | cons x r ih =>
        intro i0 hx
        obtain ⟨t9, rfl⟩ := hx 0 x rfl
        rw [List.length_cons, List.range'_succ, List.map_cons]
        exact .cons _ _ (ih (i0 + 1) fun j v hv => by
          have := hx (j + 1) v hv
          rw [show i0 + (j + 1) = i0 + 1 + j by omega] at this
          exact this)
    have := key acc.toList 0 fun j v hv => by
      have hv' : acc[j]? = some v := by simpa using hv
      obtain ⟨t9, e⟩ := hacc.2 j v hv'
      exact ⟨t9, by rw [e, Int.zero_add, Int.mul_one, Nat.zero_add]⟩
    rw [hal, ← List.range_eq_range'] at this
    exact this
  have hoL : (h1.push (seqObj "list" acc.toList.toArray 0)).get? h1.objs.size = some (seqObj "list" acc.toList.toArray 0) := Heap.get?_push_size _ rfl
  have keep : ∀ b o, s.heap.get? b = some o → (h1.push (seqObj "list" acc.toList.toArray 0)).get? b = some o := fun b o q => Heap.get?_push_of_some _ (hk b o q)
  have F1 : Fr h₀ L h1 m := F.keeps hk
  have N1 : News h₀ L h1 news := fun p hp => ⟨hk _ _ (N p hp).1, (N p hp).2⟩
  show wpAny _ _ _ _ _ { s with heap := h1.push (seqObj "list" acc.toList.toArray 0), toks := tk1 }
  refine wpAny_bind (wpAny_holding (wpAny_call_entry_kw slot_list_sort ⟨_, hoL, rfl⟩ entry_list_sort ?body (ksk_l1 _ _)))
  case body =>
    show wpAny (model prog w) A.in1.in1 (Builtin.«list.sort» ⟨[.ref h1.objs.size], [(Str.ofString "key", .ref f)]⟩) _ _ _
    rw [ksk_t1]
    refine ksk_sort (kz := kz) (vs := acc.toList) (s := { s with heap := h1.push (seqObj "list" acc.toList.toArray 0), toks := tk1 })
      (F1.push _) (fun p hp => ⟨Heap.get?_push_of_some _ (N1 p hp).1, (N1 p hp).2⟩) hoL (Nat.ne_of_gt F1.ns.lt) (Heap.get?_none_of_le (Nat.le_trans F1.above (Nat.le_of_lt F1.ns.lt)))
      (fun p hp => Nat.ne_of_lt (Heap.lt_size (N1 p hp).1)) (by rw [hal]; exact hlen) (by rw [hal]; exact hn) (fun i v k hv hk2 h2 tk2 own F2 N2 => ?_) fun h' tk out c F' N' k' => ⟨_, rfl, ?_⟩
    · obtain ⟨hi, t9, rfl⟩ : i < n ∧ ∃ t, v = .int (i : Int) t := by
        have hv' : acc[i]? = some v := by simpa using hv
        obtain ⟨t9, e⟩ := hacc.2 i v hv'
        have hi : i < n := by
          have := (Array.getElem?_eq_some_iff.mp hv').1
          rw [hacc.1] at this; exact this
        exact ⟨hi, t9, by rw [e, Int.zero_add, Int.mul_one]⟩
      exact turn i _ k hi hk2 h2 tk2 own F2 N2
    exact wpAny_pure ⟨_, rfl, h _ h' tk out c acc.toList F' N' (fun q hq => Heap.lt_size (N1 q hq).1) hints k'⟩
end
end
end
section
open PySem PySem.W PySem.Calls PyProof.Rows
section
def pickI (x y : List Nat) (e : Int) : List Nat := if e = 0 then x else y
def msgI (x y : List Nat) (i : Int) : List Nat := pickI x y (i.fdiv 4) ++ pickI x y ((i.fdiv 2).fmod 2) ++ pickI x y (i.fmod 2) ++ x ++ y
theorem pick_len {x y : List Nat} {e : Int} (hx : x.length ≤ 4) (hy : y.length ≤ 4) : (pickI x y e).length ≤ 4 := by unfold pickI; split <;> assumption
theorem msg_len {x y : List Nat} {e : Int} (hx : x.length ≤ 4) (hy : y.length ≤ 4) : (msgI x y e).length ≤ 20 := by
  unfold msgI
  have h1 := pick_len (e := e.fdiv 4) hx hy
  have h2 := pick_len (e := (e.fdiv 2).fmod 2) hx hy
  have h3 := pick_len (e := e.fmod 2) hx hy
  simp only [List.length_append]; omega
section
variable {prog : Program} {w : World} {A : Around} {E : Value → Shared → Prop} {s : Shared} {h₀ : Heap} {L : Addr} {news : List (Addr × Obj)}
/-- an item of a list at a known place -/
theorem itemV {value slice : PySem.Expr} {l : Addr} {vs : List Value} {k : Int} {u : Tok} {v : Value} {Q : Value → Shared → Prop}
    (hl : s.heap.IsList l vs.toArray) (h0 : 0 ≤ k) (hhi : k < 2 ^ 63) (hx : vs[k.toNat]? = some v) (h : Q v s)
    (hs : subscripted slice false (.ref l) (.int k u) = operate [.ref l, .int k u] (getItem (.ref l) (.int k u)) := by with_unfolding_all rfl) :
    wpAny (model prog w) A (subscriptTail value slice (.ref l) (.int k u)) Q E s :=
  tail_any hl.typeIs slot_list_getitem.lookup (wpAny_getItem_list hl h0 hhi (by simpa using hx) h) hs
theorem itemS {value slice : PySem.Expr} {l : Addr} {vs : List Value} {ys : List Str} {y : Str} {k : Int} {u : Tok} {Q : Value → Shared → Prop}
    (hl : s.heap.IsList l vs.toArray) (hv : StrsAre vs ys) (h0 : 0 ≤ k) (hhi : k < 2 ^ 63) (hx : ys[k.toNat]? = some y) (h : ∀ t, Q (.str y t) s)
    (hs : subscripted slice false (.ref l) (.int k u) = operate [.ref l, .int k u] (getItem (.ref l) (.int k u)) := by with_unfolding_all rfl) :
    wpAny (model prog w) A (subscriptTail value slice (.ref l) (.int k u)) Q E s := by
  obtain ⟨t, e⟩ := hv.at hx
  exact itemV hl h0 hhi e (h t) hs
theorem itemI {value slice : PySem.Expr} {l : Addr} {vs : List Value} {ns : List Int} {n : Int} {k : Int} {u : Tok} {Q : Value → Shared → Prop}
    (hl : s.heap.IsList l vs.toArray) (hv : IntsAre vs ns) (h0 : 0 ≤ k) (hhi : k < 2 ^ 63) (hx : ns[k.toNat]? = some n) (h : ∀ t, Q (.int n t) s)
    (hs : subscripted slice false (.ref l) (.int k u) = operate [.ref l, .int k u] (getItem (.ref l) (.int k u)) := by with_unfolding_all rfl) :
    wpAny (model prog w) A (subscriptTail value slice (.ref l) (.int k u)) Q E s := by
  obtain ⟨t, e⟩ : ∃ t, vs[k.toNat]? = some (.int n t) := by
    clear hs hl hhi
    generalize k.toNat = j at hx
    induction hv generalizing j with
    | nil => simp at hx
    | cons n' t' _ ih =>
      cases j with
      | zero => exact ⟨t', by simpa using hx⟩
      | succ j => simpa using ih j (by simpa using hx)
  exact itemV hl h0 hhi e (h t) hs
theorem itemP {value slice : PySem.Expr} {l : Addr} {x y : List Nat} {t1 t2 : Tok} {k : Nat} {e : Int} {u : Tok} {Q : Value → Shared → Prop}
    (N : News h₀ L s.heap news) (hm : (l, W.listOf #[.str (mk x) t1, .str (mk y) t2] k) ∈ news) (h0 : 0 ≤ e) (h1 : e ≤ 1) (h : ∀ t, Q (.str (mk (pickI x y e)) t) s)
    (hs : subscripted slice false (.ref l) (.int e u) = operate [.ref l, .int e u] (getItem (.ref l) (.int e u)) := by with_unfolding_all rfl) :
    wpAny (model prog w) A (subscriptTail value slice (.ref l) (.int e u)) Q E s := by
  refine itemS (vs := [.str (mk x) t1, .str (mk y) t2]) (ys := [mk x, mk y]) (News.isList N hm) (.cons _ _ (.cons _ _ .nil)) h0 (by omega) ?_ h hs
  unfold pickI
  rcases (by omega : e = 0 ∨ e = 1) with rfl | rfl <;> rfl
end
end
end
section
open PySem PySem.W PySem.Calls PyProof.Rows
section
def bitsOf (n most : Int) : List Bool := (List.range (1 + n.fmod most).toNat).map fun i => !decide (bitOf n most i = 0)
def sgn (a b : Nat) (t : Bool) : Nat := if t then b else a
theorem wordL_bits (a b : Nat) (n most : Int) : wordL a b n most = (bitsOf n most).map (sgn a b) := by
  unfold wordL bitsOf
  rw [List.map_map]
  refine List.map_congr_left fun i _ => ?_
  show _ = sgn a b (!decide (bitOf n most i = 0))
  by_cases h : bitOf n most i = 0 <;> simp [h, sgn]
theorem bits_len (n most : Int) (h : 1 ≤ most) : 1 ≤ (bitsOf n most).length ∧ ((bitsOf n most).length : Int) ≤ most := by
  have e1 : 0 ≤ n.fmod most := Int.fmod_nonneg_of_pos n (by omega)
  have e2 : n.fmod most < most := Int.fmod_lt_of_pos n (by omega)
  unfold bitsOf
  rw [List.length_map, List.length_range]
  omega
def signPairs : List (Nat × Nat) := [(9, 32), (9, 34), (9, 35), (9, 77), (9, 92), (9, 122), (32, 34), (32, 35), (32, 77), (32, 92), (32, 122), (34, 35), (34, 77), (34, 92), (34, 122), (35, 77), (35, 92), (35, 122), (77, 92), (77, 122), (92, 122)]
theorem signs_mk (n : Int) : ∃ a b, signsOf n = mk [a, b] ∧ (a, b) ∈ signPairs := by
  have e1 : 0 ≤ n.fmod 6 := Int.fmod_nonneg_of_pos n (by decide)
  have e2 : n.fmod 6 < 6 := Int.fmod_lt_of_pos n (by decide)
  have e3 : 0 ≤ (n.fdiv 6).fmod (6 - n.fmod 6) := Int.fmod_nonneg_of_pos _ (by omega)
  have e4 : (n.fdiv 6).fmod (6 - n.fmod 6) < 6 - n.fmod 6 := Int.fmod_lt_of_pos _ (by omega)
  unfold signsOf
  generalize n.fmod 6 = x at *
  generalize (n.fdiv 6).fmod (6 - x) = y at *
  have key : ∀ i ∈ List.range 6, ∀ j ∈ List.range (6 - i), ∃ p ∈ signPairs, Txt.item alph (i : Int) ++ Txt.item alph ((i : Int) + 1 + (j : Int)) = mk [p.1, p.2] := by decide +kernel
  obtain ⟨p, hp, e⟩ := key x.toNat (List.mem_range.mpr (by omega)) y.toNat (List.mem_range.mpr (by omega))
  rw [Int.toNat_of_nonneg e1, Int.toNat_of_nonneg e3] at e
  exact ⟨p.1, p.2, e, hp⟩
theorem off1_mem {D : Addr} {l : List (Addr × Obj)} (h : LCg.Off1 D l) : ∀ q ∈ l, q.1 ≠ D := by
  induction l with
  | nil => exact fun _ h => nomatch h
  | cons b r ih =>
    intro q hq
    rcases List.mem_cons.mp hq with rfl | hq
    · exact h.1
    · exact ih h.2 q hq
theorem sign_find : ∀ p ∈ signPairs, Txt.find (mk [p.1, p.2]) ⟨#[p.1]⟩ = 0 ∧ Txt.find (mk [p.1, p.2]) ⟨#[p.2]⟩ = 1 ∧ 0 ≤ Txt.find alph ⟨#[p.1]⟩ ∧ 0 ≤ Txt.find alph ⟨#[p.2]⟩ ∧ Txt.find alph ⟨#[p.1]⟩ < Txt.find alph ⟨#[p.2]⟩ := by decide +kernel
abbrev encW (sa sb : Nat) (bare : Int) (l : List Nat) : List Nat := l.flatMap (encV (mk [sa, sb]) bare)
theorem encV_len (sg : Str) (bare : Int) (c : Nat) : (encV sg bare c).length ≤ 2 := by unfold encV; split <;> simp
theorem encW_len (sa sb : Nat) (bare : Int) (l : List Nat) : (encW sa sb bare l).length ≤ 2 * l.length := by
  induction l with
  | nil => exact Nat.le_refl _
  | cons c l ih =>
    have := encV_len (mk [sa, sb]) bare c
    show ((c :: l).flatMap _).length ≤ _
    rw [List.flatMap_cons, List.length_append, List.length_cons]; unfold encW at ih; omega
theorem written_mk (w : World) {sa sb : Nat} (hs : (sa, sb) ∈ signPairs) (l : List Nat) (hl : ∀ c ∈ l, c = sa ∨ c = sb) (hn : l.length < 1000000) (bare : Int) (tx t2 t3 : Tok) :
    Spec w 700 3000 96 [Value.str (mk l) tx, .str (mk [sa, sb]) t2, .int bare t3] (fun t => Value.str (mk (encW sa sb bare l)) t) := by
  have h := sign_find _ hs
  refine written_spec w (mk l) (mk [sa, sb]) bare tx t2 t3 (fun c hc => ?_) (by rw [mk_len]; exact hn)
  have hc' : c ∈ l := by simpa using hc
  rcases hl c hc' with rfl | rfl
  · have := h.1; simp only at this; rw [this]; omega
  · have := h.2.1; simp only at this; rw [this]; omega
theorem sgn_mem {sa sb : Nat} {b : List Bool} {x : List Nat} (hx : b.map (sgn sa sb) = x) : ∀ c ∈ x, c = sa ∨ c = sb := by
  rintro c hc
  rw [← hx] at hc
  obtain ⟨t, _, rfl⟩ := List.mem_map.mp hc
  unfold sgn; cases t <;> simp
theorem pick_mem {sa sb : Nat} {x y : List Nat} {e : Int} (hx : ∀ c ∈ x, c = sa ∨ c = sb) (hy : ∀ c ∈ y, c = sa ∨ c = sb) : ∀ c ∈ pickI x y e, c = sa ∨ c = sb := by
  unfold pickI; split <;> assumption
theorem msg_mem {sa sb : Nat} {x y : List Nat} {e : Int} (hx : ∀ c ∈ x, c = sa ∨ c = sb) (hy : ∀ c ∈ y, c = sa ∨ c = sb) : ∀ c ∈ msgI x y e, c = sa ∨ c = sb := by
  intro c hc
  unfold msgI at hc
  simp only [List.mem_append] at hc
  rcases hc with (((h | h) | h) | h) | h
  · exact pick_mem hx hy c h
  · exact pick_mem hx hy c h
  · exact pick_mem hx hy c h
  · exact hx c h
  · exact hy c h
theorem alph92 : 0 ≤ Txt.find alph ⟨#[92]⟩ := by decide +kernel
theorem encW_mem {sa sb : Nat} {bare : Int} {l : List Nat} (hl : ∀ c ∈ l, c = sa ∨ c = sb) : ∀ c ∈ encW sa sb bare l, c = 92 ∨ c = sa ∨ c = sb := by
  intro c hc
  obtain ⟨d, hd, hc⟩ := List.mem_flatMap.mp hc
  unfold encV at hc
  split at hc
  · rw [List.mem_singleton.mp hc]; exact .inr (hl d hd)
  · rcases List.mem_cons.mp hc with rfl | hc
    · exact .inl rfl
    · rw [List.mem_singleton.mp hc]; exact .inr (hl d hd)
theorem side_mk (w : World) {sa sb : Nat} (hs : (sa, sb) ∈ signPairs) (x y : List Nat) (tx ty : Tok) (hxy : x.length = y.length) (hx : ∀ c ∈ x, c = 92 ∨ c = sa ∨ c = sb) (hy : ∀ c ∈ y, c = 92 ∨ c = sa ∨ c = sb) (hsz : x.length < 1000000) :
    SpecR w 700 3000 110 [Value.str (mk x) tx, Value.str (mk y) ty] [] (fun _ => True)
    (fun v news' => ∃ r t1 t2, v = .ref r ∧ news' = [(r, { cls := .type "tuple", data := .seq [.int (sideL x y 0).1 t1, .int (sideL x y 0).2 t2].toArray })]) := by
  have h := sign_find _ hs
  have ok : ∀ {z : List Nat}, (∀ c ∈ z, c = 92 ∨ c = sa ∨ c = sb) → ∀ c ∈ (mk z).cps, 0 ≤ Txt.find alph ⟨#[c]⟩ := by
    intro z hz c hc
    have hc' : c ∈ z := by simpa using hc
    rcases hz c hc' with rfl | rfl | rfl
    · exact alph92
    · exact h.2.2.1
    · exact h.2.2.2.1
  exact side_spec w (mk x) (mk y) tx ty (by rw [mk_len, mk_len]; exact hxy) (ok hx) (ok hy) (by rw [mk_len]; exact hsz)
end
end
section
open PySem PySem.W PySem.Calls PyProof.Rows
section
def nOf (v : Value) : Int := match v with
  | .int n _ => n
  | _ => 0
theorem ints_of_all : ∀ (l : List Value), (∀ v ∈ l, ∃ n t, v = .int n t) → IntsAre l (l.map nOf)
  | [], _ => .nil
  | v :: r, h => by
    obtain ⟨n, t, rfl⟩ := h v (.head _)
    exact .cons n t (ints_of_all r fun w hw => h w (.tail _ hw))
theorem due_of (key : Int → Int) {vs out : List Value} (hv : IntsAre vs (List.map (fun i : Nat => (i : Int)) (List.range 8))) (h : KskOut false (List.map (fun i : Nat => key (i : Int)) (List.range 8)) vs out) :
    ∃ ds : List Int, IntsAre out ds ∧ ds.Perm (List.map (fun i : Nat => (i : Int)) (List.range 8)) ∧ ds.Pairwise (fun i j => key i ≤ key j) := by
  obtain ⟨ps, hp, rfl, hs⟩ := h
  have gen : ∀ (l : List Nat) (vs : List Value), IntsAre vs (l.map fun i : Nat => (i : Int)) → (∀ p ∈ (l.map fun i : Nat => key (i : Int)).zip vs, ∃ n t, p.2 = .int n t ∧ p.1 = key n) ∧ ((l.map fun i : Nat => key (i : Int)).zip vs).map (fun p => nOf p.2) = l.map fun i : Nat => (i : Int) := by
    intro l
    induction l with
    | nil => intro vs hv; cases hv; exact ⟨fun _ h => (nomatch h), rfl⟩
    | cons i r ih =>
      intro vs hv
      cases hv with
      | cons n t hr =>
        obtain ⟨h1, h2⟩ := ih _ hr
        refine ⟨fun p hp => ?_, ?_⟩
        · rcases List.mem_cons.mp hp with rfl | hp
          · exact ⟨_, _, rfl, rfl⟩
          · exact h1 p hp
        · show nOf _ :: _ = _
          rw [List.map_cons]
          exact congrArg _ h2
  obtain ⟨h1, h2⟩ := gen _ _ hv
  have h3 : ∀ p ∈ ps, ∃ n t, p.2 = .int n t ∧ p.1 = key n := fun p hp' => h1 p (hp.mem_iff.mp hp')
  refine ⟨ps.map fun p => nOf p.2, ?_, ?_, ?_⟩
  · have := ints_of_all (ps.map Prod.snd) fun v hv => by
      obtain ⟨p, hp', rfl⟩ := List.mem_map.mp hv
      obtain ⟨n, t, e, _⟩ := h3 p hp'
      exact ⟨n, t, e⟩
    rwa [List.map_map] at this
  · rw [← h2]; exact hp.map _
  · rw [List.pairwise_map]
    refine hs.imp_of_mem fun {p q} hp' hq' hle => ?_
    obtain ⟨n, t, e, e2⟩ := h3 p hp'
    obtain ⟨n', t', e', e2'⟩ := h3 q hq'
    rw [e, e']
    show key n ≤ key n'
    rw [← e2, ← e2']; simpa using hle
theorem sideL_range (x y : List Nat) : ∀ k, -1 ≤ (sideL x y k).1 ∧ (sideL x y k).1 ≤ 1 := by
  induction x generalizing y with
  | nil => intro k; simp [sideL]
  | cons a r ih =>
    intro k
    cases y with
    | nil => simp [sideL]
    | cons b t =>
      unfold sideL
      split
      · exact ih t (k + 1)
      · split <;> simp
def Mark9 : Prop := True
abbrev rngObj (a b c : Int) (t u v : Tok) : Obj := { cls := .type "range", data := .fields #[.int a t, .int b u, .int c v] }
theorem range_in {h₀ hOld h' : Heap} {L : Addr} {m0 : Str → Option Value} {news : List (Addr × Obj)} {a b c : Int} {t u v : Tok} (hr : IsRange h' hOld.objs.size a b c t u v) (F0 : Fr h₀ L hOld m0) (N0 : News h₀ L hOld news) (N : News h₀ L h' news) :
    News h₀ L h' ((hOld.objs.size, rngObj a b c t u v) :: news) ∧ ∀ q ∈ news, q.1 < hOld.objs.size := by
  refine ⟨fun p hp => ?_, fun q hq => Heap.lt_size (N0 q hq).1⟩
  rcases List.mem_cons.mp hp with rfl | hp
  · exact ⟨hr, Nat.ne_of_gt F0.ns.lt, Heap.get?_none_of_le (Nat.le_trans F0.above (Nat.le_of_lt F0.ns.lt))⟩
  · exact N p hp
theorem drop_picks {h₀ h : Heap} {L : Addr} {need news rest : List (Addr × Obj)} (hp : Picks need news rest) (N : News h₀ L h news) : News h₀ L h rest := drop N fun p h => hp.sub p (List.mem_append_right _ h)
theorem drop_picksD {h₀ h : Heap} {L : Addr} {need news rest : List (Addr × Obj)} {A : List Addr} (hp : Picks need news rest) (N : News h₀ L h news) (SP : Dst A) (e : news.map Prod.fst = A) : News h₀ L h rest ∧ Dst (rest.map Prod.fst) := ⟨drop_picks hp N, (hp.dst SP e).app.2.1⟩
theorem base_hid {h₀ h : Heap} {L : Addr} {m : Str → Option Value} {need news : List (Addr × Obj)} (F : Fr h₀ L h m) (N : News h₀ L h news) (hs : ∀ p ∈ need, p ∈ news) : ∀ b o, h₀.get? b = some o → (hideAll h (need.map (·.1))).get? b = some o := fun b o e =>
  hideAll_get _ (F.keep b o e) fun q => by
    obtain ⟨r, hr, e2⟩ := List.mem_map.mp q
    have := (N r (hs r hr)).2.2
    rw [e2, e] at this; cases this
theorem rest_hid {h₀ h : Heap} {L : Addr} {need rest : List (Addr × Obj)} {a : Addr} {o : Obj} (N : News h₀ L h (need ++ rest)) (A : Apart need rest) (hm : (a, o) ∈ rest) : (hideAll h (need.map (·.1))).get? a = some o :=
  hideAll_get _ (N _ (List.mem_append_right _ hm)).1 fun q => by
    obtain ⟨r, hr, e2⟩ := List.mem_map.mp q
    exact A r hr _ hm e2
end
end
section
open PySem PySem.W PySem.Calls PyProof.Rows
section
theorem SpecR.outQ {w : World} {d u : Nat} {f : Addr} {vs : List Value} {need : List (Addr × Obj)} {Old : Heap → Prop} {Ret : Value → List (Addr × Obj) → Prop} (H : SpecR w d u f vs need Old Ret) {p : Program} {loose : List Str} {mean : ExcName → Option Value} {mg mb : Str → Option Value} {news rest : List (Addr × Obj)} {cn : Str} {cs : Scope} {a : Addr} {ccd : Value} {cl : List (Str × Addr)} {outer : List Env} {A₀ A : Around} {base h₀ : Heap} {L : Addr} {m : Str → Option Value} {s : Shared} {Q E : Value → Shared → Prop}
    (B : Below A₀ base outer h₀) (F : Fr h₀ L s.heap m) (X : Frag.In (hd.heap_39 w.params) h₀) (N : News h₀ L s.heap news) (T : Top p loose mean mg mb h₀) (hk : cs.kind = .function)
    (hh : A.handled = none) (hd : A.depth ≤ d) (hu : A.units ≤ u) (hf : A.frames = some (envX cn cs L a ccd cl :: outer))
    (hp : Picks need news rest) (sep : ApartAll need rest) (old : News h₀ L s.heap (need ++ rest) → Apart need rest → Old (hideAll s.heap (need.map (·.1))))
    (ret : ∀ (v : Value) (news' : List (Addr × Obj)) (h' : Heap) (tk' : Nat), Ret v news' → Fr h₀ L h' m → News h₀ L h' (news' ++ rest) → Apart news' rest → Q v { s with heap := h', toks := tk' }) :
    wpAny (model PR w) A (call (.ref f) vs) Q E s :=
  SpecR.out H B F X N T hk hh hd hu hf hp.sub sep.out (old (drop N hp.sub) sep.out) ret
theorem SpecR.outD {w : World} {d u : Nat} {f : Addr} {vs : List Value} {need : List (Addr × Obj)} {Old : Heap → Prop} {Ret : Value → List (Addr × Obj) → Prop} (H : SpecR w d u f vs need Old Ret) {p : Program} {loose : List Str} {mean : ExcName → Option Value} {mg mb : Str → Option Value} {news rest : List (Addr × Obj)} {cn : Str} {cs : Scope} {a : Addr} {ccd : Value} {cl : List (Str × Addr)} {outer : List Env} {A₀ A : Around} {base h₀ : Heap} {L : Addr} {m : Str → Option Value} {s : Shared} {Q E : Value → Shared → Prop}
    (B : Below A₀ base outer h₀) (F : Fr h₀ L s.heap m) (X : Frag.In (hd.heap_39 w.params) h₀) (N : News h₀ L s.heap news) (T : Top p loose mean mg mb h₀) (hk : cs.kind = .function)
    (hh : A.handled = none) (hd : A.depth ≤ d) (hu : A.units ≤ u) (hf : A.frames = some (envX cn cs L a ccd cl :: outer))
    {Ad : List Addr} (hp : Picks need news rest) (SP : Dst Ad) (eA : news.map Prod.fst = Ad) (old : News h₀ L s.heap (need ++ rest) → Apart need rest → Old (hideAll s.heap (need.map (·.1))))
    (ret : ∀ (v : Value) (news' : List (Addr × Obj)) (h' : Heap) (tk' : Nat), Ret v news' → Fr h₀ L h' m → News h₀ L h' (news' ++ rest) → (Dst (news'.map Prod.fst) → Dst (news'.map Prod.fst ++ rest.map Prod.fst)) → Q v { s with heap := h', toks := tk' }) :
    wpAny (model PR w) A (call (.ref f) vs) Q E s :=
  SpecR.out H B F X N T hk hh hd hu hf hp.sub (hp.dst SP eA).apart (old (drop N hp.sub) (hp.dst SP eA).apart) fun v n h' tk a b c A3 => ret v n h' tk a b c fun dn => dn.join (hp.dst SP eA).app.2.1 fun x hx y hy => by
    obtain ⟨p, hp, rfl⟩ := List.mem_map.mp hx
    obtain ⟨q, hq, rfl⟩ := List.mem_map.mp hy
    exact A3 p hp q hq
theorem Dst.add {L : List Addr} {need rest : List (Addr × Obj)} (SP : Dst L) (A : Apart need rest) (h1 : Dst (need.map Prod.fst)) (e : rest.map Prod.fst = L) : Dst (need.map Prod.fst ++ L) := by
  subst e
  exact h1.join SP fun x hx y hy => by
    obtain ⟨p, hp, rfl⟩ := List.mem_map.mp hx
    obtain ⟨q, hq, rfl⟩ := List.mem_map.mp hy
    exact A p hp q hq
theorem dst_front {O : List (Addr × Obj)} {R : Addr} {o : Obj} (h : Dst (O.map Prod.fst)) (A : Apart O [(R, o)]) : Dst (R :: O.map Prod.fst) := Dst.off h (fun p hp => A p hp (R, o) (.head _)) rfl
theorem msg_at (f : Int → Str) {i : Nat} (hi : i < 8) : (List.map (fun j : Nat => f (j : Int)) (List.range 8))[i]? = some (f (i : Int)) := by
  rw [List.getElem?_map, List.getElem?_range hi]; rfl
theorem turn_at {i : Nat} (hi : i < 8) : ((3 * (i : Int) + 2).fmod 8).toNat < 8 ∧ 0 ≤ (3 * (i : Int) + 2).fmod 8 ∧ ((((3 * (i : Int) + 2).fmod 8).toNat : Nat) : Int) = (3 * (i : Int) + 2).fmod 8 ∧ (3 * (i : Int) + 2).fmod 8 < 8 := by
  have h1 : 0 ≤ (3 * (i : Int) + 2).fmod 8 := Int.fmod_nonneg_of_pos _ (by decide)
  have h2 : (3 * (i : Int) + 2).fmod 8 < 8 := Int.fmod_lt_of_pos _ (by decide)
  omega
end
end
section
open PySem PySem.W PySem.Calls PyProof.Rows PyProof.V PySem.Spec
section
theorem cs_canLayAll0 : ∀ ns : List Str, (∀ n ∈ ns, PyData.strOk n = true) → PyData.canLayAll0 (ns.map PyData.str) = true
  | [], _ => rfl
  | n :: r, h => by simp [PyData.canLayAll0, PyData.canLay0, cs_canLayAll0 r fun m hm => h m (.tail _ hm), h n (.head _)]
theorem cs_depthAll : ∀ ns : List Str, PyData.depthAll (ns.map PyData.str) = 0
  | [] => rfl
  | _ :: r => by simp [PyData.depthAll, PyData.depth, cs_depthAll r]
theorem cs_shaped (ns : List Str) (h : ∀ n ∈ ns, PyData.strOk n = true) : SeqAt.shaped (.list (ns.map PyData.str)) = true := by
  simp [SeqAt.shaped, PyData.canLay0, PyData.depth, cs_canLayAll0 _ h, cs_depthAll]
theorem strOk_mk {l : List Nat} (h : ∀ c ∈ l, c < 1000) : PyData.strOk (mk l) = true := by
  unfold PyData.strOk
  simp only [Array.all_eq_true, decide_eq_true_eq]
  intro i hi
  have : l[i]'(by simpa using hi) < 1000 := h _ (List.getElem_mem _)
  simp only [List.getElem_toArray]; omega
theorem cs_sameAll : ∀ ns ms : List Str, PySem.Spec.sameAll (ns.map PyData.str) (ms.map PyData.str) = decide (ns = ms)
  | [], [] => by simp [PySem.Spec.sameAll]
  | [], _ :: _ => by simp [PySem.Spec.sameAll]
  | _ :: _, [] => by simp [PySem.Spec.sameAll]
  | a :: r, b :: t => by
    simp only [List.map_cons, PySem.Spec.sameAll, PySem.Spec.same, cs_sameAll r t]
    by_cases h : a = b <;> by_cases h' : r = t <;> simp [h, h']
theorem cs_same (ns ms : List Str) : PySem.Spec.same (.list (ns.map PyData.str)) (.list (ms.map PyData.str)) = decide (ns = ms) := by
  simp only [PySem.Spec.same]; exact cs_sameAll ns ms
section
variable {prog : Program} {w : World} {A : Around} {E : Value → Shared → Prop} {s : Shared} {a b : Addr} {xs ys : List Value} {ns ms : List Str} {Q : Value → Shared → Prop}
theorem ne_strs (ha : s.heap.IsList a xs.toArray) (hb : s.heap.IsList b ys.toArray) (hi : StrsAre xs ns) (hj : StrsAre ys ms) (ho : ∀ n ∈ ns, PyData.strOk n = true) (hp : ∀ n ∈ ms, PyData.strOk n = true) (hu : A.units + 64 < cLine) (h : Q (.bool (!decide (ns = ms))) s) :
    wpAny (model prog w) A (compareOp .NotEq (.ref a) (.ref b)) Q E s :=
  ne_dataH_same (reads_newData ha hi.carried) (reads_newData hb hj.carried) (cs_shaped _ ho) (cs_shaped _ hp) hu (SeqAt.noMix_of_shape (.list .str) rfl _ _ (list_map_has fun _ => rfl) (list_map_has fun _ => rfl)) (by rw [cs_same]; exact h)
end
end
end
section
open PySem PySem.W PySem.Calls PyProof.Rows
section
/-- first place where two lists are unlike -/
def sdN : List Nat → List Nat → Int
  | a :: r, b :: t => if a = b then sdN r t else if a < b then -1 else 1
  | _, _ => 0
def sdB : List Bool → List Bool → Int
  | a :: r, b :: t => if a = b then sdB r t else if b then -1 else 1
  | _, _ => 0
theorem sdB_anti : ∀ l m, sdB m l = - sdB l m
  | [], [] => rfl
  | [], _ :: _ => rfl
  | _ :: _, [] => rfl
  | a :: r, b :: t => by
    cases a <;> cases b <;> simp [sdB, sdB_anti r t]
theorem sdB_self : ∀ l, sdB l l = 0
  | [] => rfl
  | a :: r => by simp [sdB, sdB_self r]
theorem sdB_trans {s : Int} (hs : s ≠ 0) : ∀ l m n, sdB l m = s → sdB m n = s → sdB l n = s
  | [], m, n, h, _ => by simp [sdB] at h; exact absurd h.symm hs
  | _ :: _, [], n, h, _ => by simp [sdB] at h; exact absurd h.symm hs
  | _ :: _, _ :: _, [], _, h => by simp [sdB] at h; exact absurd h.symm hs
  | a :: l, b :: m, c :: n, h1, h2 => by
    have ih := sdB_trans hs l m n
    cases a <;> cases b <;> cases c <;> simp [sdB] at h1 h2 ⊢ <;> first | exact ih h1 h2 | omega | assumption
theorem sdN_lt : ∀ {l m : List Nat}, sdN l m = -1 → l < m
  | [], [], h => by simp [sdN] at h
  | [], _ :: _, h => by simp [sdN] at h
  | _ :: _, [], h => by simp [sdN] at h
  | a :: l, b :: m, h => by
    unfold sdN at h
    split at h
    · rename_i e; subst e
      exact List.cons_lt_cons_iff.mpr (.inr ⟨rfl, sdN_lt h⟩)
    · split at h
      · exact List.cons_lt_cons_iff.mpr (.inl (by assumption))
      · simp at h
theorem sdN_anti : ∀ l m, sdN m l = - sdN l m
  | [], [] => rfl
  | [], _ :: _ => rfl
  | _ :: _, [] => rfl
  | a :: r, b :: t => by
    unfold sdN
    by_cases h : a = b
    · subst h; simp [sdN_anti r t]
    · rw [if_neg h, if_neg (fun e => h e.symm)]
      by_cases h1 : a < b
      · rw [if_pos h1, if_neg (by omega)]; rfl
      · rw [if_neg h1, if_pos (by omega)]
theorem sdN_range : ∀ l m, sdN l m = -1 ∨ sdN l m = 0 ∨ sdN l m = 1
  | [], [] => .inr (.inl rfl)
  | [], _ :: _ => .inr (.inl rfl)
  | _ :: _, [] => .inr (.inl rfl)
  | a :: r, b :: t => by
    unfold sdN
    split
    · exact sdN_range r t
    · split <;> simp
theorem sdN_zero : ∀ {l m : List Nat}, sdN l m = 0 → (l < m ↔ l.length < m.length)
  | [], [], _ => by simp
  | [], _ :: _, _ => by simp
  | _ :: _, [], _ => by simp
  | a :: l, b :: m, h => by
    unfold sdN at h
    split at h
    · rename_i e; subst e
      rw [List.cons_lt_cons_iff, List.length_cons, List.length_cons]
      have := sdN_zero h
      simp [this]
    · split at h <;> simp at h
def lenC (l m : Nat) : Int := b2i (decide (m < l)) - b2i (decide (l < m))
theorem coll_mk (l m : List Nat) : collS (mk l) (mk m) = if sdN l m = 0 then lenC l.length m.length else sdN l m := by
  unfold collS lenC
  show b2i (decide (m < l)) - b2i (decide (l < m)) = _
  rcases sdN_range l m with h | h | h
  · have h1 := sdN_lt h
    have h2 : ¬ m < l := List.lt_asymm h1
    rw [h]; simp [h1, h2, b2i]
  · have h1 := sdN_zero h
    have h2 := sdN_zero (l := m) (m := l) (by rw [sdN_anti, h]; rfl)
    rw [if_pos h]; simp only [h1, h2]
  · have h0 : sdN m l = -1 := by rw [sdN_anti, h]
    have h1 := sdN_lt h0
    have h2 : ¬ l < m := List.lt_asymm h1
    rw [h]; simp [h1, h2, b2i]
theorem sdN_app : ∀ {p q : List Nat} (s t : List Nat), sdN p q ≠ 0 → sdN (p ++ s) (q ++ t) = sdN p q
  | [], [], s, t, h => absurd rfl h
  | [], _ :: _, s, t, h => absurd rfl h
  | _ :: _, [], s, t, h => absurd rfl h
  | a :: l, b :: m, s, t, h => by
    show sdN (a :: (l ++ s)) (b :: (m ++ t)) = _
    unfold sdN at h ⊢
    split
    · rename_i e
      rw [if_pos e] at h
      exact sdN_app s t h
    · rfl
theorem sdN_pre : ∀ (p s t : List Nat), sdN (p ++ s) (p ++ t) = sdN s t
  | [], s, t => rfl
  | a :: p, s, t => by
    show sdN (a :: (p ++ s)) (a :: (p ++ t)) = _
    have := sdN_pre p s t
    simp only [sdN, if_true]; exact this
/-- two code words, neither the start of the other -/
theorem enc_sd {c : Bool → List Nat} {ρ : Int} (h : sdN (c false) (c true) = ρ) (hρ : ρ ≠ 0) : ∀ l m : List Bool, sdN (l.flatMap c) (m.flatMap c) = - ρ * sdB l m := by
  have h' : sdN (c true) (c false) = -ρ := by rw [sdN_anti, h]
  intro l
  induction l with
  | nil => intro m; cases m <;> simp [sdB, sdN]
  | cons a l ih =>
    intro m
    cases m with
    | nil =>
      rw [sdN_anti]; simp [sdB, sdN]
    | cons b m =>
      rw [List.flatMap_cons, List.flatMap_cons]
      cases a <;> cases b
      · rw [sdN_pre, ih]; simp [sdB]
      · rw [sdN_app _ _ (by rw [h]; exact hρ), h]; simp [sdB]
      · rw [sdN_app _ _ (by rw [h']; omega), h']; simp [sdB]
      · rw [sdN_pre, ih]; simp [sdB]
theorem map_sd {sa sb : Nat} (h : sa < sb) (l m : List Bool) : sdN (l.map (sgn sa sb)) (m.map (sgn sa sb)) = sdB l m := by
  have := enc_sd (c := fun t => [sgn sa sb t]) (ρ := -1) (by
    show sdN [sa] [sb] = -1
    unfold sdN; rw [if_neg (by omega), if_pos h]) (by decide) l m
  have e : ∀ l : List Bool, l.flatMap (fun t => [sgn sa sb t]) = l.map (sgn sa sb) := fun l => by
    induction l with
    | nil => rfl
    | cons a l ih => rw [List.flatMap_cons, ih]; rfl
  rw [e, e] at this
  rw [this]; omega
end
end
section
open PySem PySem.W PySem.Calls PyProof.Rows
section
def leS (a b : Str) : Prop := a.cps.toList ≤ b.cps.toList
theorem coll_lt {x y : Str} : collS x y = -1 ↔ x.cps.toList < y.cps.toList := by
  unfold collS
  by_cases h1 : x.cps.toList < y.cps.toList
  · have h2 : ¬ y.cps.toList < x.cps.toList := List.lt_asymm h1
    simp [h1, h2, b2i]
  · simp only [h1, iff_false]
    by_cases h2 : y.cps.toList < x.cps.toList <;> simp [h2, b2i]
theorem leS_trans {a b c : Str} (h1 : leS a b) (h2 : leS b c) : leS a c := List.le_trans h1 h2
theorem leS_anti {a b : Str} (h1 : leS a b) (h2 : leS b a) : a = b := by
  have := List.le_antisymm h1 h2
  rw [str_mk a, str_mk b, this]
theorem leS_refl (a : Str) : leS a a := List.le_refl _
theorem rnd_fold (rest : List Str) : ∀ (w : Str) (acc : List Str), (∀ z ∈ acc, leS w z) →
    (∀ z ∈ (rest.foldl rndStep (w, acc)).2, leS (rest.foldl rndStep (w, acc)).1 z) ∧ ((rest.foldl rndStep (w, acc)).1 :: (rest.foldl rndStep (w, acc)).2).Perm (w :: (acc ++ rest)) := by
  induction rest with
  | nil => intro w acc h; exact ⟨h, by simp⟩
  | cons o r ih =>
    intro w acc h
    rw [List.foldl_cons]
    by_cases hc : collS o w = -1
    · have e : rndStep (w, acc) o = (o, acc ++ [w]) := by unfold rndStep; exact if_pos hc
      rw [e]
      have hlt := coll_lt.mp hc
      have hle : leS o w := List.le_of_lt hlt
      obtain ⟨i1, i2⟩ := ih o (acc ++ [w]) fun z hz => by
        rcases List.mem_append.mp hz with hz | hz
        · exact leS_trans hle (h z hz)
        · rw [List.mem_singleton.mp hz]; exact hle
      refine ⟨i1, i2.trans ?_⟩
      rw [List.append_assoc]
      have : (o :: (acc ++ ([w] ++ r))).Perm (o :: (w :: (acc ++ r))) := (List.perm_middle (l₁ := acc) (a := w) (l₂ := r)).cons o
      refine this.trans ?_
      refine (List.Perm.swap w o _).trans ?_
      exact (List.perm_middle (l₁ := acc) (a := o) (l₂ := r)).symm.cons w
    · have e : rndStep (w, acc) o = (w, acc ++ [o]) := by unfold rndStep; exact if_neg hc
      rw [e]
      have hle : leS w o := fun q => hc (coll_lt.mpr q)
      obtain ⟨i1, i2⟩ := ih w (acc ++ [o]) fun z hz => by
        rcases List.mem_append.mp hz with hz | hz
        · exact h z hz
        · rw [List.mem_singleton.mp hz]; exact hle
      refine ⟨i1, i2.trans ?_⟩
      rw [List.append_assoc]; exact .refl _
theorem riseN_ok (ws : List Str) : ∀ n, ((riseN ws n).2 ++ (riseN ws n).1).Perm ws ∧ (riseN ws n).2.Pairwise leS ∧ ∀ a ∈ (riseN ws n).2, ∀ b ∈ (riseN ws n).1, leS a b := by
  intro n
  induction n with
  | zero => exact ⟨.refl _, .nil, fun _ h => nomatch h⟩
  | succ n ih =>
    obtain ⟨h1, h2, h3⟩ := ih
    show ((riseStep (riseN ws n)).2 ++ (riseStep (riseN ws n)).1).Perm ws ∧ (riseStep (riseN ws n)).2.Pairwise leS ∧ ∀ a ∈ (riseStep (riseN ws n)).2, ∀ b ∈ (riseStep (riseN ws n)).1, leS a b
    generalize riseN ws n = st at h1 h2 h3
    obtain ⟨l, out⟩ := st
    cases l with
    | nil => exact ⟨h1, h2, h3⟩
    | cons w rest =>
      obtain ⟨i1, i2⟩ := rnd_fold rest w [] fun _ h => nomatch h
      rw [List.nil_append] at i2
      show ((out ++ [(rnd w rest).1]) ++ (rnd w rest).2).Perm ws ∧ (out ++ [(rnd w rest).1]).Pairwise leS ∧ ∀ a ∈ out ++ [(rnd w rest).1], ∀ b ∈ (rnd w rest).2, leS a b
      have hm : ∀ z ∈ (rnd w rest).1 :: (rnd w rest).2, z ∈ w :: rest := fun z hz => i2.mem_iff.mp hz
      refine ⟨?_, ?_, ?_⟩
      · rw [List.append_assoc]
        exact (i2.append_left out).trans h1
      · rw [List.pairwise_append]
        refine ⟨h2, List.pairwise_singleton _ _, fun a ha b hb => ?_⟩
        rw [List.mem_singleton.mp hb]
        exact h3 a ha _ (hm _ (.head _))
      · intro a ha b hb
        rcases List.mem_append.mp ha with ha | ha
        · exact h3 a ha _ (hm _ (.tail _ hb))
        · rw [List.mem_singleton.mp ha]; exact i1 b hb
theorem rise_is {ws rs : List Str} {n : Nat} (hn : n = ws.length) (hp : rs.Perm ws) (hs : rs.Pairwise leS) : (riseN ws n).2 = rs := by
  obtain ⟨h1, h2, h3⟩ := riseN_ok ws n
  have h4 := (riseN_len ws n (by omega)).1
  have h5 : (riseN ws n).1 = [] := List.eq_nil_of_length_eq_zero (by omega)
  rw [h5, List.append_nil] at h1
  exact List.Perm.eq_of_pairwise (fun a b _ _ x y => leS_anti x y) h2 hs (h1.trans hp.symm)
end
end
section
open PySem PySem.W PySem.Calls PyProof.Rows
section
def pickB (x y : List Bool) (b : Bool) : List Bool := if b then y else x
/-- the messages, in the order of their numbers -/
def msgsB (x y : List Bool) : List (List Bool) := [x ++ (x ++ (x ++ (x ++ y))), x ++ (x ++ (y ++ (x ++ y))), x ++ (y ++ (x ++ (x ++ y))), x ++ (y ++ (y ++ (x ++ y))), y ++ (x ++ (x ++ (x ++ y))), y ++ (x ++ (y ++ (x ++ y))), y ++ (y ++ (x ++ (x ++ y))), y ++ (y ++ (y ++ (x ++ y)))]
def chain (s : Int) : List (List Bool) → Bool
  | a :: b :: r => decide (sdB a b = s) && chain s (b :: r)
  | _ => true
def chkB (x y : List Bool) : Bool :=
  if sdB (x ++ y) (y ++ x) = 0 then (msgsB x y).all fun a => (msgsB x y).all fun b => decide (sdB a b = 0) else chain (sdB (x ++ y) (y ++ x)) (msgsB x y)
def allL : Nat → List (List Bool)
  | 0 => [[]]
  | n + 1 => (allL n).flatMap fun l => [false :: l, true :: l]
theorem mem_allL : ∀ l : List Bool, l ∈ allL l.length
  | [] => .head _
  | a :: l => List.mem_flatMap.mpr ⟨l, mem_allL l, by cases a <;> simp⟩
def upTo (n : Nat) : List (List Bool) := (List.range n).flatMap fun i => allL (i + 1)
theorem mem_upTo {n : Nat} {l : List Bool} (h1 : 1 ≤ l.length) (h2 : l.length ≤ n) : l ∈ upTo n :=
  List.mem_flatMap.mpr ⟨l.length - 1, List.mem_range.mpr (by omega), by rw [show l.length - 1 + 1 = l.length by omega]; exact mem_allL l⟩
theorem chk_all : ∀ x ∈ upTo 3, ∀ y ∈ upTo 4, chkB x y = true := by decide +kernel
theorem chain_ok {s : Int} (hs : s ≠ 0) : ∀ (l : List (List Bool)), chain s l = true → l.Pairwise fun a b => sdB a b = s
  | [], _ => .nil
  | [a], _ => List.pairwise_singleton _ _
  | a :: b :: r, h => by
    simp only [chain, Bool.and_eq_true, decide_eq_true_eq] at h
    have ih := chain_ok hs (b :: r) h.2
    refine .cons (fun c hc => ?_) ih
    rcases List.mem_cons.mp hc with rfl | hc
    · exact h.1
    · exact sdB_trans hs a b c h.1 (List.rel_of_pairwise_cons ih hc)
def msgB (x y : List Bool) (i : Nat) : List Bool := (msgsB x y).getD i []
theorem msgB_lt {x y : List Bool} (h1 : 1 ≤ x.length ∧ x.length ≤ 3) (h2 : 1 ≤ y.length ∧ y.length ≤ 4) {s : Int} (hs : sdB (x ++ y) (y ++ x) = s) (h0 : s ≠ 0) {i j : Nat} (hij : i < j) (hj : j < 8) : sdB (msgB x y i) (msgB x y j) = s := by
  have h := chk_all x (mem_upTo h1.1 h1.2) y (mem_upTo h2.1 h2.2)
  unfold chkB at h
  rw [hs, if_neg h0] at h
  have hp := chain_ok h0 _ h
  have hl : (msgsB x y).length = 8 := rfl
  have := List.pairwise_iff_getElem.mp hp i j (by omega) (by omega) hij
  unfold msgB
  rw [List.getD_eq_getElem?_getD, List.getD_eq_getElem?_getD, List.getElem?_eq_getElem (by omega), List.getElem?_eq_getElem (by omega)]
  exact this
theorem msgB_eq {x y : List Bool} (h1 : 1 ≤ x.length ∧ x.length ≤ 3) (h2 : 1 ≤ y.length ∧ y.length ≤ 4) (hs : sdB (x ++ y) (y ++ x) = 0) {i j : Nat} (hi : i < 8) (hj : j < 8) : sdB (msgB x y i) (msgB x y j) = 0 := by
  have h := chk_all x (mem_upTo h1.1 h1.2) y (mem_upTo h2.1 h2.2)
  unfold chkB at h
  rw [if_pos hs] at h
  have hl : (msgsB x y).length = 8 := rfl
  have := of_decide_eq_true (List.all_eq_true.mp (List.all_eq_true.mp h _ (List.getElem_mem (n := i) (by omega))) _ (List.getElem_mem (n := j) (by omega)))
  unfold msgB
  rw [List.getD_eq_getElem?_getD, List.getD_eq_getElem?_getD, List.getElem?_eq_getElem (by omega), List.getElem?_eq_getElem (by omega)]
  exact this
theorem lt8_or : ∀ i < 8, i = 0 ∨ i = 1 ∨ i = 2 ∨ i = 3 ∨ i = 4 ∨ i = 5 ∨ i = 6 ∨ i = 7 := by decide
theorem msgI_map {sa sb : Nat} {xb yb : List Bool} {i : Nat} (hi : i < 8) : msgI (xb.map (sgn sa sb)) (yb.map (sgn sa sb)) (i : Int) = (msgB xb yb i).map (sgn sa sb) := by
  rcases lt8_or i hi with rfl | rfl | rfl | rfl | rfl | rfl | rfl | rfl <;> simp [msgI, msgB, msgsB, pickI]
end
end
section
open PySem PySem.W PySem.Calls PyProof.Rows
section
/-- what the law's walk knows of the two words -/
structure Words (sa sb : Nat) (bare : Int) (xb yb : List Bool) (x y : List Nat) (shown : Int) (ds : List Int) : Prop where
  hsg : (sa, sb) ∈ signPairs
  hb1 : 1 ≤ xb.length ∧ (xb.length : Int) ≤ 3
  hb2 : 1 ≤ yb.length ∧ (yb.length : Int) ≤ 4
  hx : List.map (sgn sa sb) xb = x
  hy : List.map (sgn sa sb) yb = y
  hshown : (sideL (encW sa sb bare (x ++ y)) (encW sa sb bare (y ++ x)) 0).1 = shown
  hdp : ds.Perm (List.map (fun i : Nat => (i : Int)) (List.range 8))
  hdk : ds.Pairwise (fun i j => (fun m : Int => if shown = 0 then ((encW sa sb bare (msgI x y m)).length : Int) else -shown * m) i ≤ (fun m : Int => if shown = 0 then ((encW sa sb bare (msgI x y m)).length : Int) else -shown * m) j)
theorem sign_ord : ∀ p ∈ signPairs, p.1 < p.2 := by decide
theorem alph_mono : ∀ p ∈ signPairs, ∀ u ∈ [92, p.1, p.2], ∀ v ∈ [92, p.1, p.2], (Txt.find alph ⟨#[u]⟩ < Txt.find alph ⟨#[v]⟩ ↔ u < v) := by decide +kernel
theorem side_sdN {S : List Nat} (hS : ∀ u ∈ S, ∀ v ∈ S, (Txt.find alph ⟨#[u]⟩ < Txt.find alph ⟨#[v]⟩ ↔ u < v)) : ∀ (l m : List Nat) (k : Nat), (∀ c ∈ l, c ∈ S) → (∀ c ∈ m, c ∈ S) → (sideL l m k).1 = sdN l m
  | [], [], _, _, _ => rfl
  | [], _ :: _, _, _, _ => rfl
  | _ :: _, [], _, _, _ => rfl
  | a :: l, b :: m, k, hl, hm => by
    unfold sideL sdN
    by_cases h : a = b
    · rw [if_pos h, if_pos h]
      exact side_sdN hS l m (k + 1) (fun c hc => hl c (.tail _ hc)) fun c hc => hm c (.tail _ hc)
    · rw [if_neg h, if_neg h]
      simp only [hS a (hl a (.head _)) b (hm b (.head _))]
def codeB (sa sb : Nat) (bare : Int) (t : Bool) : List Nat := encV (mk [sa, sb]) bare (sgn sa sb t)
theorem encW_map (sa sb : Nat) (bare : Int) (l : List Bool) : encW sa sb bare (l.map (sgn sa sb)) = l.flatMap (codeB sa sb bare) := by
  unfold encW
  rw [List.flatMap_map]; rfl
theorem code_cases : ∀ p ∈ signPairs, ∀ a ∈ [[p.1], [92, p.1]], ∀ b ∈ [[p.2], [92, p.2]], (a = [p.1] → inH p.1 = true) → (b = [p.2] → inH p.2 = true) → sdN a b ≠ 0 := by decide +kernel
theorem code_sd {sa sb : Nat} (hs : (sa, sb) ∈ signPairs) (bare : Int) : sdN (codeB sa sb bare false) (codeB sa sb bare true) ≠ 0 := by
  have key : ∀ c : Nat, encV (mk [sa, sb]) bare c ∈ [[c], [92, c]] ∧ (encV (mk [sa, sb]) bare c = [c] → inH c = true) := by
    intro c
    unfold encV
    split
    · rename_i h
      simp only [Bool.and_eq_true] at h
      exact ⟨.head _, fun _ => h.1⟩
    · exact ⟨.tail _ (.head _), fun h => by simp at h⟩
  have h1 := key sa
  have h2 := key sb
  exact code_cases _ hs _ h1.1 _ h2.1 h1.2 h2.2
theorem sdB_range (l m : List Bool) : sdB l m = -1 ∨ sdB l m = 0 ∨ sdB l m = 1 := by
  have := map_sd (sa := 0) (sb := 1) (by decide) l m
  rw [← this]; exact sdN_range _ _
section
variable {sa sb : Nat} {bare : Int} {xb yb : List Bool} {x y : List Nat} {shown : Int} {ds : List Int}
theorem Words.msg (W : Words sa sb bare xb yb x y shown ds) {i : Nat} (hi : i < 8) : msgI x y (i : Int) = (msgB xb yb i).map (sgn sa sb) := by
  rw [← W.hx, ← W.hy]; exact msgI_map hi
theorem Words.shown_eq (W : Words sa sb bare xb yb x y shown ds) : shown = - sdN (codeB sa sb bare false) (codeB sa sb bare true) * sdB (xb ++ yb) (yb ++ xb) := by
  have h := W.hshown
  have hxm := sgn_mem W.hx
  have hym := sgn_mem W.hy
  have mem : ∀ {l m : List Nat}, (∀ c ∈ l, c = sa ∨ c = sb) → (∀ c ∈ m, c = sa ∨ c = sb) → ∀ c ∈ encW sa sb bare (l ++ m), c ∈ [92, sa, sb] := fun hl hm c hc => by
    have := encW_mem (fun c hc => (List.mem_append.mp hc).elim (hl c) (hm c)) c hc
    simpa using this
  rw [side_sdN (alph_mono _ W.hsg) _ _ _ (mem hxm hym) (mem hym hxm)] at h
  rw [← h, ← W.hx, ← W.hy, ← List.map_append, ← List.map_append, encW_map, encW_map]
  exact enc_sd rfl (code_sd W.hsg bare) _ _
theorem Words.ds_mem (W : Words sa sb bare xb yb x y shown ds) : ∀ d ∈ ds, ∃ i : Nat, i < 8 ∧ d = (i : Int) := fun d hd => by
  obtain ⟨i, hi, rfl⟩ := List.mem_map.mp (W.hdp.mem_iff.mp hd)
  exact ⟨i, List.mem_range.mp hi, rfl⟩
theorem Words.b1 (W : Words sa sb bare xb yb x y shown ds) : 1 ≤ xb.length ∧ xb.length ≤ 3 := ⟨W.hb1.1, by have := W.hb1.2; omega⟩
theorem Words.b2 (W : Words sa sb bare xb yb x y shown ds) : 1 ≤ yb.length ∧ yb.length ≤ 4 := ⟨W.hb2.1, by have := W.hb2.2; omega⟩
theorem turn_perm : (List.map (fun j : Nat => (3 * (j : Int) + 2).fmod 8) (List.range 8)).Perm (List.map (fun i : Nat => (i : Int)) (List.range 8)) := by decide +kernel
theorem Words.wr (W : Words sa sb bare xb yb x y shown ds) {i j : Nat} (hi : i < 8) (hj : j < 8) :
    sdN (encW sa sb bare (msgI x y i)) (encW sa sb bare (msgI x y j)) = - sdN (codeB sa sb bare false) (codeB sa sb bare true) * sdB (msgB xb yb i) (msgB xb yb j) := by
  rw [W.msg hi, W.msg hj, encW_map, encW_map]
  exact enc_sd rfl (code_sd W.hsg bare) _ _
theorem rise_law (W : Words sa sb bare xb yb x y shown ds) :
    (riseN (List.map (fun j : Nat => mk (encW sa sb bare (msgI x y ((3 * (j : Int) + 2).fmod 8)))) (List.range 8)) 8).2 = List.map (fun d : Int => mk (encW sa sb bare (msgI x y d))) ds := by
  refine rise_is (by rw [List.length_map, List.length_range]) ?_ ?_
  · have h := (W.hdp.trans turn_perm.symm).map (fun d : Int => mk (encW sa sb bare (msgI x y d)))
    rw [List.map_map (l := List.range 8)] at h
    exact h
  · rw [List.pairwise_map]
    refine W.hdk.imp_of_mem fun {a b} ha hb hk => ?_
    obtain ⟨i, hi, rfl⟩ := W.ds_mem a ha
    obtain ⟨j, hj, rfl⟩ := W.ds_mem b hb
    simp only at hk
    have hne := code_sd W.hsg bare
    have hr := sdN_range (codeB sa sb bare false) (codeB sa sb bare true)
    have hsh := W.shown_eq
    have hij := W.wr hi hj
    have hji := W.wr hj hi
    generalize sdN (codeB sa sb bare false) (codeB sa sb bare true) = ρ at *
    show ¬ (encW sa sb bare (msgI x y j) < encW sa sb bare (msgI x y i))
    by_cases h0 : sdB (xb ++ yb) (yb ++ xb) = 0
    · have e : shown = 0 := by rw [hsh, h0]; simp
      rw [if_pos e, if_pos e] at hk
      rw [msgB_eq W.b1 W.b2 h0 hj hi, Int.mul_zero] at hji
      rw [sdN_zero hji]; omega
    · have hs := sdB_range (xb ++ yb) (yb ++ xb)
      have e : shown ≠ 0 := by
        rw [hsh]; rcases hr with h | h | h <;> rcases hs with h' | h' | h' <;> rw [h, h'] <;> simp_all
      rw [if_neg e, if_neg e] at hk
      rcases Nat.lt_trichotomy i j with hlt | rfl | hlt
      · have := msgB_lt W.b1 W.b2 rfl h0 hlt hj
        rw [this, ← hsh] at hij
        have : shown = -1 := by
          have : shown = -1 ∨ shown = 0 ∨ shown = 1 := by rw [← hij]; exact sdN_range _ _
          rcases this with h | h | h
          · exact h
          · exact absurd h e
          · rw [h] at hk; omega
        exact List.lt_asymm (sdN_lt (hij.trans this))
      · exact List.lt_irrefl _
      · have := msgB_lt W.b1 W.b2 rfl h0 hlt hi
        rw [this, ← hsh] at hji
        have : shown = 1 := by
          have : shown = -1 ∨ shown = 0 ∨ shown = 1 := by rw [← hji]; exact sdN_range _ _
          rcases this with h | h | h
          · rw [h] at hk; omega
          · exact absurd h e
          · exact h
        have h3 : sdN (encW sa sb bare (msgI x y i)) (encW sa sb bare (msgI x y j)) = -1 := by
          rw [sdN_anti, hji, this]
        exact List.lt_asymm (sdN_lt h3)
end
end
end
section
open PySem PySem.W PySem.Calls PyProof.Rows
section
def wsc (a : Int) (i : Nat) : Nat := ([10, 9, 13, 32] : List Nat).getD (((a.fdiv 144).fdiv (4 ^ i)).fmod 4).toNat 0
def textL (W : Int → List Nat) (ds : List Int) (a : Int) (n : Nat) : List Nat := (List.range n).flatMap fun i => W (ds.getD i 0) ++ [wsc a i]
def lineL (a : Int) : Nat → Int
  | 0 => 1
  | k + 1 => lineL a k + nl9 [wsc a k]
theorem sign_tok : ∀ p ∈ signPairs, ∀ c ∈ [p.1, p.2], (inH c = true → wsB c = false ∧ c ≠ 92 ∧ c ≠ 34) ∧ c ≠ 10 := by decide +kernel
theorem ws_tok : ∀ k ∈ List.range 4, wsB (([10, 9, 13, 32] : List Nat).getD k 0) = true := by decide +kernel
theorem wsc_ws (a : Int) (i : Nat) : wsB (wsc a i) = true := by
  have h1 : 0 ≤ ((a.fdiv 144).fdiv (4 ^ i)).fmod 4 := Int.fmod_nonneg_of_pos _ (by decide)
  have h2 : ((a.fdiv 144).fdiv (4 ^ i)).fmod 4 < 4 := Int.fmod_lt_of_pos _ (by decide)
  exact ws_tok _ (List.mem_range.mpr (by omega))
theorem nl9_ne {c : Nat} (h : c ≠ 10) : nl9 [c] = 0 := by unfold nl9; rw [if_neg (by simpa using h)]
theorem run_one {sa sb : Nat} (hs : (sa, sb) ∈ signPairs) (bare : Int) {c : Nat} (hc : c = sa ∨ c = sb) (r tok : List Nat) (p : Nat) (l : Int) :
    run (encV (mk [sa, sb]) bare c ++ r) tok p l = run r (tok ++ [c]) (p + (encV (mk [sa, sb]) bare c).length) l := by
  have h := sign_tok _ hs c (by simpa using hc)
  unfold encV
  split
  · rename_i q
    simp only [Bool.and_eq_true] at q
    obtain ⟨h1, h2, _⟩ := h.1 q.1
    show run (c :: r) tok p l = _
    rw [run_plain h1 h2, nl9_ne h.2, Int.add_zero]; rfl
  · show run (92 :: c :: r) tok p l = _
    rw [run_esc, nl9_ne (by decide), nl9_ne h.2, Int.add_zero, Int.add_zero]; rfl
theorem run_encW {sa sb : Nat} (hs : (sa, sb) ∈ signPairs) (bare : Int) (r : List Nat) : ∀ (m : List Nat), (∀ c ∈ m, c = sa ∨ c = sb) → ∀ (tok : List Nat) (p : Nat) (l : Int),
    run (encW sa sb bare m ++ r) tok p l = run r (tok ++ m) (p + (encW sa sb bare m).length) l := by
  intro m
  induction m with
  | nil => intro _ tok p l; simp
  | cons c m ih =>
    intro hm tok p l
    have e : encW sa sb bare (c :: m) = encV (mk [sa, sb]) bare c ++ encW sa sb bare m := List.flatMap_cons
    rw [e, List.append_assoc, run_one hs bare (hm c (.head _)), ih fun d hd => hm d (.tail _ hd)]
    rw [List.append_assoc, List.length_append, Nat.add_assoc]; rfl
theorem textL_succ (W : Int → List Nat) (ds : List Int) (a : Int) (k : Nat) : textL W ds a (k + 1) = textL W ds a k ++ (W (ds.getD k 0) ++ [wsc a k]) := by
  unfold textL
  rw [List.range_succ, List.flatMap_append]; simp
theorem textL_pre (W : Int → List Nat) (ds : List Int) (a : Int) : ∀ (n k : Nat), k ≤ n → ∃ r, textL W ds a n = textL W ds a k ++ r := by
  intro n
  induction n with
  | zero => intro k hk; exact ⟨[], by rw [show k = 0 by omega, List.append_nil]⟩
  | succ n ih =>
    intro k hk
    rcases Nat.lt_or_ge k (n + 1) with h | h
    · obtain ⟨r, e⟩ := ih k (by omega)
      exact ⟨r ++ (W (ds.getD n 0) ++ [wsc a n]), by rw [textL_succ, e, List.append_assoc]⟩
    · exact ⟨[], by rw [show k = n + 1 by omega, List.append_nil]⟩
theorem textL_drop (W : Int → List Nat) (ds : List Int) (a : Int) {n k : Nat} (h : k < n) : ∃ r, (textL W ds a n).drop (textL W ds a k).length = W (ds.getD k 0) ++ (wsc a k :: r) := by
  obtain ⟨r, e⟩ := textL_pre W ds a n (k + 1) h
  refine ⟨r, ?_⟩
  rw [e, textL_succ, List.append_assoc, List.drop_left]; simp
theorem textL_le (W : Int → List Nat) (ds : List Int) (a : Int) {n k : Nat} (h : k ≤ n) : (textL W ds a k).length ≤ (textL W ds a n).length := by
  obtain ⟨r, e⟩ := textL_pre W ds a n k h
  rw [e, List.length_append]; omega
theorem textL_len (W : Int → List Nat) (ds : List Int) (a : Int) (hW : ∀ d, (W d).length ≤ 40) : ∀ n, (textL W ds a n).length ≤ 41 * n := by
  intro n
  induction n with
  | zero => simp [textL]
  | succ n ih =>
    rw [textL_succ, List.length_append, List.length_append]
    have := hW (ds.getD n 0)
    simp only [List.length_cons, List.length_nil]; omega
section
variable {sa sb : Nat} {bare : Int} {xb yb : List Bool} {x y : List Nat} {shown : Int} {ds : List Int}
theorem Words.memx (W : Words sa sb bare xb yb x y shown ds) : ∀ c ∈ x, c = sa ∨ c = sb := sgn_mem W.hx
theorem Words.memy (W : Words sa sb bare xb yb x y shown ds) : ∀ c ∈ y, c = sa ∨ c = sb := sgn_mem W.hy
abbrev txt (sa sb : Nat) (bare : Int) (x y : List Nat) (ds : List Int) (a : Int) (k : Nat) : List Nat := textL (fun d => encW sa sb bare (msgI x y d)) ds a k
theorem Words.run_tok (W : Words sa sb bare xb yb x y shown ds) (a : Int) {k : Nat} (hk : k < 8) :
    run ((txt sa sb bare x y ds a 8).drop (txt sa sb bare x y ds a k).length) [] (txt sa sb bare x y ds a k).length (lineL a k) = (msgI x y (ds.getD k 0), (txt sa sb bare x y ds a (k + 1)).length, lineL a (k + 1)) := by
  obtain ⟨r, e⟩ := textL_drop (fun d => encW sa sb bare (msgI x y d)) ds a hk
  rw [e]
  rw [run_encW W.hsg bare _ _ (msg_mem W.memx W.memy), run_ws (wsc_ws a k)]
  unfold txt
  rw [textL_succ]
  simp only [List.nil_append, List.length_append, List.length_cons, List.length_nil, lineL, Nat.add_assoc]
theorem Words.msg_ne (W : Words sa sb bare xb yb x y shown ds) (d : Int) : msgI x y d ≠ [] := by
  have h : x ≠ [] := by
    rw [← W.hx]; intro q
    have := W.hb1.1
    rw [← List.length_map (f := sgn sa sb), q] at this; simp at this
  unfold msgI
  simp [h]
theorem Words.run_st (W : Words sa sb bare xb yb x y shown ds) (a : Int) {k : Nat} (hk : k < 8) :
    ∃ c r, (txt sa sb bare x y ds a 8).drop (txt sa sb bare x y ds a k).length = c :: r ∧ wsB c = false ∧ c ≠ 34 := by
  obtain ⟨r, e⟩ := textL_drop (fun d => encW sa sb bare (msgI x y d)) ds a hk
  rw [e]
  have hne := W.msg_ne (ds.getD k 0)
  have hm := msg_mem (e := ds.getD k 0) W.memx W.memy
  generalize msgI x y (ds.getD k 0) = m at hne hm
  cases m with
  | nil => exact absurd rfl hne
  | cons c m =>
    have h := sign_tok _ W.hsg c (by simpa using hm c (.head _))
    have e : encW sa sb bare (c :: m) = encV (Mine.mk [sa, sb]) bare c ++ encW sa sb bare m := List.flatMap_cons
    rw [e]
    unfold encV
    split
    · rename_i q
      simp only [Bool.and_eq_true] at q
      obtain ⟨h1, h2, h3⟩ := h.1 q.1
      exact ⟨c, _, rfl, h1, h3⟩
    · exact ⟨92, _, rfl, by decide +kernel, by decide⟩
theorem Words.enc_len (W : Words sa sb bare xb yb x y shown ds) (d : Int) : (encW sa sb bare (msgI x y d)).length ≤ 40 := by
  have h1 : x.length ≤ 4 := by rw [← W.hx, List.length_map]; have := W.b1; omega
  have h2 : y.length ≤ 4 := by rw [← W.hy, List.length_map]; have := W.b2; omega
  have := encW_len sa sb bare (msgI x y d)
  have := msg_len (e := d) h1 h2
  omega
theorem Words.txt_len (W : Words sa sb bare xb yb x y shown ds) (a : Int) (k : Nat) : (txt sa sb bare x y ds a k).length ≤ 41 * k := textL_len _ _ _ W.enc_len k
end
end
end
section
open PySem PySem.W PySem.Calls PyProof.Rows
section
def sidB : List Bool → List Bool → Nat → Int × Nat
  | a :: r, b :: t, i => if a = b then sidB r t (i + 1) else (if b then -1 else 1, i)
  | _, _, _ => (0, 0)
theorem sidB_sd : ∀ l m k, (sidB l m k).1 = sdB l m
  | [], [], _ => rfl
  | [], _ :: _, _ => rfl
  | _ :: _, [], _ => rfl
  | a :: l, b :: m, k => by
    unfold sidB sdB
    by_cases h : a = b
    · rw [if_pos h, if_pos h]; exact sidB_sd l m (k + 1)
    · rw [if_neg h, if_neg h]
theorem side_map {sa sb : Nat} (hs : (sa, sb) ∈ signPairs) : ∀ (l m : List Bool) (k : Nat), sideL (l.map (sgn sa sb)) (m.map (sgn sa sb)) k = ((sidB l m k).1, ((sidB l m k).2 : Int))
  | [], [], _ => rfl
  | [], _ :: _, _ => rfl
  | _ :: _, [], _ => rfl
  | a :: l, b :: m, k => by
    have hlt := (sign_find _ hs).2.2.2.2
    have hne := sign_ord _ hs
    simp only at hlt hne
    rw [List.map_cons, List.map_cons]
    unfold sideL sidB
    cases a <;> cases b
    · rw [if_pos rfl, if_pos rfl]; exact side_map hs l m (k + 1)
    · rw [if_neg (by show ¬ sa = sb; omega)]
      show (if Txt.find alph ⟨#[sa]⟩ < Txt.find alph ⟨#[sb]⟩ then (-1 : Int) else 1, (k : Int)) = _
      rw [if_pos hlt]; rfl
    · rw [if_neg (by show ¬ sb = sa; omega)]
      show (if Txt.find alph ⟨#[sb]⟩ < Txt.find alph ⟨#[sa]⟩ then (-1 : Int) else 1, (k : Int)) = _
      rw [if_neg (by omega)]; rfl
    · rw [if_pos rfl, if_pos rfl]; exact side_map hs l m (k + 1)
def colB (l m : List Bool) : Int := if sdB l m = 0 then lenC l.length m.length else sdB l m
theorem coll_map {sa sb : Nat} (h : sa < sb) (l m : List Bool) : collS (mk (l.map (sgn sa sb))) (mk (m.map (sgn sa sb))) = colB l m := by
  rw [coll_mk, map_sd h, List.length_map, List.length_map]; rfl
def rstB (x y mark : List Bool) (below : Int) (st : List Bool × Int) : List Bool × Int :=
  if colB st.1 mark = -1 then (st.1.drop (if below = 0 then x else y).length, 2 * st.2 + below) else (st.1.drop (if 1 - below = 0 then x else y).length, 2 * st.2 + (1 - below))
def readB (x y mark : List Bool) (below : Int) (r : List Bool) : Nat → List Bool × Int
  | 0 => (r, 0)
  | n + 1 => rstB x y mark below (readB x y mark below r n)
theorem read_map {sa sb : Nat} (h : sa < sb) (x y mark : List Bool) (below : Int) (r : List Bool) : ∀ n, readN (x.map (sgn sa sb)) (y.map (sgn sa sb)) (mark.map (sgn sa sb)) below (r.map (sgn sa sb)) n = ((readB x y mark below r n).1.map (sgn sa sb), (readB x y mark below r n).2)
  | 0 => rfl
  | n + 1 => by
    show readStep _ _ _ below (readN _ _ _ below _ n) = ((rstB x y mark below (readB x y mark below r n)).1.map _, (rstB x y mark below (readB x y mark below r n)).2)
    rw [read_map h x y mark below r n]
    unfold readStep rstB
    simp only [coll_map h]
    split
    · simp only [List.map_drop]
      congr 2
      split <;> simp
    · simp only [List.map_drop]
      congr 2
      split <;> simp
def chkR (x y : List Bool) : Bool :=
  let sp := sidB (x ++ y) (y ++ x) 0
  if sp.1 = -1 then (List.range 8).all fun i => decide ((readB x y ((y ++ x).take (sp.2 + 1)) 0 ((msgsB x y).getD i []) 3).2 = (i : Int))
  else if sp.1 = 0 then true else (List.range 8).all fun i => decide ((readB x y ((x ++ y).take (sp.2 + 1)) 1 ((msgsB x y).getD i []) 3).2 = (i : Int))
theorem chkR_all : ∀ x ∈ upTo 3, ∀ y ∈ upTo 4, chkR x y = true := by decide +kernel
theorem sidB_le : ∀ l m k, (sidB l m k).2 ≤ k + l.length
  | [], [], _ => Nat.zero_le _
  | [], _ :: _, _ => Nat.zero_le _
  | _ :: _, [], _ => Nat.zero_le _
  | a :: l, b :: m, k => by
    unfold sidB
    split
    · have := sidB_le l m (k + 1)
      rw [List.length_cons]; omega
    · show k ≤ _; omega
section
variable {sa sb : Nat} {bare : Int} {xb yb : List Bool} {x y : List Nat} {shown : Int} {ds : List Int}
theorem Words.slt (W : Words sa sb bare xb yb x y shown ds) : sa < sb := sign_ord _ W.hsg
theorem Words.side (W : Words sa sb bare xb yb x y shown ds) : sideL (x ++ y) (y ++ x) 0 = ((sidB (xb ++ yb) (yb ++ xb) 0).1, ((sidB (xb ++ yb) (yb ++ xb) 0).2 : Int)) := by
  rw [← W.hx, ← W.hy, ← List.map_append, ← List.map_append]; exact side_map W.hsg _ _ 0
theorem Words.tell0 (W : Words sa sb bare xb yb x y shown ds) (h : (sideL (x ++ y) (y ++ x) 0).1 = 0) {i j : Nat} (hi : i < 8) (hj : j < 8) :
    collS (Mine.mk (msgI x y i)) (Mine.mk (msgI x y j)) = lenC (msgI x y i).length (msgI x y j).length := by
  rw [W.side, sidB_sd] at h
  rw [W.msg hi, W.msg hj, coll_mk, map_sd W.slt, msgB_eq W.b1 W.b2 h hi hj, if_pos rfl]
theorem lenC_self (n : Nat) : lenC n n = 0 := by simp [lenC]
theorem lenC_lt {i j : Nat} (h : i < j) : lenC i j = -1 := by
  unfold lenC; rw [decide_eq_false (by omega), decide_eq_true h]; rfl
theorem lenC_gt {i j : Nat} (h : j < i) : lenC i j = 1 := by
  unfold lenC; rw [decide_eq_true h, decide_eq_false (by omega)]; rfl
theorem Words.tell1 (W : Words sa sb bare xb yb x y shown ds) (h : (sideL (x ++ y) (y ++ x) 0).1 ≠ 0) {i j : Nat} (hi : i < 8) (hj : j < 8) :
    collS (Mine.mk (msgI x y i)) (Mine.mk (msgI x y j)) = -(sideL (x ++ y) (y ++ x) 0).1 * lenC i j := by
  rw [W.side] at h ⊢
  simp only at h ⊢
  rw [sidB_sd] at h ⊢
  rw [W.msg hi, W.msg hj, coll_mk, map_sd W.slt]
  rcases Nat.lt_trichotomy i j with hlt | rfl | hlt
  · rw [msgB_lt W.b1 W.b2 rfl h hlt hj, if_neg h, lenC_lt hlt]; omega
  · rw [sdB_self, if_pos rfl, lenC_self, lenC_self]; omega
  · rw [sdB_anti, msgB_lt W.b1 W.b2 rfl h hlt hi, if_neg (by omega), lenC_gt hlt]; omega
theorem Words.place (W : Words sa sb bare xb yb x y shown ds) : 0 ≤ (sideL (x ++ y) (y ++ x) 0).2 ∧ (sideL (x ++ y) (y ++ x) 0).2 ≤ 7 := by
  rw [W.side]
  have := sidB_le (xb ++ yb) (yb ++ xb) 0
  have h1 := W.b1
  have h2 := W.b2
  rw [List.length_append] at this
  simp only
  omega
theorem Words.read0 (W : Words sa sb bare xb yb x y shown ds) (h : (sideL (x ++ y) (y ++ x) 0).1 = -1) {i : Nat} (hi : i < 8) :
    (readN x y ((y ++ x).take ((sideL (x ++ y) (y ++ x) 0).2 + 1).toNat) 0 (msgI x y i) 3).2 = (i : Int) := by
  have hc := chkR_all xb (mem_upTo W.b1.1 W.b1.2) yb (mem_upTo W.b2.1 W.b2.2)
  rw [W.side] at h ⊢
  simp only at h ⊢
  rw [W.msg hi, ← W.hx, ← W.hy, ← List.map_append, ← List.map_take, read_map W.slt]
  simp only [chkR, h, if_true] at hc
  have := of_decide_eq_true (List.all_eq_true.mp hc i (List.mem_range.mpr hi))
  exact this
theorem Words.read1 (W : Words sa sb bare xb yb x y shown ds) (h : (sideL (x ++ y) (y ++ x) 0).1 ≠ -1) (h0 : (sideL (x ++ y) (y ++ x) 0).1 ≠ 0) {i : Nat} (hi : i < 8) :
    (readN x y ((x ++ y).take ((sideL (x ++ y) (y ++ x) 0).2 + 1).toNat) 1 (msgI x y i) 3).2 = (i : Int) := by
  have hc := chkR_all xb (mem_upTo W.b1.1 W.b1.2) yb (mem_upTo W.b2.1 W.b2.2)
  rw [W.side] at h h0 ⊢
  simp only at h h0 ⊢
  rw [W.msg hi, ← W.hx, ← W.hy, ← List.map_append, ← List.map_take, read_map W.slt]
  simp only [chkR, if_neg h, if_neg h0] at hc
  have := of_decide_eq_true (List.all_eq_true.mp hc i (List.mem_range.mpr hi))
  exact this
end
end
end
section
open PySem PySem.W PySem.Calls PyProof.Rows
section
theorem sign_lt : ∀ p ∈ signPairs, p.1 < 1000 ∧ p.2 < 1000 := by decide
theorem dot_mk : mk [46] = Str.ofString "." := by decide +kernel
theorem run_dot : run (([46] : List Nat).drop 0) [] 0 1 = ([46], 1, 1) := by decide +kernel
theorem dot_st : ([46] : List Nat).drop 0 = [] ∨ ∃ a r, ([46] : List Nat).drop 0 = a :: r ∧ wsB a = false ∧ a ≠ 34 := .inr ⟨46, [], rfl, by decide +kernel, by decide⟩
theorem encW_ok {sa sb : Nat} (hs : (sa, sb) ∈ signPairs) {bare : Int} {l : List Nat} (hl : ∀ c ∈ l, c = sa ∨ c = sb) : PyData.strOk (mk (encW sa sb bare l)) = true := strOk_mk fun c hc => by
  have h := sign_lt _ hs
  simp only at h
  rcases encW_mem hl c hc with rfl | rfl | rfl
  · decide
  · exact h.1
  · exact h.2
end
end
section
open PySem PySem.W PySem.Calls PyProof.Rows
section
theorem keep_picksD {h₀ h : Heap} {L : Addr} {need news rest : List (Addr × Obj)} {A : List Addr} (hp : Picks need news rest) (N : News h₀ L h news) (SP : Dst A) (e : news.map Prod.fst = A) : News h₀ L h (need ++ rest) ∧ Apart need rest ∧ Dst (rest.map Prod.fst) := ⟨drop N hp.sub, (hp.dst SP e).apart, (hp.dst SP e).app.2.1⟩
theorem dst14 {L : Addr} (h : 98 < L ∧ 126 < L) : Dst [L + 1 + 1 + 1 + 1 + 1 + 1 + 1 + 1 + 1 + 1 + 1 + 1 + 1 + 1, L + 1 + 1 + 1 + 1 + 1 + 1 + 1 + 1 + 1 + 1 + 1 + 1 + 1, L + 1 + 1 + 1 + 1 + 1 + 1 + 1 + 1 + 1 + 1 + 1 + 1, L + 1 + 1 + 1 + 1 + 1 + 1 + 1 + 1 + 1 + 1 + 1, L + 1 + 1 + 1 + 1 + 1 + 1 + 1 + 1 + 1 + 1, L + 1 + 1 + 1 + 1 + 1 + 1 + 1 + 1 + 1, L + 1 + 1 + 1 + 1 + 1 + 1 + 1 + 1, L + 1 + 1 + 1 + 1 + 1 + 1 + 1, L + 1 + 1 + 1 + 1 + 1 + 1, L + 1 + 1 + 1 + 1 + 1, L + 1 + 1 + 1 + 1, L + 1 + 1 + 1, L + 1 + 1, L + 1, 98, 126] := Dst.cells (Dst.two (by decide)) (List.forall_mem_cons.mpr ⟨h.1, List.forall_mem_cons.mpr ⟨h.2, fun _ h => nomatch h⟩⟩) 14
section
variable {I C D : Addr} {oI oC oD : Obj} {need need' more : List (Addr × Obj)}
theorem off3_of : ∀ {l : List (Addr × Obj)}, (∀ p ∈ l, p.1 ≠ I ∧ p.1 ≠ C ∧ p.1 ≠ D) → LCg.Off3 I C D l
  | [], _ => trivial
  | p :: r, h => ⟨h p (.head _), off3_of fun q hq => h q (.tail _ hq)⟩
theorem off3_apart (off : LCg.Off3 I C D (need ++ more)) (A : Apart need more) : Apart need ((I, oI) :: (C, oC) :: (D, oD) :: more) := fun p hp q hq => by
  have h := off.mem p (List.mem_append_left _ hp)
  rcases List.mem_cons.mp hq with rfl | hq
  · exact h.1
  · rcases List.mem_cons.mp hq with rfl | hq
    · exact h.2.1
    · rcases List.mem_cons.mp hq with rfl | hq
      · exact h.2.2
      · exact A p hp q hq
theorem off3_new (off : LCg.Off3 I C D (need ++ more)) (A : Apart need' ((I, oI) :: (C, oC) :: (D, oD) :: more)) : LCg.Off3 I C D (need' ++ more) := off3_of fun p hp => by
  rcases List.mem_append.mp hp with hp | hp
  · exact ⟨A p hp (I, oI) (.head _), A p hp (C, oC) (.tail _ (.head _)), A p hp (D, oD) (.tail _ (.tail _ (.head _)))⟩
  · exact off.mem p (List.mem_append_right _ hp)
theorem apart3 {a b c : Addr × Obj} (A : Apart need (a :: b :: c :: more)) : Apart need more := apart_tail (apart_tail (apart_tail A))
theorem sub3 {a b c : Addr × Obj} : ∀ p ∈ a :: b :: c :: (need ++ more), p ∈ need ++ a :: b :: c :: more := fun p hp => by
  simp only [List.mem_cons, List.mem_append] at hp ⊢
  rcases hp with h | h | h | h | h
  · exact .inr (.inl h)
  · exact .inr (.inr (.inl h))
  · exact .inr (.inr (.inr (.inl h)))
  · exact .inl h
  · exact .inr (.inr (.inr (.inr h)))
theorem sub3' {a b c : Addr × Obj} : ∀ p ∈ need ++ a :: b :: c :: more, p ∈ a :: b :: c :: (need ++ more) := fun p hp => by
  simp only [List.mem_cons, List.mem_append] at hp ⊢
  rcases hp with h | h | h | h | h
  · exact .inr (.inr (.inr (.inl h)))
  · exact .inl h
  · exact .inr (.inl h)
  · exact .inr (.inr (.inl h))
  · exact .inr (.inr (.inr (.inr h)))
end
theorem strs_snoc {us : List Value} {ys : List Str} {y : Str} {t : Tok} (h : StrsAre us ys) : StrsAre (us ++ [.str y t]) (ys ++ [y]) := h.append' (.cons _ _ .nil)
/-- the lexer's objects and its place ahead of the other objects -/
inductive LexJ (w : World) (x : List Nat) (at9 lx : Addr) (pos : Nat) (l : Int) (c : Addr) (oc : Obj) (more nw : List (Addr × Obj)) : Prop
  | mk (ta : Tok) (kA : Nat) (O : List (Addr × Obj)) (e : nw = ((at9, W.listOf #[.int (pos : Int) ta] kA) :: O) ++ more) (hO : LexIs w x at9 lx l [] c oc O) (hA : Apart ((at9, W.listOf #[.int (pos : Int) ta] kA) :: O) more) : LexJ w x at9 lx pos l c oc more nw
/-- the law's statements, unwritten -/
noncomputable def lawB (P : Params) : List Stmt := match (Mine.hd.heap_39 P).lookup 129 with
  | some ⟨_, _, .func fd, _⟩ => (match fd.body with | .stmts b => b | _ => [])
  | _ => []
theorem execs_drop {M : Model} {A : Around} {P : Params} {k : Nat} {st : Stmt} {env : Env} {Q : Flow → Shared → Prop} {E : Value → Shared → Prop} {s : Shared} (e : List.drop k (lawB P) = st :: List.drop (k + 1) (lawB P))
    (h : wpAny M A (exec st env) (fun f s' => match f with | .next => wpAny M A (execs (List.drop (k + 1) (lawB P)) env) Q E s' | f => Q f s') E s) : wpAny M A (execs (List.drop k (lawB P)) env) Q E s := by
  rw [e]; exact wpAny_execs_cons h
theorem fr_to {h₀ h : Heap} {L : Addr} {m : Str → Option Value} (m' : Str → Option Value) (F : Fr h₀ L h m) (e : m = m') : Fr h₀ L h m' := e ▸ F
end
end
section
open PySem PySem.W PySem.Calls PyProof.Rows PyProof.V PySem.Spec
section
theorem cnt_app2 (c : Nat) (l m : List Nat) : PyProof.Rows.cnt c (l ++ m) = PyProof.Rows.cnt c l + PyProof.Rows.cnt c m := by
  induction l with
  | nil => rw [List.nil_append, cnt_nil]; omega
  | cons a l ih => rw [List.cons_append, cnt_cons, cnt_cons, ih]; omega
theorem cnt_none {c : Nat} : ∀ {l : List Nat}, (∀ d ∈ l, d ≠ c) → PyProof.Rows.cnt c l = 0
  | [], _ => cnt_nil c
  | a :: l, h => by rw [cnt_cons, if_neg (h a (.head _)), cnt_none fun d hd => h d (.tail _ hd)]; rfl
theorem nl9_cnt (c : Nat) : PyProof.Rows.cnt 10 [c] = nl9 [c] := by
  rw [cnt_cons, cnt_nil]
  unfold nl9
  by_cases h : c = 10
  · subst h; rfl
  · rw [if_neg h, if_neg (by simpa using h)]; rfl
theorem Words.lines {sa sb : Nat} {bare : Int} {xb yb : List Bool} {x y : List Nat} {shown : Int} {ds : List Int} (W : Words sa sb bare xb yb x y shown ds) (a : Int) : ∀ k, lineL a k = 1 + PyProof.Rows.cnt 10 (txt sa sb bare x y ds a k) := by
  intro k
  induction k with
  | zero => rfl
  | succ k ih =>
    unfold txt at ih ⊢
    rw [textL_succ, cnt_app2, cnt_app2, nl9_cnt, lineL, ih]
    have : PyProof.Rows.cnt 10 (encW sa sb bare (msgI x y (ds.getD k 0))) = 0 := cnt_none fun d hd => by
      have h1 := sign_tok _ W.hsg sa (.head _)
      have h2 := sign_tok _ W.hsg sb (.tail _ (.head _))
      rcases encW_mem (msg_mem W.memx W.memy) d hd with rfl | rfl | rfl
      · decide
      · exact h1.2
      · exact h2.2
    omega
theorem Words.count {sa sb : Nat} {bare : Int} {xb yb : List Bool} {x y : List Nat} {shown : Int} {ds : List Int} (W : Words sa sb bare xb yb x y shown ds) (a : Int) (k : Nat) : 1 + Txt.count (Mine.mk (txt sa sb bare x y ds a k)) (Str.ofString "\n") = lineL a k := by
  rw [W.lines, show Str.ofString "\n" = ⟨#[10]⟩ from by decide +kernel, count_cnt]
section
variable {prog : Program} {w : World} {A : Around} {E : Value → Shared → Prop} {s : Shared} {a b : Addr} {h₀ : Heap} {L : Addr} {news : List (Addr × Obj)} {Q : Value → Shared → Prop}
theorem ne_tup3 {p p' l l' : Int} {t1 t2 t3 u1 u2 u3 : Tok} (N : News h₀ L s.heap news) (ha : (a, ({ cls := .type "tuple", data := .seq [Value.str (mk []) t1, .int p t2, .int l t3].toArray } : Obj)) ∈ news) (hb : (b, ({ cls := .type "tuple", data := .seq [Value.str (Str.ofString "") u1, .int p' u2, .int l' u3].toArray } : Obj)) ∈ news)
    (hp : p = p') (hl : l = l') (hu : A.units + 64 < cLine) (h : Q (.bool false) s) : wpAny (model prog w) A (compareOp .NotEq (.ref a) (.ref b)) Q E s := by
  subst hp hl
  have e0 : mk [] = Str.ofString "" := by decide +kernel
  rw [e0] at ha
  have hs : SeqAt.shaped (.tuple [PyData.str (Str.ofString ""), .int p, .int l]) = true := by
    have : PyData.strOk (Str.ofString "") = true := by decide +kernel
    simp [SeqAt.shaped, PyData.canLay0, PyData.canLayAll0, PyData.depth, PyData.depthAll, this]
  refine ne_dataH_same (da := .tuple [PyData.str (Str.ofString ""), .int p, .int l]) (db := .tuple [PyData.str (Str.ofString ""), .int p, .int l]) (reads_newDataT (News.isTup N ha) (.cons (.str _ _) (.cons (.int _ _) (.cons (.int _ _) .nil)))) (reads_newDataT (News.isTup N hb) (.cons (.str _ _) (.cons (.int _ _) (.cons (.int _ _) .nil)))) hs hs hu ?_ ?_
  · simp [SeqAt.noMix, SeqAt.noMixAll]
  · have : PySem.Spec.same (.tuple [PyData.str (Str.ofString ""), .int p, .int l]) (.tuple [PyData.str (Str.ofString ""), .int p, .int l]) = true := by
      simp [PySem.Spec.same, PySem.Spec.sameAll]
    rw [this]; exact h
end
end
end
section
open PySem PySem.W PySem.Calls PyProof.Rows PySem.Spec
section
open LCg
abbrev cell0 : Obj := { cls := .type "cell", data := .cell none }
abbrev compEnvK (scope : Scope) (cl : List (Str × Addr)) (x : Str) (K C : Addr) (env : Env) : Env := compEnvC scope ((x, K) :: cl) C env

def CompRestK (prog : Program) (w : World) (A : Around) (h₀ : Heap) (L : Addr) (m : Str → Option Value) (env : Env) (elt : Expr) (x : Str) (scope : Scope) (cl : List (Str × Addr)) (s : Shared) (S : List (Addr × Obj) → Prop) (P : Nat → Value → Prop)
    (Fin : List Value → List (Addr × Obj) → Prop) : Nat → Nat → List Value → List (Addr × Obj) → Prop
  | 0, _, ys, news => Fin ys news
  | k + 1, i, ys, news => ∀ v I oI C oC K oK D h tk (E' : Value → Shared → Prop), P i v → oK.data = .cell (some v) → Fr h₀ L h m → News h₀ L h ((I, oI) :: (C, oC) :: (D, lst ys) :: (K, oK) :: news) → Off3 I C D ((K, oK) :: news) → ((@Ne Nat I C) ∧ (@Ne Nat I D) ∧ (@Ne Nat C D)) → (∀ p ∈ news, p.1 ≠ K) →
      wpAny (model prog w) A (eval elt (compEnvK scope cl x K C env)) (CompEnd h₀ L m { s with heap := h, toks := tk } I oI C oC D (lst ys) (fun _ => True) (fun y news' => ∃ nw, news' = (K, oK) :: nw ∧ (∀ p ∈ nw, p.1 ≠ K) ∧ S nw ∧ CompRestK prog w A h₀ L m env elt x scope cl s S P Fin k (i + 1) (ys ++ [y]) nw)) E' { s with heap := h, toks := tk }

inductive KBlk (n : Nat) (I D C K : Addr) (s₂ : Shared) (h₀ : Heap) (L : Addr) (m : Str → Option Value) (St : Nat → Heap → Prop) (S : List (Addr × Obj) → Prop) (R : Nat → Nat → List Value → List (Addr × Obj) → Prop) (k : Nat) (s' : Shared) : Prop
  | mk (h' : Heap) (tk i : Nat) (ys : List Value) (m' : Str → Option Value) (oK : Obj) (vK : Option Value) (news' : List (Addr × Obj)) (e : s' = { s₂ with heap := h', toks := tk }) (hi : i ≤ n) (hk : k = n + 1 - i) (hyl : ys.length = i) (hst : St i h') (F : Fr h₀ L h' m) (hn : h'.Ns C m') (N : News h₀ L h' ((D, lst ys) :: (K, oK) :: news')) (hoK : oK.data = .cell vK) (off : ∀ p ∈ news', p.1 ≠ I ∧ p.1 ≠ C ∧ p.1 ≠ D ∧ p.1 ≠ K) (hS : S news') (R' : R (n - i) i ys news') : KBlk n I D C K s₂ h₀ L m St S R k s'
section
variable {prog : Program} {w : World} {A : Around} {E : Value → Shared → Prop} {s : Shared} {h₀ : Heap} {L : Addr} {m : Str → Option Value} {env : Env}
theorem newEnvK {M : Model} {scope : Scope} {globals : Addr} {cl : List (Str × Addr)} {qual : Str} {x : Str} {Q : Env → Shared → Prop}
    (hcs : ∀ n acc, cellsFrom n scope.names acc = (x, n) :: acc) (hpc : ∀ h, pushCells h scope.names = h.push cell0)
    (hQ : Q { scope, locals := s.heap.objs.size, globals, cells := (x, s.heap.objs.size + 1) :: cl, qual, func := none, code := env.code, frame := env.frame, builtins := env.builtins } { s with heap := (s.heap.push { cls := .type "dict", data := .dict #[] }).push cell0 }) :
    wpAny M A (newFunctionEnv scope globals cl [] qual none .none (some env)) Q E s := by
  simp only [newFunctionEnv, Option.isSome_some, if_true]
  refine wpAny_bind (wpAny_alloc ?_)
  refine wpAny_bind (wpAny_layCells _ (fun name kind cells => by cases hkc : kind == NameKind.cell <;> simp [hkc]) _ _ _ _ ?_)
  rw [hcs, hpc]
  dsimp only
  rw [List.forIn_nil]
  refine wpAny_bind (wpAny_pure (wpAny_pure ?_))
  rw [Heap.size_push]
  exact hQ

theorem block_K {elt iter : Expr} {x : Str} {px : Pos} {scope : Scope} {cl : List (Str × Addr)} {pos : Pos} {s₂ : Shared} {I : Addr} {fp : List Addr} {n : Nat} {P : Nat → Value → Prop} {St : Nat → Heap → Prop} {S : List (Addr × Obj) → Prop} {news : List (Addr × Obj)}
    {Fin : List Value → List (Addr × Obj) → Prop} {RR : Value → Addr → Result → Shared → Prop}
    (W : Walks prog w A I fp [I] n P St) (hsz : n ≤ sizeLine) (hIo : ∀ i h, St i h → ∃ o, h.get? I = some o)
    (hSt : ∀ i h h' o nw, St i h → h.get? I = some o → h'.get? I = some o → (∀ b o, h₀.get? b = some o → h'.get? b = some o) → News h₀ L h' nw → S nw → St i h')
    (hcs : ∀ n acc, cellsFrom n scope.names acc = (x, n) :: acc) (hpc : ∀ h, pushCells h scope.names = h.push cell0) (hkind : scope.kind = .function) (hx : ∀ cl' C, (compEnvC scope cl' C env).kindOf x = some .cell) (hst : St 0 s₂.heap) (hfp : ∀ b ∈ fp, b < s₂.heap.objs.size)
    (F : Fr h₀ L s₂.heap m) (N : News h₀ L s₂.heap news) (hIL : L ≠ I) (hI₀ : h₀.get? I = none) (off : ∀ p ∈ news, p.1 ≠ I) (hS : S news)
    (R : CompRestK prog w A h₀ L m env elt x scope cl s₂ S P Fin n 0 [] news)
    (hRR : ∀ D C h tk m' ys news', Fr h₀ L h m → News h₀ L h ((D, lst ys) :: news') → Off1 D news' → h.Ns C m' → h₀.get? C = none → h₀.get? D = none → C ≠ L → D ≠ L → C ≠ D → (∀ p ∈ news', p.1 ≠ C) → Fin ys news' → RR (.ref D) C (.ok .next) { s₂ with heap := h, toks := tk }) :
    wpAny (model prog w) A (newList []) (fun acc s₃ => wpAny (model prog w) A (newFunctionEnv scope env.globals cl [] env.qual none .none (some env)) (fun cenv s₄ =>
      codeAny (model prog w) A (.compStart (.ListComp elt [⟨.Name x px, iter, [], 0⟩] scope pos) 0 (.ref I) acc { cenv with scope := relabel scope env }) (RR acc cenv.locals) s₄) E s₃) E s₂ := by
  refine wpAny_newObj_type (newEnvK hcs hpc ?_)
  dsimp only
  generalize hH2 : s₂.heap.push { cls := .type "list", dict := none, data := .seq ([] : List Value).toArray } = H2
  have hC : H2.objs.size = s₂.heap.objs.size + 1 := by rw [← hH2, Heap.size_push]
  generalize hKK : H2.objs.size + 1 = K
  have hK : (H2.push { cls := .type "dict", data := .dict #[] }).objs.size = K := by rw [Heap.size_push]; exact hKK
  generalize hH1 : (H2.push { cls := .type "dict", data := .dict #[] }).push cell0 = h₁
  have hDC : s₂.heap.objs.size ≠ H2.objs.size := by rw [hC]; exact Nat.ne_of_lt (Nat.lt_succ_self _)
  have hCK : H2.objs.size ≠ K := by rw [← hKK]; exact Nat.ne_of_lt (Nat.lt_succ_self _)
  have hDK : s₂.heap.objs.size ≠ K := by rw [← hKK, hC]; exact Nat.ne_of_lt (Nat.lt_succ_of_lt (Nat.lt_succ_self _))
  have below : ∀ b, b < s₂.heap.objs.size → b ≠ H2.objs.size ∧ b ≠ s₂.heap.objs.size ∧ b ≠ K := fun b hb => ⟨by rw [hC]; exact Nat.ne_of_lt (Nat.lt_succ_of_lt hb), Nat.ne_of_lt hb, by rw [← hKK, hC]; exact Nat.ne_of_lt (Nat.lt_succ_of_lt (Nat.lt_succ_of_lt hb))⟩
  have hDf : s₂.heap.objs.size ∉ fp := fun hm => Nat.lt_irrefl _ (hfp _ hm)
  have hCf : H2.objs.size ∉ fp := fun hm => (below _ (hfp _ hm)).1 rfl
  have hKf : K ∉ fp := fun hm => (below _ (hfp _ hm)).2.2 rfl
  have hIf : I ∈ fp := W.sub I (List.mem_singleton.mpr rfl)
  have hIlt : I < s₂.heap.objs.size := hfp I hIf
  have old2 : ∀ b o, H2.get? b = some o → h₁.get? b = some o := fun b o e => hH1 ▸ Heap.get?_push_of_some _ (Heap.get?_push_of_some _ e)
  have old : ∀ b o, s₂.heap.get? b = some o → h₁.get? b = some o := fun b o e => old2 b o (hH2 ▸ Heap.get?_push_of_some _ e)
  have hacc : h₁.get? s₂.heap.objs.size = some (lst []) := old2 _ _ (hH2 ▸ Heap.get?_push_size _ rfl)
  have hcl : h₁.get? K = some cell0 := by rw [← hK, ← hH1]; exact Heap.get?_push_size _ rfl
  have hns₁ : h₁.Ns H2.objs.size (fun _ => none) := hH1 ▸ (Heap.Ns.new H2 (.type "dict")).keeps fun b o e => Heap.get?_push_of_some _ e
  have hst₁ : St 0 h₁ := W.frame _ _ _ hst fun b _ o e => old b o e
  have fresh : ∀ a, s₂.heap.objs.size ≤ a → s₂.heap.get? a = none := fun a ha => by
    cases e : s₂.heap.get? a with
    | none => rfl
    | some o' => exact absurd (Heap.lt_size e) (Nat.not_lt.mpr ha)
  have fresh₀ : ∀ a, s₂.heap.objs.size ≤ a → h₀.get? a = none := fun a ha => by
    cases e : h₀.get? a with
    | none => rfl
    | some o' => have := F.keep a o' e; rw [fresh a ha] at this; cases this
  have hD₀ : h₀.get? s₂.heap.objs.size = none := fresh₀ _ (Nat.le_refl _)
  have hC₀ : h₀.get? H2.objs.size = none := fresh₀ _ (by rw [hC]; exact Nat.le_succ _)
  have hK₀ : h₀.get? K = none := fresh₀ _ (by rw [← hKK, hC]; exact Nat.le_succ_of_le (Nat.le_succ _))
  have hLlt : L < s₂.heap.objs.size := F.ns.lt
  have hDL : s₂.heap.objs.size ≠ L := Ne.symm (below L hLlt).2.1
  have hCL : H2.objs.size ≠ L := Ne.symm (below L hLlt).1
  have hKL : K ≠ L := Ne.symm (below L hLlt).2.2
  have hCI : I ≠ H2.objs.size := (below I hIlt).1
  have hDI : I ≠ s₂.heap.objs.size := (below I hIlt).2.1
  have hKI : I ≠ K := (below I hIlt).2.2
  have off₀ : ∀ p ∈ news, p.1 ≠ I ∧ p.1 ≠ H2.objs.size ∧ p.1 ≠ s₂.heap.objs.size ∧ p.1 ≠ K := fun p hp => have z := below _ (Heap.lt_size (N p hp).1); ⟨off p hp, z.1, z.2.1, z.2.2⟩
  have loop : ∀ s₃ : Shared, s₃ = { s₂ with heap := h₁ } →
      codeAny (model prog w) A (.compLoop (.ListComp elt [⟨.Name x px, iter, [], 0⟩] scope pos) 0 (.ref I) (.ref s₂.heap.objs.size) (compEnvK scope cl x K H2.objs.size env))
        (RR (.ref s₂.heap.objs.size) H2.objs.size) s₃ := by
    rintro s₃ rfl
    refine codeAny_compLoop_tests
      (KBlk n I s₂.heap.objs.size H2.objs.size K s₂ h₀ L m St S (CompRestK prog w A h₀ L m env elt x scope cl s₂ S P Fin)) ?_ (n + 1)
      ⟨h₁, _, 0, [], _, cell0, none, news, rfl, Nat.zero_le _, rfl, rfl, hst₁, F.keeps old, hns₁, fun p hp => ?_, rfl, off₀, hS, R⟩
    · rintro k s' ⟨h', tk, i, ys, m', oK, vK, news', rfl, hi, rfl, hyl, hst', F', hn', N', hoK, off', hS', R'⟩
      by_cases hlt : i < n
      · obtain ⟨j, hj⟩ : ∃ j, n - i = j + 1 := ⟨n - i - 1, (Nat.succ_pred_eq_of_pos (Nat.sub_pos_of_lt hlt)).symm⟩
        rw [hj] at R'
        refine W.item i _ _ _ hlt hst' fun v h₂ tk₂ hPv hst₂ hk₂ => ?_
        have hKc : h₂.IsCell K vK := ⟨oK, hk₂ _ _ (by simpa using Ne.symm hKI) (N' _ (.tail _ (.head _))).1, hoK⟩
        refine wpAny_assign_Name (wpAny_storeName_cell (c := K) (by simp [compEnvC, relabel, hkind]) (hx _ _) (by simp [compEnvC]) hKc (fun h₃ hc₃ hs₃ => ?_))
        refine wpAny_tests_nil ?_
        simp only [if_true]
        have hst₃ : St (i + 1) h₃ := W.frame _ _ _ hst₂ fun b hb o e => hs₃.extBut b o (fun q => hKf (by have q' : b = K := q; rw [← q']; exact hb)) e
        obtain ⟨oI, heI⟩ := hIo _ _ hst₃
        have hn₂ : h₂.Ns H2.objs.size m' := hn'.at' fun o e => hk₂ _ o (by simpa using Ne.symm hCI) e
        obtain ⟨oC, heC, hoC⟩ := ns_obj (hn₂.at' fun o e => hs₃.extBut _ o hCK e)
        obtain ⟨oK₃, heK, hoK₃⟩ := hc₃
        have F₃ : Fr h₀ L h₃ m := (fr_but F' hk₂ hIL hI₀).change hs₃ hKL hK₀
        have N₂ : News h₀ L h₂ ((s₂.heap.objs.size, lst ys) :: news') := news_but (fun p hp => N' p (by rcases List.mem_cons.mp hp with rfl | hp; exact .head _; exact .tail _ (.tail _ hp))) hk₂ fun p hp => by
          rcases List.mem_cons.mp hp with rfl | hp
          · exact Ne.symm hDI
          · exact (off' p hp).1
        have N₃ : News h₀ L h₃ ((I, oI) :: (H2.objs.size, oC) :: (s₂.heap.objs.size, lst ys) :: (K, oK₃) :: news') := fun p hp => by
          rcases List.mem_cons.mp hp with rfl | hp
          · exact ⟨heI, Ne.symm hIL, hI₀⟩
          · rcases List.mem_cons.mp hp with rfl | hp
            · exact ⟨heC, hCL, hC₀⟩
            · rcases List.mem_cons.mp hp with rfl | hp
              · have z := N₂ _ (.head _)
                exact ⟨hs₃.extBut _ _ hDK z.1, z.2⟩
              · rcases List.mem_cons.mp hp with rfl | hp
                · exact ⟨heK, hKL, hK₀⟩
                · have z := N₂ p (.tail _ hp)
                  exact ⟨hs₃.extBut _ _ (off' p hp).2.2.2 z.1, z.2⟩
        have off3 : Off3 I H2.objs.size s₂.heap.objs.size ((K, oK₃) :: news') := Off3.of fun p hp => by
          rcases List.mem_cons.mp hp with rfl | hp
          · exact ⟨Ne.symm hKI, Ne.symm hCK, Ne.symm hDK⟩
          · exact ⟨(off' p hp).1, (off' p hp).2.1, (off' p hp).2.2.1⟩
        refine wpAny_mono (R' v I oI H2.objs.size oC K oK₃ s₂.heap.objs.size h₃ _ _ hPv hoK₃ F₃ N₃ off3 ⟨hCI, hDI, Ne.symm hDC⟩ (fun p hp => (off' p hp).2.2.2)) (fun y s₄ h₄ => ?_) fun _ _ e => e
        obtain ⟨h₄, tk₄, news₄, rfl, F₄, N₄, off₄, _, nw, rfl, offK, hS₄, R₄⟩ := h₄
        have zI := (N₄ (I, oI) List.mem_cons_self).1
        have zC := (N₄ (H2.objs.size, oC) (List.mem_cons_of_mem _ List.mem_cons_self)).1
        have zD := (N₄ (s₂.heap.objs.size, lst ys) (List.mem_cons_of_mem _ (List.mem_cons_of_mem _ List.mem_cons_self))).1
        have N₄' : News h₀ L h₄ ((K, oK₃) :: nw) := fun p hp => N₄ p (List.mem_cons_of_mem _ (List.mem_cons_of_mem _ (List.mem_cons_of_mem _ hp)))
        have hst₄ : St (i + 1) h₄ := hSt _ _ _ _ _ hst₃ heI zI F₄.keep (fun p hp => N₄' p (.tail _ hp)) hS₄
        refine append_at (hsz := by show ys.toArray.size ≤ sizeLine; rw [List.size_toArray, hyl]; exact Nat.le_trans hi hsz) zD fun h₅ hs₅ hD₅ => ?_
        have off4 := off₄.mem
        refine ⟨n + 1 - (i + 1), Nat.sub_lt_sub_left (Nat.lt_succ_of_lt hlt) (Nat.lt_succ_self i), h₅, tk₄, i + 1, ys ++ [y], _, oK₃, _, nw, rfl, hlt, rfl, by rw [List.length_append, List.length_singleton, hyl], W.frame _ _ _ hst₄ fun b hb o e => hs₅.extBut b o (fun q => hDf (q ▸ hb)) e, F₄.change hs₅ hDL hD₀,
          (hoC.ns zC).sameBut hs₅ (Ne.symm hDC), fun p hp => ?_, hoK₃, fun p hp => ?_, hS₄, ?_⟩
        · rcases List.mem_cons.mp hp with rfl | hp
          · exact ⟨hD₅.trans (congrArg some (lst_snoc ys y)), hDL, hD₀⟩
          · exact ⟨hs₅.extBut _ _ (off4 p hp).2.2 (N₄' p hp).1, (N₄' p hp).2⟩
        · have z := off4 p (.tail _ hp)
          exact ⟨z.1, z.2.1, z.2.2, offK p hp⟩
        · rw [show n - (i + 1) = j by rw [← Nat.sub_sub, hj]; rfl]
          exact R₄
      · obtain rfl : i = n := Nat.le_antisymm hi (Nat.not_lt.mp hlt)
        rw [Nat.sub_self] at R'
        refine W.done _ _ _ hst' fun h₂ tk₂ hk₂ => ?_
        have N'' : News h₀ L h' ((s₂.heap.objs.size, lst ys) :: news') := fun p hp => N' p (by rcases List.mem_cons.mp hp with rfl | hp; exact .head _; exact .tail _ (.tail _ hp))
        exact hRR _ _ h₂ tk₂ _ ys news' (fr_but F' hk₂ hIL hI₀) (news_but N'' hk₂ fun p hp => by
          rcases List.mem_cons.mp hp with rfl | hp
          · exact Ne.symm hDI
          · exact (off' p hp).1) (Off3.one (I := I) (C := H2.objs.size) (Off3.of fun p hp => ⟨(off' p hp).1, (off' p hp).2.1, (off' p hp).2.2.1⟩)) (hn'.at' fun o e => hk₂ _ o (by simpa using Ne.symm hCI) e) hC₀ hD₀ hCL hDL (Ne.symm hDC) (fun p hp => (off' p hp).2.1) R'
    · rcases List.mem_cons.mp hp with rfl | hp
      · exact ⟨hacc, hDL, hD₀⟩
      · rcases List.mem_cons.mp hp with rfl | hp
        · exact ⟨hcl, hKL, hK₀⟩
        · exact ⟨old _ _ (N p hp).1, (N p hp).2⟩
  exact codeAny_compStart_list (loop _ rfl) (W.self 0 _ _ _ hst₁ (loop _ rfl))

def SrcLK (prog : Program) (w : World) (A : Around) (h₀ : Heap) (L : Addr) (m : Str → Option Value) (env : Env) (elt : Expr) (x : Str) (scope : Scope) (cl : List (Str × Addr)) (Fin : Shared → List Value → List (Addr × Obj) → Prop) (xv : Value) (s₁ : Shared) : Prop :=
  ∃ ax its news, xv = .ref ax ∧ A.handled = none ∧ Fr h₀ L s₁.heap m ∧ News h₀ L s₁.heap news ∧ SrcAt h₀ ax its news ∧ its.size ≤ sizeLine ∧
    ∀ s₂ : Shared, (∃ h, s₂ = { s₁ with heap := h }) → CompRestK prog w A h₀ L m env elt x scope cl s₂ (SrcAt h₀ ax its) (fun i v => its[i]? = some v) (Fin s₂) its.size 0 [] news
def SrcRK (prog : Program) (w : World) (A : Around) (h₀ : Heap) (L : Addr) (m : Str → Option Value) (env : Env) (elt : Expr) (x : Str) (scope : Scope) (cl : List (Str × Addr)) (Fin : Shared → List Value → List (Addr × Obj) → Prop) (xv : Value) (s₁ : Shared) : Prop :=
  ∃ r a b t u v n news, xv = .ref r ∧ A.handled = none ∧ Fr h₀ L s₁.heap m ∧ News h₀ L s₁.heap news ∧ IsRange s₁.heap r a b 1 t u v ∧ Builtin.Range.small a b 1 = true ∧ Builtin.Range.rangeSize a b 1 = ((n : Nat) : Int) ∧ n ≤ sizeLine ∧
    ∀ s₂ : Shared, (∃ h, s₂ = { s₁ with heap := h }) → CompRestK prog w A h₀ L m env elt x scope cl s₂ (fun _ => True) (fun i v => ∃ t, v = .int (a + (i : Int)) t) (Fin s₂) n 0 [] news
def CompSrcK (prog : Program) (w : World) (A : Around) (h₀ : Heap) (L : Addr) (m : Str → Option Value) (env : Env) (elt : Expr) (x : Str) (scope : Scope) (cl : List (Str × Addr)) (Fin : Shared → List Value → List (Addr × Obj) → Prop) (xv : Value) (s₁ : Shared) : Prop :=
  SrcLK prog w A h₀ L m env elt x scope cl Fin xv s₁ ∨ SrcRK prog w A h₀ L m env elt x scope cl Fin xv s₁
theorem CompSrcK.ledger {elt : Expr} {x : Str} {scope : Scope} {cl : List (Str × Addr)} {Fin : Shared → List Value → List (Addr × Obj) → Prop} {ax : Addr} {its : Array Value} {k : Nat} {news : List (Addr × Obj)} {s₁ : Shared}
    (hh : A.handled = none) (F : Fr h₀ L s₁.heap m) (N : News h₀ L s₁.heap news) (hm : (ax, ({ cls := .type "list", data := .seq its k } : Obj)) ∈ news) (hsz : its.size ≤ sizeLine)
    (h : ∀ g, CompRestK prog w A h₀ L m env elt x scope cl { s₁ with heap := g } (SrcAt h₀ ax its) (fun i v => its[i]? = some v) (Fin { s₁ with heap := g }) its.size 0 [] news) :
    CompSrcK prog w A h₀ L m env elt x scope cl Fin (.ref ax) s₁ := .inl ⟨ax, its, news, rfl, hh, F, N, .inr ⟨_, hm, rfl, _, rfl⟩, hsz, fun _ ⟨g, e⟩ => e ▸ h g⟩
theorem CompSrcK.range {elt : Expr} {x : Str} {scope : Scope} {cl : List (Str × Addr)} {Fin : Shared → List Value → List (Addr × Obj) → Prop} {r : Addr} {a b : Int} {t u v : Tok} {n : Nat} {news : List (Addr × Obj)} {s₁ : Shared}
    (hh : A.handled = none) (F : Fr h₀ L s₁.heap m) (N : News h₀ L s₁.heap news) (hr : IsRange s₁.heap r a b 1 t u v) (hsm : Builtin.Range.small a b 1 = true) (hn : Builtin.Range.rangeSize a b 1 = ((n : Nat) : Int)) (hsz : n ≤ sizeLine)
    (h : ∀ g, CompRestK prog w A h₀ L m env elt x scope cl { s₁ with heap := g } (fun _ => True) (fun i v => ∃ t, v = .int (a + (i : Int)) t) (Fin { s₁ with heap := g }) n 0 [] news) :
    CompSrcK prog w A h₀ L m env elt x scope cl Fin (.ref r) s₁ := .inr ⟨r, a, b, t, u, v, n, news, rfl, hh, F, N, hr, hsm, hn, hsz, fun _ ⟨g, e⟩ => e ▸ h g⟩

theorem ListComp_K {elt iter : Expr} {x : Str} {px : Pos} {scope : Scope} {cl : List (Str × Addr)} {pos : Pos} {Q : Value → Shared → Prop} (F₀ : Fr h₀ L s.heap m)
    (hclos : closureFor scope env = pure cl) (hcs : ∀ n acc, cellsFrom n scope.names acc = (x, n) :: acc) (hpc : ∀ h, pushCells h scope.names = h.push cell0) (hkind : scope.kind = .function)
    (hnames : ∀ y ∈ scope.names, y.2 = .local → scope.names.lookup y.1 = some .local) (hx : ∀ cl' C, (compEnvC scope cl' C env).kindOf x = some .cell)
    (h : wpAny (model prog w) A (eval iter env) (CompSrcK prog w A h₀ L m env elt x scope cl (fun s₂ => FinE h₀ L m s₂ Q)) E s)
    (hs : ∀ x, foldedSetIterable iter env x = pure x := by intro _; rfl) :
    wpAny (model prog w) A (eval (.ListComp elt [⟨.Name x px, iter, [], 0⟩] scope pos) env) Q E s := by
  rw [eval_ListComp]
  refine wpAny_comprehension_free (use := none) rfl hs hclos hkind hnames (wpAny_mono h (fun xv s₁ h₁ => ?_) fun _ _ e => e)
  rcases h₁ with ⟨ax, its, news, rfl, hh, F, N, S, hsz, R⟩ | ⟨r, a, b, t, u, v, n, news, rfl, hh, F, N, hr, hsm, hn, hsz, R⟩
  · have hl := S.list F.keep N
    have hlt : ax < s₁.heap.objs.size := by obtain ⟨_, e, _⟩ := hl; exact Heap.lt_size e
    refine wpAny_pyIter_list hl ?_
    have up : ∀ b o, s₁.heap.get? b = some o → (s₁.heap.push { cls := .type "list_iterator", data := .fields #[.ref ax, .int 0 0] }).get? b = some o := fun b o e => Heap.get?_push_of_some _ e
    refine block_K (Walks.list hh s₁.heap.objs.size ax (Nat.ne_of_lt hlt) its) hsz (fun i h st => by obtain ⟨o, e, _⟩ := st.1; exact ⟨o, e⟩) list_st hcs hpc hkind hx ⟨⟨_, Heap.get?_push_size _ rfl, rfl, rfl⟩, hl.push _⟩ (fun b hb => ?_)
      (F.keeps up) (N.grown up) (Nat.ne_of_lt F.ns.lt) (next_is_new F) (fun p hp => Nat.ne_of_lt (Heap.lt_size (N p hp).1)) S (R _ ⟨_, rfl⟩) ?_
    · show b < (s₁.heap.push _).objs.size
      rw [Heap.size_push]
      rcases List.mem_cons.mp hb with rfl | hb
      · exact Nat.lt_succ_self _
      · rw [List.mem_singleton.mp hb]; exact Nat.lt_succ_of_lt hlt
    · intro D C h tk m' ys news' F' N' o1 hn hC₀ hD₀ hCL hDL hCD offC fin
      refine ⟨m', hn, fun h'' hs'' => fin D h'' tk (F'.change hs'' hCL hC₀) (fun p hp => ?_) o1⟩
      refine ⟨hs''.extBut _ _ ?_ (N' p hp).1, (N' p hp).2⟩
      rcases List.mem_cons.mp hp with rfl | hp
      · exact Ne.symm hCD
      · exact offC p hp
  · refine wpAny_pyIter_range hr hsm ?_
    refine block_K (range_walks hh a n) hsz (fun i h st => ⟨_, st⟩) range_st hcs hpc hkind hx (by show IsRangeIter _ _ _ _ _; rw [hn]; simpa using Heap.get?_push_size _ rfl) (fun b hb => ?_)
      (F.keeps fun _ _ e => Heap.get?_push_of_some _ e) (N.grown fun _ _ e => Heap.get?_push_of_some _ e) (Nat.ne_of_lt F.ns.lt) (next_is_new F) (fun p hp => Nat.ne_of_lt (Heap.lt_size (N p hp).1)) trivial (R _ ⟨_, rfl⟩) ?_
    · rw [List.mem_singleton.mp hb]
      show s₁.heap.objs.size < (s₁.heap.push _).objs.size
      rw [Heap.size_push]; exact Nat.lt_succ_self _
    · intro D C h tk m' ys news' F' N' o1 hn hC₀ hD₀ hCL hDL hCD offC fin
      refine ⟨m', hn, fun h'' hs'' => fin D h'' tk (F'.change hs'' hCL hC₀) (fun p hp => ?_) o1⟩
      refine ⟨hs''.extBut _ _ ?_ (N' p hp).1, (N' p hp).2⟩
      rcases List.mem_cons.mp hp with rfl | hp
      · exact Ne.symm hCD
      · exact offC p hp

theorem Assign_ListComp_K {elt iter : Expr} {x y : Str} {px py : Pos} {scope : Scope} {cl : List (Str × Addr)} {pos spos : Pos} {Q : Flow → Shared → Prop} (F₀ : Fr h₀ L s.heap m) (hLe : env.locals = L)
    (hsw : swapsWith (.ListComp elt [⟨.Name x px, iter, [], 0⟩] scope pos) (some (.Name y py)) spos.line env = pure true)
    (hclos : closureFor scope env = pure cl) (hcs : ∀ n acc, cellsFrom n scope.names acc = (x, n) :: acc) (hpc : ∀ h, pushCells h scope.names = h.push cell0) (hkind : scope.kind = .function)
    (hnames : ∀ z ∈ scope.names, z.2 = .local → scope.names.lookup z.1 = some .local) (hx : ∀ cl' C, (compEnvC scope cl' C env).kindOf x = some .cell)
    (hy : env.kindOf y = some .local) (hp : (env.scope.kind == .class || (env.scope.kind == .module && env.locals != env.globals)) = false)
    (h : wpAny (model prog w) A (eval iter env) (CompSrcK prog w A h₀ L m env elt x scope cl (fun s₂ => FinA h₀ L m s₂ y Q)) E s)
    (hs : ∀ x, foldedSetIterable iter env x = pure x := by intro _; rfl) :
    wpAny (model prog w) A (exec (.Assign [.Name y py] (.ListComp elt [⟨.Name x px, iter, [], 0⟩] scope pos) spos) env) Q E s := by
  subst hLe
  rw [exec_Assign_Name_used _ _ _ _ hsw]
  refine wpAny_bind (wpAny_standAt (wpAny_bind ?_))
  show wpAny _ A (do let _ ← comprehension (.ListComp elt [⟨.Name x px, iter, [], 0⟩] scope pos) scope env _ (newList []) false (eval iter env) (some (assign (.Name y py) env))) _ _ s
  refine wpAny_bind (wpAny_mono (wpAny_comprehension_free (use := some (assign (.Name y py) env)) (Q := fun _ s' => Q .next s') rfl hs hclos hkind hnames
    (wpAny_mono h (fun xv s₁ h₁ => ?_) fun _ _ e => e)) (fun _ s' hq => wpAny_pure (wpAny_pure hq)) fun _ _ e => e)
  rcases h₁ with ⟨ax, its, news, rfl, hh, F, N, S, hsz, R⟩ | ⟨r, a, b, t, u, v, n, news, rfl, hh, F, N, hr, hsm, hn, hsz, R⟩
  · have hl := S.list F.keep N
    have hlt : ax < s₁.heap.objs.size := by obtain ⟨_, e, _⟩ := hl; exact Heap.lt_size e
    refine wpAny_pyIter_list hl ?_
    have up : ∀ b o, s₁.heap.get? b = some o → (s₁.heap.push { cls := .type "list_iterator", data := .fields #[.ref ax, .int 0 0] }).get? b = some o := fun b o e => Heap.get?_push_of_some _ e
    refine block_K (Walks.list hh s₁.heap.objs.size ax (Nat.ne_of_lt hlt) its) hsz (fun i h st => by obtain ⟨o, e, _⟩ := st.1; exact ⟨o, e⟩) list_st hcs hpc hkind hx ⟨⟨_, Heap.get?_push_size _ rfl, rfl, rfl⟩, hl.push _⟩ (fun b hb => ?_)
      (F.keeps up) (N.grown up) (Nat.ne_of_lt F.ns.lt) (next_is_new F) (fun p hp => Nat.ne_of_lt (Heap.lt_size (N p hp).1)) S (R _ ⟨_, rfl⟩) ?_
    · show b < (s₁.heap.push _).objs.size
      rw [Heap.size_push]
      rcases List.mem_cons.mp hb with rfl | hb
      · exact Nat.lt_succ_self _
      · rw [List.mem_singleton.mp hb]; exact Nat.lt_succ_of_lt hlt
    · intro D C h' tk m' ys news' F' N' o1 hn hC₀ hD₀ hCL hDL hCD offC fin
      show wpAny _ A (assign (.Name y py) env (.ref D)) _ _ _
      refine wpAny_assign_Name (wpAny_storeName_local hy F'.ns (fun h₂ hn₂ hs₂ => ?_) hp)
      have hL₀ : h₀.get? env.locals = none := Heap.get?_none_of_le F'.above
      have F₂ : Fr h₀ env.locals h₂ (fun z => if z = y then some (.ref D) else m z) := ⟨hn₂, fun b o e => hs₂.extBut b o (fun q => by rw [q, hL₀] at e; cases e) (F'.keep b o e), F'.above⟩
      refine ⟨m', hn.sameBut hs₂ hCL, fun h'' hs'' => fin D h'' _ (F₂.change hs'' hCL hC₀) (fun p hp => ?_) o1⟩
      have z : h₂.get? p.1 = some p.2 := hs₂.extBut _ _ (N' p hp).2.1 (N' p hp).1
      refine ⟨hs''.extBut _ _ ?_ z, (N' p hp).2⟩
      rcases List.mem_cons.mp hp with rfl | hp
      · exact Ne.symm hCD
      · exact offC p hp
  · refine wpAny_pyIter_range hr hsm ?_
    refine block_K (range_walks hh a n) hsz (fun i h st => ⟨_, st⟩) range_st hcs hpc hkind hx (by show IsRangeIter _ _ _ _ _; rw [hn]; simpa using Heap.get?_push_size _ rfl) (fun b hb => ?_)
      (F.keeps fun _ _ e => Heap.get?_push_of_some _ e) (N.grown fun _ _ e => Heap.get?_push_of_some _ e) (Nat.ne_of_lt F.ns.lt) (next_is_new F) (fun p hp => Nat.ne_of_lt (Heap.lt_size (N p hp).1)) trivial (R _ ⟨_, rfl⟩) ?_
    · rw [List.mem_singleton.mp hb]
      show s₁.heap.objs.size < (s₁.heap.push _).objs.size
      rw [Heap.size_push]; exact Nat.lt_succ_self _
    · intro D C h' tk m' ys news' F' N' o1 hn hC₀ hD₀ hCL hDL hCD offC fin
      show wpAny _ A (assign (.Name y py) env (.ref D)) _ _ _
      refine wpAny_assign_Name (wpAny_storeName_local hy F'.ns (fun h₂ hn₂ hs₂ => ?_) hp)
      have hL₀ : h₀.get? env.locals = none := Heap.get?_none_of_le F'.above
      have F₂ : Fr h₀ env.locals h₂ (fun z => if z = y then some (.ref D) else m z) := ⟨hn₂, fun b o e => hs₂.extBut b o (fun q => by rw [q, hL₀] at e; cases e) (F'.keep b o e), F'.above⟩
      refine ⟨m', hn.sameBut hs₂ hCL, fun h'' hs'' => fin D h'' _ (F₂.change hs'' hCL hC₀) (fun p hp => ?_) o1⟩
      have z : h₂.get? p.1 = some p.2 := hs₂.extBut _ _ (N' p hp).2.1 (N' p hp).1
      refine ⟨hs''.extBut _ _ ?_ z, (N' p hp).2⟩
      rcases List.mem_cons.mp hp with rfl | hp
      · exact Ne.symm hCD
      · exact offC p hp

/-- a comprehension whose variable is a cell, by an invariant -/
theorem comp_indK {elt : Expr} {x : Str} {scope : Scope} {cl : List (Str × Addr)} {S : List (Addr × Obj) → Prop} {P : Nat → Value → Prop} {Fin : List Value → List (Addr × Obj) → Prop}
    (n : Nat) (J : Nat → List Value → List (Addr × Obj) → Prop)
    (step : ∀ i ys news, i < n → J i ys news → ∀ v I oI C oC K oK D h tk (E' : Value → Shared → Prop), P i v → oK.data = .cell (some v) → Fr h₀ L h m → News h₀ L h ((I, oI) :: (C, oC) :: (D, lst ys) :: (K, oK) :: news) → Off3 I C D ((K, oK) :: news) → ((@Ne Nat I C) ∧ (@Ne Nat I D) ∧ (@Ne Nat C D)) → (∀ p ∈ news, p.1 ≠ K) →
      wpAny (model prog w) A (eval elt (compEnvK scope cl x K C env)) (CompEnd h₀ L m { s with heap := h, toks := tk } I oI C oC D (lst ys) (fun _ => True) (fun y news' => ∃ nw, news' = (K, oK) :: nw ∧ (∀ p ∈ nw, p.1 ≠ K) ∧ S nw ∧ J (i + 1) (ys ++ [y]) nw)) E' { s with heap := h, toks := tk })
    (fin : ∀ ys news, J n ys news → Fin ys news) :
    ∀ k i ys news, i + k = n → J i ys news → CompRestK prog w A h₀ L m env elt x scope cl s S P Fin k i ys news := by
  intro k
  induction k with
  | zero => intro i ys news e hJ; exact fin ys news (by rw [← e]; exact hJ)
  | succ k ih =>
    intro i ys news e hJ v I oI C oC K oK D h tk E' hP hK F N off ne offK
    refine wpAny_mono (step i ys news (by omega) hJ v I oI C oC K oK D h tk E' hP hK F N off ne offK) (fun y s₂ q => ?_) fun _ _ e => e
    obtain ⟨h', tk', news', e1, F', N', off', hS, nw, rfl, hK', hSn, hJ'⟩ := q
    exact ⟨h', tk', _, e1, F', N', off', hS, nw, rfl, hK', hSn, ih (i + 1) (ys ++ [y]) nw (by omega) hJ'⟩
end
end
end
section
open PySem PySem.W PySem.Calls PyProof.Rows PySem.Spec PyProof.V
section
open LCg
inductive RowsAre (nw : List (Addr × Obj)) : List Value → List (List Int) → Prop
  | nil : RowsAre nw [] []
  | cons {D : Addr} {us : List Value} {t : List Int} {ys : List Value} {T : List (List Int)} : (D, lst us) ∈ nw → IntsAre us t → RowsAre nw ys T → RowsAre nw (.ref D :: ys) (t :: T)
theorem RowsAre.mono {nw nw' : List (Addr × Obj)} (h : ∀ p ∈ nw, p ∈ nw') {ys : List Value} {T : List (List Int)} (r : RowsAre nw ys T) : RowsAre nw' ys T := by
  induction r with
  | nil => exact .nil
  | cons hm hi _ ih => exact .cons (h _ hm) hi ih
theorem RowsAre.snoc {nw : List (Addr × Obj)} {D : Addr} {us : List Value} {t : List Int} (hm : (D, lst us) ∈ nw) (hi : IntsAre us t) {ys : List Value} {T : List (List Int)} (r : RowsAre nw ys T) : RowsAre nw (ys ++ [.ref D]) (T ++ [t]) := by
  induction r with
  | nil => exact .cons hm hi .nil
  | cons hm' hi' _ ih => exact .cons hm' hi' ih
theorem ints_snoc {us : List Value} {ns : List Int} {n : Int} {t : Tok} (h : IntsAre us ns) : IntsAre (us ++ [.int n t]) (ns ++ [n]) := by
  induction h with
  | nil => exact .cons _ _ .nil
  | cons n t _ ih => exact .cons n t ih
section
variable {a b c d e : Addr × Obj} {base rows : List (Addr × Obj)}
theorem sub_row : ∀ p ∈ a :: b :: c :: d :: (base ++ e :: rows), p ∈ e :: a :: b :: c :: d :: (base ++ rows) := fun p hp => by
  simp only [List.mem_cons, List.mem_append] at hp ⊢
  rcases hp with h | h | h | h | h | h | h
  · exact .inr (.inl h)
  · exact .inr (.inr (.inl h))
  · exact .inr (.inr (.inr (.inl h)))
  · exact .inr (.inr (.inr (.inr (.inl h))))
  · exact .inr (.inr (.inr (.inr (.inr (.inl h)))))
  · exact .inl h
  · exact .inr (.inr (.inr (.inr (.inr (.inr h)))))
theorem mem_mid : ∀ p ∈ base ++ rows, p ∈ base ++ e :: rows := fun p hp => by
  simp only [List.mem_cons, List.mem_append] at hp ⊢
  rcases hp with h | h
  · exact .inl h
  · exact .inr (.inr h)
end
/-- the end of an outer element: the new row goes behind the base -/
theorem rowEnd {h₀ : Heap} {L : Addr} {m : Str → Option Value} {s₁ : Shared} {I : Addr} {oI : Obj} {C : Addr} {oC : Obj} {K : Addr} {oK : Obj} {D : Addr} {oD : Obj} {S : List (Addr × Obj) → Prop} {J : List (Addr × Obj) → Prop} {base rows : List (Addr × Obj)} {D' : Addr} {us : List Value} {h : Heap} {tk : Nat}
    (F : Fr h₀ L h m) (N : News h₀ L h ((D', lst us) :: (I, oI) :: (C, oC) :: (D, oD) :: (K, oK) :: (base ++ rows))) (o1 : Off1 D' ((I, oI) :: (C, oC) :: (D, oD) :: (K, oK) :: (base ++ rows)))
    (off : Off3 I C D ((K, oK) :: (base ++ rows))) (offK : ∀ p ∈ base ++ rows, p.1 ≠ K) (hS : S (base ++ (D', lst us) :: rows)) (hJ : J (base ++ (D', lst us) :: rows)) :
    CompEnd h₀ L m s₁ I oI C oC D oD (fun _ => True) (fun _ news' => ∃ nw, news' = (K, oK) :: nw ∧ (∀ p ∈ nw, p.1 ≠ K) ∧ S nw ∧ J nw) (.ref D') { s₁ with heap := h, toks := tk } := by
  have q := off1_mem o1
  refine ⟨h, tk, (K, oK) :: (base ++ (D', lst us) :: rows), rfl, F, drop N sub_row, off3_of fun p hp => ?_, trivial, _, rfl, fun p hp => ?_, hS, hJ⟩
  · rcases List.mem_cons.mp hp with rfl | hp
    · exact off.mem _ (.head _)
    · rcases List.mem_append.mp hp with hp | hp
      · exact off.mem _ (.tail _ (List.mem_append_left _ hp))
      · rcases List.mem_cons.mp hp with rfl | hp
        · exact ⟨Ne.symm (q (I, oI) (.head _)), Ne.symm (q (C, oC) (.tail _ (.head _))), Ne.symm (q (D, oD) (.tail _ (.tail _ (.head _))))⟩
        · exact off.mem _ (.tail _ (List.mem_append_right _ hp))
  · rcases List.mem_append.mp hp with hp | hp
    · exact offK _ (List.mem_append_left _ hp)
    · rcases List.mem_cons.mp hp with rfl | hp
      · exact Ne.symm (q (K, oK) (.tail _ (.tail _ (.tail _ (.head _)))))
      · exact offK _ (List.mem_append_right _ hp)

theorem lay_ints : ∀ t : List Int, PyData.canLayAll0 (t.map PyData.int) = true
  | [] => rfl
  | n :: r => by simp [PyData.canLayAll0, PyData.canLay0, lay_ints r]
theorem depth_ints : ∀ t : List Int, PyData.depthAll (t.map PyData.int) = 0
  | [] => rfl
  | _ :: r => by simp [PyData.depthAll, PyData.depth, depth_ints r]
abbrev rowD (t : List Int) : PyData := .list (t.map PyData.int)
theorem lay_rows : ∀ T : List (List Int), PyData.canLayAll0 (T.map rowD) = true
  | [] => rfl
  | n :: r => by simp [PyData.canLayAll0, PyData.canLay0, lay_rows r, lay_ints n]
theorem depth_rows : ∀ T : List (List Int), PyData.depthAll (T.map rowD) ≤ 1
  | [] => Nat.zero_le _
  | t :: r => by
    have := depth_rows r
    simp [PyData.depthAll, PyData.depth, depth_ints t, this]
theorem shaped_rows (T : List (List Int)) : SeqAt.shaped (.list (T.map rowD)) = true := by
  have := depth_rows T
  simp [SeqAt.shaped, PyData.canLay0, lay_rows, PyData.depth]; omega
theorem mix_ints : ∀ t : List Int, SeqAt.noMixAll (t.map PyData.int) (t.map PyData.int) = true
  | [] => rfl
  | n :: r => by simp [SeqAt.noMixAll, SeqAt.noMix, mix_ints r]
theorem mix_rows : ∀ T : List (List Int), SeqAt.noMixAll (T.map rowD) (T.map rowD) = true
  | [] => rfl
  | t :: r => by simp [SeqAt.noMixAll, SeqAt.noMix, mix_rows r, mix_ints t]
theorem same_ints : ∀ t : List Int, PySem.Spec.sameAll (t.map PyData.int) (t.map PyData.int) = true
  | [] => by simp [PySem.Spec.sameAll]
  | n :: r => by simp [PySem.Spec.sameAll, PySem.Spec.same, same_ints r]
theorem same_rows : ∀ T : List (List Int), PySem.Spec.sameAll (T.map rowD) (T.map rowD) = true
  | [] => by simp [PySem.Spec.sameAll]
  | t :: r => by simp [PySem.Spec.sameAll, PySem.Spec.same, same_rows r, same_ints t]
theorem rows_read {h₀ h : Heap} {L : Addr} {nw : List (Addr × Obj)} (N : News h₀ L h nw) {ys : List Value} {T : List (List Int)} (r : RowsAre nw ys T) : ∃ as, ReadsAll h ys (T.map rowD) as := by
  induction r with
  | nil => exact ⟨_, .nil⟩
  | cons hm hi _ ih =>
    obtain ⟨as, ih⟩ := ih
    exact ⟨_, .cons (reads_newData (News.isList N hm) hi.carried) ih⟩
section
variable {prog : Program} {w : World} {A : Around} {E : Value → Shared → Prop} {s : Shared} {a b : Addr} {h₀ : Heap} {L : Addr} {news nw nw' : List (Addr × Obj)} {Q : Value → Shared → Prop} {xs ys : List Value} {T T' : List (List Int)}
theorem rows_at (N : News h₀ L s.heap news) (ha : (a, lst xs) ∈ news) (r : RowsAre news xs T) : ∃ as, Reads s.heap (.ref a) (.list (T.map rowD)) as := by
  obtain ⟨as, ra⟩ := rows_read N r
  obtain ⟨o, ho, hc, n, hd⟩ := News.isList N ha
  exact ⟨_, .list ho hc hd ra⟩
theorem eq_rows (N : News h₀ L s.heap news) (ha : (a, lst xs) ∈ news) (hb : (b, lst ys) ∈ news) (r : RowsAre news xs T) (r' : RowsAre news ys T') (e : T = T') (hu : A.units + 64 < cLine) (h : Q (.bool true) s) : wpAny (model prog w) A (compareOp .Eq (.ref a) (.ref b)) Q E s := by
  subst e
  obtain ⟨_, ra⟩ := rows_at N ha r
  obtain ⟨_, rb⟩ := rows_at N hb r'
  refine eq_dataH_same ra rb (shaped_rows T) (shaped_rows T) hu (by simp [SeqAt.noMix, mix_rows]) ?_
  rw [show PySem.Spec.same (.list (T.map rowD)) (.list (T.map rowD)) = true by simp [PySem.Spec.same, same_rows]]
  exact h
theorem ne_rows (N : News h₀ L s.heap news) (ha : (a, lst xs) ∈ news) (hb : (b, lst ys) ∈ news) (r : RowsAre news xs T) (r' : RowsAre news ys T') (e : T = T') (hu : A.units + 64 < cLine) (h : Q (.bool false) s) : wpAny (model prog w) A (compareOp .NotEq (.ref a) (.ref b)) Q E s := by
  subst e
  obtain ⟨_, ra⟩ := rows_at N ha r
  obtain ⟨_, rb⟩ := rows_at N hb r'
  refine ne_dataH_same ra rb (shaped_rows T) (shaped_rows T) hu (by simp [SeqAt.noMix, mix_rows]) ?_
  rw [show PySem.Spec.same (.list (T.map rowD)) (.list (T.map rowD)) = true by simp [PySem.Spec.same, same_rows]]
  exact h
theorem eq_ints (N : News h₀ L s.heap news) (ha : (a, lst xs) ∈ news) {o : Array Value} {k : Nat} (hb : (b, W.listOf o k) ∈ news) {t t' : List Int} (r : IntsAre xs t) (r' : IntsAre o.toList t') (e : t = t') (hu : A.units + 64 < cLine) (h : Q (.bool true) s) : wpAny (model prog w) A (compareOp .Eq (.ref a) (.ref b)) Q E s := by
  subst e
  have hs : SeqAt.shaped (rowD t) = true := by simp [SeqAt.shaped, PyData.canLay0, lay_ints, PyData.depth, depth_ints]
  refine eq_dataH_same (da := rowD t) (db := rowD t) (reads_newData (News.isList N ha) r.carried) (reads_newData (D := b) (ys := o.toList) (by have := News.isList N hb; simpa using this) r'.carried) hs hs hu (by simp [SeqAt.noMix, mix_ints]) ?_
  rw [show PySem.Spec.same (rowD t) (rowD t) = true by simp [PySem.Spec.same, same_ints]]
  exact h
end
end
end

section
structure Hide (P : Prop) : Prop where
  out : P
end
section
open PySem PySem.W PySem.Calls PyProof.Rows
local macro_rules | `(tactic| kas_types) => `(tactic| first | with_reducible exact Pick.head | (refine' Pick.tail ?hq; (case hq => kas_types)))
local macro_rules | `(tactic| keq_hits) => `(tactic| first | exact Pick.head | (refine' Pick.tail ?hq; (case hq => keq_hits)))
local macro_rules | `(tactic| walk_at "mine pick") => `(tactic| first | kas_types | keq_hits)
local macro_rules | `(tactic| isplit) => `(tactic| first | with_reducible exact Picks.nil | (refine' Picks.cons ?ha ?hb; (case ha => walk_at "mine pick"); (case hb => isplit)))
local macro_rules | `(tactic| walk_at "mine picks") => `(tactic| isplit)
local macro_rules | `(tactic| walk_at "mine apart") => `(tactic| ((simp only [ApartAll, AllNe, and_true]); (repeat' apply And.intro) <;> omega))
local macro_rules | `(tactic| walk_at "callWith ref") => `(tactic| (k_here; (refine' callWith_F ?k1 ?_; (case k1 => exact FnAt.of (by k_asm) (by k_mem)); k_whole)))
local macro_rules | `(tactic| walk_at "FnAt") => `(tactic| (k_dflt (exact FnAt.of (by k_asm) (by k_mem))))
section
open PySem PySem.W PySem.Calls PyProof.Rows
section
local macro_rules | `(tactic| cells_open $x:ident) => `(tactic| (obtain ⟨_, _, _, _, _, _, _, _, _, _, _, _, _, _, he, _, _, _, _, _, _, _, _, _, _, _, _, _, _⟩ := kc_14 $x; subst he))
noncomputable def law_walk : { P : Prop // Hide P → PySem.Challenge.rw_ph0025_01.Holds } := ⟨_, fun hst9 => hd (by
  k_go0
  all_goals (try k_fold)
  rename Fr _ _ _ _ => F0
  rename News _ _ _ _ => N0
  rename Frag.In _ _ => X'
  rename Top _ _ _ _ _ _ => T'
  rename Below _ _ _ _ => B'
  rename IntsAre _ _ => hI
  rename Heap.IsList _ _ _ => hL
  rename_i w s₀ s₁ mg mb G Y fa o9 pm doc ho hg X1 V T1 B1 TE TW hcd ns hs hlay0 hL1 hr1 hl2 z1 z2 ls vs z5 hL2 ra w1 r0 hr2 hlen ct hD h1 tk1 p1 p2 p3 p4 p5 p6 p7 p8 p9 p10 p11 p12 p13 p14 d1 d2 d3 d4 d5 d6 d7 d8 d9 d10 d11 d12 d13 d14 X0 C1 l0
  clear X0 ct hr2 r0 w1 ra hL2 hl2 hr1 hL1 hlay0 hs hcd TW TE B1 T1 V X1 Y G ho
  replace F0 := fr_to (fun y => if y = Str.ofString "script" then some (.ref ls) else none) F0 (by with_unfolding_all rfl)
  (try dsimp only)
  refine' (?_ : wpAny _ _ (execs (List.drop 0 (lawB w.params)) _) _ _ _)
  revert w s₀ s₁ mg mb fa o9 pm doc hg hT8 hT9 ns z1 z2 ls vs z5 hI hlen hD h1 tk1 p1 p2 p3 p4 p5 p6 p7 p8 p9 p10 p11 p12 p13 p14 d1 d2 d3 d4 d5 d6 d7 d8 d9 d10 d11 d12 d13 d14 X' T' B' hL C1 codeHd N0 l0 F0
  exact hst9.out)⟩
end
end
section
open PySem PySem.W PySem.Calls PyProof.Rows
local macro_rules | `(tactic| k_places) => `(tactic| k_dflt (refine' (?pf : Fnd ?pl ?pi ?py → nth ?pl ?pi = some ?py) ?px; (case px => ktn_lt); (case pf => (intro _; exact rfl))))
local macro_rules | `(tactic| k_mem) => `(tactic| first | (refine' mem_at ?mi ?mh; (case mh => k_places)) | fail "none")
local macro_rules | `(tactic| k_ne) => `(tactic| ((try dsimp only); first | (rename Dst _ => sp9; refine' Dst.ne ?ni ?nj sp9 ?na ?nb ?nc; (case na | nb => k_places); (case nc => k_dflt (exact rfl))) | (refine neN ?_; (try dsimp only); omega)))
local macro_rules | `(tactic| k_upd) => `(tactic| first | (rename Dst _ => sp9; refine' Upd.at ?ui sp9 ?ua ?uh ?ue; (case ua => k_dflt (exact rfl)); (case uh => k_places); (case ue => (dsimp only [setN]; k_dflt (exact rfl)))) | fail "none")
local macro_rules | `(tactic| k_updF) => `(tactic| first | (rename Dst _ => sp9; refine' UpdF.at ?ui sp9 ?ua ?uh ?ue; (case ua => k_dflt (exact rfl)); (case uh => k_places); (case ue => (dsimp only [setN]; k_dflt (exact rfl)))) | fail "none")
local macro_rules | `(tactic| got_up) => `(tactic| first | exact pick_nil | (refine' pick_cons ?pa ?pb; (case pa => k_places); (case pb => got_up)))
local macro_rules | `(tactic| walk_at "mine dst") => `(tactic| first | (refine' Dst.pick ?dl ?di ?dp ?dn; (case dl => assumption); (case dp => got_up); (case dn => k_dflt (exact rfl))) | fail "none")
local macro_rules | `(tactic| k_lt $h:ident) => `(tactic| first | (rename Dst _ => sp9; refine' absorb (Dst.up sp9 $h ?lb) ?lc; (case lb => k_dflt (exact rfl)); intro sp8; clear sp9) | fail "none")
local macro_rules | `(tactic| k_lt2 $h:ident) => `(tactic| first | (rename Dst _ => sp9; refine' absorb (Dst.up2 sp9 $h ?la ?lb) ?lc; (case la => assumption); (case lb => k_dflt (exact rfl)); intro sp8; clear sp9) | fail "none")
local macro_rules | `(tactic| walk_at "execs") => `(tactic| (k_here; (with_reducible refine' execs_drop ?k1 ?_); (case k1 => with_unfolding_all exact rfl); (try dsimp only); (try k_fold)))
local macro_rules | `(tactic| walk_at "call ref") => `(tactic| (k_here; (with_reducible show wpAny _ _ (call (Value.ref _) _) _ _ _); (refine hold ?_)))
local macro_rules | `(tactic| walk_at "CompSrc") => `(tactic| refine hold ?_)
local macro_rules | `(tactic| walk_at "mine nums") => `(tactic| ((case hd | hu => exact Nat.le_of_ble_eq_true rfl)))
local macro_rules | `(tactic| walk_at "CompEnd") => `(tactic| refine hold ?_)
section
open PySem PySem.W PyProof.Rows
local macro_rules | `(tactic| walk_at "mine pad") => `(tactic| fail)
theorem Mine.rst_L2 : True ∧ True := by
  w_top off
  first | (walk1; all_goals exact True.intro) | exact ⟨True.intro, True.intro⟩
end
section
open PySem PySem.W PySem.Calls PyProof.Rows
section
local macro_rules | `(tactic| ktn_lt) => `(tactic| first | exact Fnd.z | (refine' Fnd.s ?fs; (case fs => ktn_lt)))
set_option tactic.hygienic false in
noncomputable def law_a : { P : Prop // Hide P → law_walk.1 } := ⟨_, fun hst9 => by
  intro w
  intros
  clear hT8 hD
  replace d1 : p1.data = .cell none := d1
  replace d2 : p2.data = .cell none := d2
  replace d3 : p3.data = .cell none := d3
  replace d4 : p4.data = .cell none := d4
  replace d5 : p5.data = .cell none := d5
  replace d6 : p6.data = .cell none := d6
  replace d7 : p7.data = .cell none := d7
  replace d8 : p8.data = .cell none := d8
  replace d9 : p9.data = .cell none := d9
  replace d10 : p10.data = .cell none := d10
  replace d11 : p11.data = .cell none := d11
  replace d12 : p12.data = .cell none := d12
  replace d13 : p13.data = .cell none := d13
  replace d14 : p14.data = .cell none := d14
  replace hlen : ns.length ≤ 63 := by omega
  generalize hG : PySem.W.ghostOf s₁.heap [(102, 98), (128, 126)] = G0 at *
  generalize hB : s₁.heap.objs.size = B0 at *
  revert N0
  show let q1 : Addr := B0 + 1; let q2 : Addr := q1 + 1; let q3 : Addr := q2 + 1; let q4 : Addr := q3 + 1; let q5 : Addr := q4 + 1; let q6 : Addr := q5 + 1; let q7 : Addr := q6 + 1; let q8 : Addr := q7 + 1; let q9 : Addr := q8 + 1; let q10 : Addr := q9 + 1; let q11 : Addr := q10 + 1; let q12 : Addr := q11 + 1; let q13 : Addr := q12 + 1; let q14 : Addr := q13 + 1; News _ _ _ [(q14, _), (q13, _), (q12, _), (q11, _), (q10, _), (q9, _), (q8, _), (q7, _), (q6, _), (q5, _), (q4, _), (q3, _), (q2, _), (q1, _), (98, _), (126, _)] → _
  intro q1 q2 q3 q4 q5 q6 q7 q8 q9 q10 q11 q12 q13 q14 N0
  have SP : Dst [q14, q13, q12, q11, q10, q9, q8, q7, q6, q5, q4, q3, q2, q1, 98, 126] := dst14 l0
  k_steps
  refine Hold.out ?_
  rename Fr _ _ _ _ => F5
  rename News _ _ _ _ => N5
  refine' SpecR.out (numbers_spec _ _ _ _ hI hlen) B' F5 X' N5 T' rfl rfl ?hd ?hu rfl (fun p h => h) (apart_nil _) ?ho ?_
  walk_at "mine nums"
  case ho => exact hL.at fun o e => F5.keep _ _ e
  k_whole
  rintro v news' h3 tk3 ⟨rn, a, b, c, ta, tb, tc, k, rfl, rfl⟩ F3 N3 A3
  clear F5 N5
  dsimp only [List.cons_append, List.nil_append] at N3
  rename Dst _ => SP
  replace SP := SP.add A3 Dst.one rfl
  (try dsimp only [List.map_cons, List.map_nil, List.cons_append, List.nil_append] at SP)
  clear A3
  obtain ⟨sa, sb, esg, hsg⟩ := signs_mk a
  have ss := fun t => sign_spec w a t
  rw [esg] at ss
  have hb1 := bits_len b 3 (by decide)
  have hb2 := bits_len c 4 (by decide)
  have w1 := fun t t2 t3 => word_spec w sa sb b 3 t t2 t3 (by decide) (by decide)
  have w2 := fun t t2 t3 => word_spec w sa sb c 4 t t2 t3 (by decide) (by decide)
  simp only [wordL_bits] at w1 w2
  generalize bitsOf b 3 = xb at w1 hb1
  generalize bitsOf c 4 = yb at w2 hb2
  generalize hx : xb.map (sgn sa sb) = x at w1
  generalize hy : yb.map (sgn sa sb) = y at w2
  (try dsimp only)
  k_steps
  refine Hold.out ?_
  rename Fr _ _ _ _ => F5
  rename News _ _ _ _ => N5
  refine' Spec.out (ss _) B' F5 X' N5 T' rfl rfl ?hd ?hu rfl ?_
  walk_at "mine nums"
  k_whole
  intro t9 h9 tk9 F9 N9
  clear F5 N5
  (try dsimp only)
  k_steps
  refine Hold.out ?_
  rename Fr _ _ _ _ => F5
  rename News _ _ _ _ => N5
  refine' Spec.out (w1 _ _ _) B' F5 X' N5 T' rfl rfl ?hd ?hu rfl ?_
  walk_at "mine nums"
  k_whole
  intro t9 h9 tk9 F9 N9
  clear F5 N5
  (try dsimp only)
  k_steps
  refine Hold.out ?_
  rename Fr _ _ _ _ => F5
  rename News _ _ _ _ => N5
  refine' Spec.out (w2 _ _ _) B' F5 X' N5 T' rfl rfl ?hd ?hu rfl ?_
  walk_at "mine nums"
  k_whole
  intro t9 h9 tk9 F9 N9
  clear F5 N5
  (try dsimp only)
  k_steps
  rename Fr _ _ _ _ => FF
  rename News _ _ _ _ => NN
  revert FF NN
  repeat (rename Fr _ _ _ _ => Fz; clear Fz)
  repeat (rename News _ _ _ _ => Fz; clear Fz)
  intro FF NN
  clear ss w1 w2
  rename Dst _ => SP
  repeat (rename (∀ q ∈ (_ : List (Addr × Obj)), q.1 < (_ : Addr)) => lz; clear lz)
  rename_i qkz ekz h'z o' d' qk_1 ek_1 t9z h9z tk9z h'_1 o'_1 d'_1 qk_2 ek_2 h'_2 o'_2 d'_2 qk_3 ek_3 t9_1 h9_1 tk9_1 l' h'_3 h'_4 o'_3 d'_3
  revert w s₀ s₁ mg mb fa o9 pm doc hg hT9 ns z1 z2 ls vs z5 hI h1 tk1 p1 p2 p3 p4 p5 p6 p7 p8 p9 p10 p11 p12 p13 p14 d1 d2 d3 d4 d5 d6 d7 d8 d9 d10 d11 d12 d13 d14 hlen G0 hG X' T' B' hL C1 codeHd B0 hB l0 q1 q2 q3 q4 q5 q6 q7 q8 q9 q10 q11 q12 q13 q14 qkz ekz h3 tk3 rn a b c ta tb tc k sa sb esg hsg xb hb1 yb hb2 x hx y hy h'z o' d' qk_1 ek_1 t t9z h9z tk9z h'_1 o'_1 d'_1 qk_2 ek_2 t_1 h'_2 o'_2 d'_2 qk_3 ek_3 t_2 t9_1 h9_1 tk9_1 t_3 t9 h9 tk9 l' h'_3 SP h'_4 o'_3 d'_3 qk ek h' tk t₁ u₁ v₁ a_1 a_4 FF NN
  exact hst9.out⟩
end
end
section
open PySem PySem.W PyProof.Rows
local macro_rules | `(tactic| walk_at "mine pad") => `(tactic| fail)
theorem Mine.rst_L3 : True ∧ True := by
  w_top off
  first | (walk1; all_goals exact True.intro) | exact ⟨True.intro, True.intro⟩
end
section
open PySem PySem.W PySem.Calls PyProof.Rows
section
local macro_rules | `(tactic| ktn_lt) => `(tactic| first | exact Fnd.z | (refine' Fnd.s ?fs; (case fs => ktn_lt)))
local macro_rules | `(tactic| walk_at "subscriptTail Name BinOp ref int") => `(tactic| (k_here; (refine' itemP ?k1 ?k2 ?k3 ?k4 ?_; (case k1 => k_asm); (case k2 => k_mem); (case k3 | k4 => assumption)); intro t9))
set_option tactic.hygienic false in
noncomputable def law_b : { P : Prop // Hide P → law_a.1 } := ⟨_, fun hst9 => by
  intro w
  intros
  have hxl : x.length ≤ 3 := by rw [← hx, List.length_map]; omega
  have hyl : y.length ≤ 4 := by rw [← hy, List.length_map]; omega
  refine Hold.out ?_
  refine' LCg.CompSrc.range (n := 8) rfl ?kF ?kN ?kR ?k4 ?k5 (by rw [sizeLine_eq]; omega) ?_
  case kF => exact FF
  case kN => exact NN
  case kR => assumption
  case k4 => decide
  case k5 => decide
  intro g9
  refine' comp_ind 8 (fun i ys nw => nw = ?NW ∧ StrsAre ys (List.map (fun j : Nat => mk (msgI x y (j : Int))) (List.range i))) ?st ?fin _ 0 [] _ (by omega) ⟨rfl, .nil⟩
  case st =>
    rintro i ys nw hi ⟨rfl, hys⟩ v I oI C oC D m₂ h tk E' ⟨t, rfl⟩ hC hx9 F9 N9 off ne
    rw [Int.zero_add] at hx9
    have hq : ∀ i : Nat, i < 8 → (0 ≤ (i : Int).fdiv 4 ∧ (i : Int).fdiv 4 ≤ 1 ∧ 0 ≤ ((i : Int).fdiv 2).fmod 2 ∧ ((i : Int).fdiv 2).fmod 2 ≤ 1 ∧ 0 ≤ (i : Int).fmod 2 ∧ (i : Int).fmod 2 ≤ 1) := by decide
    obtain ⟨q1, q2, q3, q4, q5, q6⟩ := hq i hi
    have z1 : (mk (pickI x y ((i : Int).fdiv 4))).length ≤ 4 := by rw [mk_len]; exact pick_len (by omega) hyl
    have z2 : (mk (pickI x y (((i : Int).fdiv 2).fmod 2))).length ≤ 4 := by rw [mk_len]; exact pick_len (by omega) hyl
    have z3 : (mk (pickI x y ((i : Int).fmod 2))).length ≤ 4 := by rw [mk_len]; exact pick_len (by omega) hyl
    have z4 : (mk x).length ≤ 3 := by rw [mk_len]; exact hxl
    have z5 : (mk y).length ≤ 4 := by rw [mk_len]; exact hyl
    k_steps
    refine Hold.out ?_
    refine ⟨_, _, _, rfl, F9, N9, off, trivial, rfl, ?_⟩
    rw [List.range_succ, List.map_append]
    simp only [mk_app]
    exact hys.append' (.cons _ _ .nil)
  case fin =>
    rintro ys nw ⟨rfl, hys⟩
    intro DM h9 tk9 F9 N9 off9
    clear FF NN
    rename Dst _ => SP
    replace SP := SP.off (off1_mem off9) rfl
    clear off9
    (try dsimp only)
    k_steps
    rename Fr _ _ _ _ => FF
    rename News _ _ _ _ => NN
    revert FF NN
    repeat (rename Fr _ _ _ _ => Fz; clear Fz)
    repeat (rename News _ _ _ _ => Fz; clear Fz)
    intro FF NN
    rename Dst _ => SP
    repeat (rename (∀ q ∈ (_ : List (Addr × Obj)), q.1 < (_ : Addr)) => lz; clear lz)
    rename_i h9z_1 tk9z_1 qkz ekz h'_5 o'_4 d'_4
    revert w s₀ s₁ mg mb fa o9 pm doc hg hT9 ns z1 z2 ls vs z5 hI h1 tk1 p1 p2 p3 p4 p5 p6 p7 p8 p9 p10 p11 p12 p13 p14 d1 d2 d3 d4 d5 d6 d7 d8 d9 d10 d11 d12 d13 d14 hlen G0 hG X' T' B' hL C1 codeHd B0 hB l0 q1 q2 q3 q4 q5 q6 q7 q8 q9 q10 q11 q12 q13 q14 h3 tk3 rn a b c ta tb tc k sa sb esg hsg xb hb1 yb hb2 x hx y hy h'z o' d' t t9z h9z tk9z h'_1 o'_1 d'_1 t_1 h'_2 o'_2 d'_2 t_2 t9_1 h9_1 tk9_1 t_3 t9 h9z_1 tk9z_1 l' h'_3 h'_4 o'_3 d'_3 qkz ekz h' tk t₁ u₁ v₁ a_1 a_4 hxl hyl g9 ys hys DM h9 tk9 SP h'_5 o'_4 d'_4 qk ek FF NN
    exact hst9.out⟩
end
end
section
open PySem PySem.W PyProof.Rows
local macro_rules | `(tactic| walk_at "mine pad") => `(tactic| fail)
theorem Mine.rst_L4 : True ∧ True := by
  w_top off
  first | (walk1; all_goals exact True.intro) | exact ⟨True.intro, True.intro⟩
end
section
open PySem PySem.W PySem.Calls PyProof.Rows
section
local macro_rules | `(tactic| ktn_lt) => `(tactic| first | exact Fnd.z | (refine' Fnd.s ?fs; (case fs => ktn_lt)))
local macro_rules | `(tactic| walk_at "call builtin:sorted") => `(tactic| refine hold ?_)
local macro_rules | `(tactic| walk_at "eval Lambda") => `(tactic| ((fail_if_success (rename Mark9 => mk9)); refine hold ?_))
set_option tactic.hygienic false in
noncomputable def law_c : { P : Prop // Hide P → law_b.1 } := ⟨_, fun hst9 => by
  intro w
  intros
  obtain ⟨tq, d'_2⟩ : ∃ tq, o'_2.data = .cell (some (.int ((a.fdiv 36).fmod 4) tq)) := ⟨_, d'_2⟩
  generalize hbare : (a.fdiv 36).fmod 4 = bare at d'_2
  have hxm := sgn_mem hx
  have hym := sgn_mem hy
  have hysl := hys.length
  rw [List.length_map, List.length_range] at hysl
  have z4 : (mk x).length ≤ 3 := by rw [mk_len]; exact hxl
  have z5 : (mk y).length ≤ 4 := by rw [mk_len]; exact hyl
  refine Hold.out ?_
  refine' LCg.CompSrc.ledger rfl ?kF ?kN ?kM ?kz ?_
  case kF => exact FF
  case kN => exact NN
  case kM => k_mem
  case kz => rw [List.size_toArray, hysl, sizeLine_eq]; omega
  intro g9
  refine' comp_ind 8 (fun i zs nw => nw = ?NW ∧ StrsAre zs (List.map (fun j : Nat => mk (encW sa sb bare (msgI x y (j : Int)))) (List.range i))) ?st ?fin _ 0 [] _ (by rw [List.size_toArray, hysl]) ⟨rfl, .nil⟩
  case st =>
    rintro i zs nw hi ⟨rfl, hzs⟩ v I oI C oC D m₂ h tk E' hv hC hx9 F9 N9 off ne
    obtain ⟨ym, t, rfl, hym2⟩ := hys.item i v (by simpa using hv)
    have e1 : ym = mk (msgI x y (i : Int)) := by
      rw [List.getElem?_map, List.getElem?_range hi] at hym2
      exact (Option.some.inj hym2).symm
    subst e1
    clear FF NN
    k_steps
    refine Hold.out ?_
    rename Fr _ _ _ _ => F5
    rename News _ _ _ _ => N5
    refine' Spec.out (written_mk w hsg (msgI x y (i : Int)) (msg_mem hxm hym) (Nat.lt_of_le_of_lt (msg_len (by omega) hyl) (by decide)) bare _ _ _) B' F5 X' N5 T' rfl rfl ?hd ?hu rfl ?_
    walk_at "mine nums"
    k_whole
    intro t9 h9 tk9 F9 N9
    clear F5 N5
    (try dsimp only)
    k_steps
    refine Hold.out ?_
    refine ⟨_, _, _, rfl, F9, N9, off, .inr ⟨_, by k_mem, rfl, _, rfl⟩, rfl, ?_⟩
    rw [List.range_succ, List.map_append]
    exact hzs.append' (.cons _ _ .nil)
  case fin =>
    rintro zs nw ⟨rfl, hzs⟩
    intro DW h9 tk9 F9 N9 off9
    clear FF NN
    rename Dst _ => SP
    replace SP := SP.off (off1_mem off9) rfl
    clear off9
    (try dsimp only)
    k_steps
    have wo1 := fun tx t2 t3 => written_mk w hsg (x ++ y) (fun c hc => (List.mem_append.mp hc).elim (hxm c) (hym c)) (by rw [List.length_append]; omega) bare tx t2 t3
    have wo2 := fun tx t2 t3 => written_mk w hsg (y ++ x) (fun c hc => (List.mem_append.mp hc).elim (hym c) (hxm c)) (by rw [List.length_append]; omega) bare tx t2 t3
    have sm1 := fun tx ty => side_mk w hsg (x ++ y) (y ++ x) tx ty (by simp only [List.length_append]; omega) (fun c hc => .inr ((List.mem_append.mp hc).elim (hxm c) (hym c))) (fun c hc => .inr ((List.mem_append.mp hc).elim (hym c) (hxm c))) (by rw [List.length_append]; omega)
    rw [← mk_app, ← mk_app] at sm1
    simp only [← mk_app] at wo1 wo2
    have sm0 := fun tx ty => side_mk w hsg (encW sa sb bare (x ++ y)) (encW sa sb bare (y ++ x)) tx ty (by simp only [encW, List.flatMap_append, List.length_append]; omega) (encW_mem fun c hc => (List.mem_append.mp hc).elim (hxm c) (hym c)) (encW_mem fun c hc => (List.mem_append.mp hc).elim (hym c) (hxm c)) (by have := encW_len sa sb bare (x ++ y); rw [List.length_append] at this; omega)
    refine Hold.out ?_
    rename Fr _ _ _ _ => F5
    rename News _ _ _ _ => N5
    refine' Spec.out (wo1 _ _ _) B' F5 X' N5 T' rfl rfl ?hd ?hu rfl ?_
    walk_at "mine nums"
    k_whole
    intro t9 h9 tk9 F9 N9
    clear F5 N5
    (try dsimp only)
    k_steps
    refine Hold.out ?_
    rename Fr _ _ _ _ => F5
    rename News _ _ _ _ => N5
    refine' Spec.out (wo2 _ _ _) B' F5 X' N5 T' rfl rfl ?hd ?hu rfl ?_
    walk_at "mine nums"
    k_whole
    intro t9 h9 tk9 F9 N9
    clear F5 N5
    (try dsimp only)
    k_steps
    refine Hold.out ?_
    rename Fr _ _ _ _ => F5
    rename News _ _ _ _ => N5
    refine' SpecR.out  (sm0 _ _) B' F5 X' N5 T' rfl rfl ?hd ?hu rfl (fun p h => h) (apart_nil _) trivial ?_
    walk_at "mine nums"
    k_whole
    rintro v news' h3 tk3 ⟨r1, u1, u2, rfl, rfl⟩ F3 N3 A3
    clear F5 N5
    dsimp only [List.cons_append, List.nil_append] at N3
    rename Dst _ => SP
    replace SP := SP.add A3 Dst.one rfl
    (try dsimp only [List.map_cons, List.map_nil, List.cons_append, List.nil_append] at SP)
    clear A3
    (try dsimp only)
    k_steps
    refine Hold.out ?_
    rename Fr _ _ _ _ => F5
    rename News _ _ _ _ => N5
    refine' SpecR.out  (sm1 _ _) B' F5 X' N5 T' rfl rfl ?hd ?hu rfl (fun p h => h) (apart_nil _) trivial ?_
    walk_at "mine nums"
    k_whole
    rintro v news' h3 tk3 ⟨r2, u3, u4, rfl, rfl⟩ F3 N3 A3
    clear F5 N5
    dsimp only [List.cons_append, List.nil_append] at N3
    rename Dst _ => SP
    replace SP := SP.add A3 Dst.one rfl
    (try dsimp only [List.map_cons, List.map_nil, List.cons_append, List.nil_append] at SP)
    clear A3
    (try dsimp only)
    k_steps
    refine Hold.out ?_
    have hm9 : Mark9 := trivial
    rename IsRange _ _ _ _ _ _ _ _ => hrng
    rename Fr _ _ _ _ => F5
    rename News _ _ _ _ => N5
    obtain ⟨N6, l6⟩ := range_in hrng (by assumption) (by assumption) N5
    clear N5
    k_lt l6
    k_steps
    rename Fr _ _ _ _ => FF
    rename News _ _ _ _ => NN
    revert FF NN
    repeat (rename Fr _ _ _ _ => Fz; clear Fz)
    repeat (rename News _ _ _ _ => Fz; clear Fz)
    intro FF NN
    clear wo1 wo2 sm0 sm1
    rename Dst _ => SP
    repeat (rename (∀ q ∈ (_ : List (Addr × Obj)), q.1 < (_ : Addr)) => lz; clear lz)
    rename_i z5z h3z tk3z d'_2z t9z_1 g9z h9z_2 tk9z_2 qkz ekz h9_2 tk9_2 h'_6z o'_5 d'_5 qk_1 ek_1 l'_1 h'_7 h'_8 qk_2 ek_2 t9_2 h9_3 tk9_3 h3_1 tk3_1 h'_9 o'_6 d'_6 qk_3 ek_3 h'_10 h'_11 o'_7 d'_7 h'_12 f' c' oc' vs' t'_2 ct' h'_13 tk' d1' d2' l2
    revert w s₀ s₁ mg mb fa o9 pm doc hg hT9 ns z1 z2 ls vs z5z hI h1 tk1 p1 p2 p3 p4 p5 p6 p7 p8 p9 p10 p11 p12 p13 p14 d1 d2 d3 d4 d5 d6 d7 d8 d9 d10 d11 d12 d13 d14 hlen G0 hG X' T' B' hL C1 codeHd B0 hB l0 q1 q2 q3 q4 q5 q6 q7 q8 q9 q10 q11 q12 q13 q14 h3z tk3z rn a b c ta tb tc k sa sb esg hsg xb hb1 yb hb2 x hx y hy h'z o' d' t t9z h9z tk9z h'_1 o'_1 d'_1 t_1 h'_2 o'_2 d'_2z t_2 t9_1 h9_1 tk9_1 t_3 t9z_1 h9z_1 tk9z_1 l' h'_3 h'_4 o'_3 d'_3 h' tk t₁ u₁ v₁ a_1 a_4 hxl hyl g9z ys hys DM h9z_2 tk9z_2 h'_5 o'_4 d'_4 qkz ekz tq bare hbare d'_2 hxm hym hysl z4 z5 g9 zs hzs DW h9_2 tk9_2 h'_6z o'_5 d'_5 qk_1 ek_1 t' k_1 a_2 t'_1 k_2 a_3 l'_1 h'_7 h'_8 qk_2 ek_2 t9_2 h9_3 tk9_3 t9 h9 tk9 h3_1 tk3_1 r1 u1 u2 h'_9 o'_6 d'_6 qk_3 ek_3 h3 tk3 r2 u3 u4 h'_10 h'_11 o'_7 d'_7 h'_12 qk ek h'_6 tk_1 t₁_1 u₁_1 v₁_1 hrng a_8 hm9 f' c' oc' vs' t'_2 ct' h'_13 tk' d1' d2' l2 SP FF NN
    exact hst9.out⟩
end
end
section
open PySem PySem.W PyProof.Rows
local macro_rules | `(tactic| walk_at "mine pad") => `(tactic| fail)
theorem Mine.rst_L5 : True ∧ True := by
  w_top off
  first | (walk1; all_goals exact True.intro) | exact ⟨True.intro, True.intro⟩
end
section
open PySem PySem.W PySem.Calls PyProof.Rows
section
local macro_rules | `(tactic| ktn_lt) => `(tactic| first | exact Fnd.z | (refine' Fnd.s ?fs; (case fs => ktn_lt)))
local macro_rules | `(tactic| walk_at "call builtin:sorted") => `(tactic| refine hold ?_)
local macro_rules | `(tactic| walk_at "KskEnd") => `(tactic| refine hold ?_)
local macro_rules | `(tactic| walk_at "subscriptTail Name Name ref int") => `(tactic| (k_here; (refine' itemS ?k1 ?k2 ?k3 ?k4 ?k5 ?_; (case k1 => exact News.isList (by k_asm) (by k_mem)); (case k2 => assumption); (case k3 | k4 => omega); (case k5 => assumption)); intro t9))
local macro_rules | `(tactic| walk_at "call builtin:len") => `(tactic| (k_here; (with_reducible show wpAny _ _ (call (Value.builtin "len") [Value.str (mk _) _]) _ _ _); (refine lenMk (by first | assumption | omega) ?_)))
set_option tactic.hygienic false in
noncomputable def law_d : { P : Prop // Hide P → law_c.1 } := ⟨_, fun hst9 => by
  intro w
  intros
  have hzsl := hzs.length
  rw [List.length_map, List.length_range] at hzsl
  have hsr := sideL_range (encW sa sb bare (x ++ y)) (encW sa sb bare (y ++ x)) 0
  generalize hshown : (sideL (encW sa sb bare (x ++ y)) (encW sa sb bare (y ++ x)) 0).1 = shown at *
  refine Hold.out ?_
  refine' sorted_range0 (n := 8) (kz := List.map (fun i : Nat => (fun m : Int => if shown = 0 then ((encW sa sb bare (msgI x y m)).length : Int) else -shown * m) (i : Int)) (List.range 8)) rfl FF NN ?hr (by decide) (by simp) ?turn ?fin
  case hr => exact (NN (_, rngObj 0 8 1 _ _ _) (by k_mem)).1
  case turn =>
    intro i t9 k hi hk h tk own F9 N9
    have ek : k = (if shown = 0 then ((encW sa sb bare (msgI x y (i : Int))).length : Int) else -shown * (i : Int)) := by
      rw [List.getElem?_map, List.getElem?_range hi] at hk
      exact (Option.some.inj hk).symm
    subst ek
    have hyi : (List.map (fun j : Nat => mk (encW sa sb bare (msgI x y (j : Int)))) (List.range 8))[((i : Nat) : Int).toNat]? = some (mk (encW sa sb bare (msgI x y (i : Int)))) := by
      rw [Int.toNat_natCast, List.getElem?_map, List.getElem?_range hi]; rfl
    have hml : (encW sa sb bare (msgI x y (i : Int))).length < 16000000 := by
      have := encW_len sa sb bare (msgI x y (i : Int))
      have h2 := msg_len (e := (i : Int)) (show x.length ≤ 4 by omega) hyl
      omega
    clear FF NN
    k_dflt (refine wpAny_call ?_; kla_enter)
    k_steps
    · refine Hold.out ?_
      rename Fr _ _ _ _ => F5
      rename News _ _ _ _ => N5
      rw [if_pos (by assumption)]
      exact KskEnd.intro F5 N5 fun p hp => hp
    · refine Hold.out ?_
      rename Fr _ _ _ _ => F5
      rename News _ _ _ _ => N5
      rw [if_neg (by assumption)]
      exact KskEnd.intro F5 N5 fun p hp => hp
  case fin =>
    intro D h' tk out c9 vs2 F9 N9 l9 hiv hko
    obtain ⟨ds, hds, hdp, hdk⟩ := due_of (fun m : Int => if shown = 0 then ((encW sa sb bare (msgI x y m)).length : Int) else -shown * m) hiv hko
    clear hko hiv FF NN
    replace N9 : News _ _ _ ((D, W.listOf out c9) :: _) := N9
    k_lt l9
    k_steps
    rename Fr _ _ _ _ => FF
    rename News _ _ _ _ => NN
    revert FF NN
    repeat (rename Fr _ _ _ _ => Fz; clear Fz)
    repeat (rename News _ _ _ _ => Fz; clear Fz)
    intro FF NN
    rename Dst _ => SP
    replace NN := drop_picksD (need := [(r1, _), (r2, _), (_, rngObj 0 8 1 _ _ _), (f', _), (c', _)]) (by walk_at "mine picks") NN SP rfl
    clear SP
    obtain ⟨NN, SP⟩ := NN
    (try dsimp only [List.map_cons, List.map_nil] at SP)
    rename Dst _ => SP
    repeat (rename (∀ q ∈ (_ : List (Addr × Obj)), q.1 < (_ : Addr)) => lz; clear lz)
    rename_i h'z_1 tkz qkz ekz h'_15 o'_8 d'_8 l'_2 h'_16
    revert w s₀ s₁ mg mb fa o9 pm doc hg hT9 ns z1 z2 ls vs z5z hI h1 tk1 p1 p2 p3 p4 p5 p6 p7 p8 p9 p10 p11 p12 p13 p14 d1 d2 d3 d4 d5 d6 d7 d8 d9 d10 d11 d12 d13 d14 hlen G0 hG X' T' B' hL C1 codeHd B0 hB l0 q1 q2 q3 q4 q5 q6 q7 q8 q9 q10 q11 q12 q13 q14 h3z tk3z rn a b c ta tb tc k sa sb esg hsg xb hb1 yb hb2 x hx y hy h'z o' d' t t9z h9z tk9z h'_1 o'_1 d'_1 t_1 h'_2 o'_2 d'_2z t_2 t9_1 h9_1 tk9_1 t_3 t9z_1 h9z_1 tk9z_1 l' h'_3 h'_4 o'_3 d'_3 h'z_1 tkz t₁ u₁ v₁ a_1 a_4 hxl hyl g9z ys hys DM h9z_2 tk9z_2 h'_5 o'_4 d'_4 tq bare hbare d'_2 hxm hym hysl z4 z5 g9 zs hzs DW h9_2 tk9_2 h'_6z o'_5 d'_5 t' k_1 a_2 t'_1 k_2 a_3 l'_1 h'_7 h'_8 t9_2 h9_3 tk9_3 t9 h9 tk9 h3_1 tk3_1 r1 u1 u2 h'_9 o'_6 h3 tk3 r2 u3 u4 h'_10 h'_11 o'_7 d'_7 h'_12 qkz ekz h'_6 tk_1 t₁_1 u₁_1 v₁_1 hrng a_8 hm9 f' c' oc' vs' t'_2 ct' h'_13 tk' d1' d2' l2 hzsl shown hshown d'_6 hsr D h' tk out c9 vs2 ds hds hdp hdk h'_15 o'_8 d'_8 qk ek l'_2 h'_16 FF NN SP
    exact hst9.out⟩
end
end
section
open PySem PySem.W PyProof.Rows
local macro_rules | `(tactic| walk_at "mine pad") => `(tactic| fail)
theorem Mine.rst_L6 : True ∧ True := by
  w_top off
  first | (walk1; all_goals exact True.intro) | exact ⟨True.intro, True.intro⟩
end
section
open PySem PySem.W PySem.Calls PyProof.Rows
section
local macro_rules | `(tactic| ktn_lt) => `(tactic| first | exact Fnd.z | (refine' Fnd.s ?fs; (case fs => ktn_lt)))
local macro_rules | `(tactic| walk_at "subscriptTail Name BinOp ref int") => `(tactic| (k_here; (refine' itemS ?k1 ?k2 ?k3 ?k4 ?k5 ?_; (case k1 => exact News.isList (by k_asm) (by k_mem)); (case k2 | k3 => assumption); (case k4 => omega); (case k5 => assumption)); intro t9))
set_option tactic.hygienic false in
noncomputable def law_e : { P : Prop // Hide P → law_d.1 } := ⟨_, fun hst9 => by
  intro w
  intros
  refine Hold.out ?_
  rename IntsAre _ _ => hds
  have la := fun t1 t2 => lex_a w [46] l'_2 t1 (W.listOf #[.int 0 t2] 0) (by decide) (Dst.two (by k_ne))
  rw [show mk [46] = Str.ofString "." from by decide +kernel] at la
  rename Dst _ => SP
  refine' SpecR.outD (la _ _) B' FF X' NN T' rfl rfl ?hd ?hu rfl ?kp SP ?ke ?ko ?_
  walk_at "mine nums"
  case ke => exact rfl
  case kp => walk_at "mine picks"
  case ko => exact fun _ _ => CodeHd.keeps C1 (base_hid FF NN (List.forall_mem_cons.mpr ⟨by k_mem, List.forall_mem_cons.mpr ⟨by k_mem, fun _ h => nomatch h⟩⟩))
  k_whole
  rintro v news' h3 tk3 ⟨lx, c1x, ccx, ocx, Ox, vsx, tx, rfl, rfl, hOx, hvx, hvx2, hlc⟩ F3 N3 A3
  clear FF NN la
  have hOx2 := hOx
  obtain ⟨Dx, Px, Sx, DSx, fx, cAx, cTx, oAx, oTx, fdfx, fdSx, hsx, trx, k1x, k2x, k3x, k4x, t1x, t3x, kPx, rfl, hgx, odx⟩ := hOx
  clear hgx
  dsimp only [List.cons_append, List.nil_append] at N3
  clear SP
  have SP := A3 hlc
  (try dsimp only [List.map_cons, List.map_nil, List.cons_append, List.nil_append] at SP)
  clear A3 odx hlc
  (try dsimp only)
  k_steps
  refine Hold.out ?_
  rename Fr _ _ _ _ => FF
  rename News _ _ _ _ => NN
  refine' LCg.CompSrc.range (n := 8) rfl ?kF ?kN ?kR ?k4 ?k5 (by rw [sizeLine_eq]; omega) ?_
  case kF => exact FF
  case kN => exact NN
  case kR => assumption
  case k4 => decide
  case k5 => decide
  intro g9
  refine' comp_ind 8 (fun i us nw => nw = ?NW ∧ StrsAre us (List.map (fun j : Nat => mk (encW sa sb bare (msgI x y ((3 * (j : Int) + 2).fmod 8)))) (List.range i))) ?st ?fin _ 0 [] _ (by omega) ⟨rfl, .nil⟩
  case st =>
    rintro i us nw hi ⟨rfl, hus⟩ v I oI C oC D9 m₂ h tk E' ⟨t, rfl⟩ hC hx9 F9 N9 off ne
    rw [Int.zero_add] at hx9
    obtain ⟨g1, g2, g3, g4⟩ := turn_at hi
    have hyi := msg_at (fun m : Int => mk (encW sa sb bare (msgI x y m))) g1
    rw [g3] at hyi
    clear FF NN
    k_steps
    refine Hold.out ?_
    refine ⟨_, _, _, rfl, F9, N9, off, trivial, rfl, ?_⟩
    rw [List.range_succ, List.map_append]
    exact hus.append' (.cons _ _ .nil)
  case fin =>
    rintro us nw ⟨rfl, hus⟩
    intro DV h9 tk9 F9 N9 off9
    clear FF NN
    rename Dst _ => SP
    replace SP := SP.off (off1_mem off9) rfl
    clear off9
    (try dsimp only)
    k_steps
    rename Fr _ _ _ _ => FF
    rename News _ _ _ _ => NN
    revert FF NN
    repeat (rename Fr _ _ _ _ => Fz; clear Fz)
    repeat (rename News _ _ _ _ => Fz; clear Fz)
    intro FF NN
    rename Dst _ => SP
    repeat (rename (∀ q ∈ (_ : List (Addr × Obj)), q.1 < (_ : Addr)) => lz; clear lz)
    rename_i g9z_1 h9z_3 tk9z_3 h3z_1 tk3z_1 qkz ekz h'_14z
    revert w s₀ s₁ mg mb fa o9 pm doc hg hT9 ns z1 z2 ls vs z5z hI h1 tk1 p1 p2 p3 p4 p5 p6 p7 p8 p9 p10 p11 p12 p13 p14 d1 d2 d3 d4 d5 d6 d7 d8 d9 d10 d11 d12 d13 d14 hlen G0 hG X' T' B' hL C1 codeHd B0 hB l0 q1 q2 q3 q4 q5 q6 q7 q8 q9 q10 q11 q12 h3z tk3z rn a b c ta tb tc k sa sb esg hsg xb hb1 yb hb2 x hx y hy h'z o' d' t t9z h9z tk9z h'_1 o'_1 d'_1 t_1 h'_2 o'_2 d'_2z t_2 t9_1 h9_1 tk9_1 t_3 t9z_1 h9z_1 tk9z_1 l' h'_3 h'_4 o'_3 d'_3 h'z_1 tkz t₁ u₁ v₁ a_1 a_4 hxl hyl g9z ys hys DM h9z_2 tk9z_2 h'_5 o'_4 d'_4 tq bare hbare d'_2 hxm hym hysl z4 z5 g9z_1 zs hzs DW h9_2 tk9_2 h'_6z o'_5 d'_5 t' k_1 a_2 t'_1 k_2 a_3 l'_1 h'_7 h'_8 t9_2 h9_3 tk9_3 t9 h9z_3 tk9z_3 h3_1 tk3_1 r1 u1 u2 h'_9 o'_6 h3z_1 tk3z_1 r2 u3 u4 h'_10 h'_11 o'_7 d'_7 h'_12 h'_6 tk_1 t₁_1 u₁_1 v₁_1 hrng a_8 hm9 f' c' oc' vs' t'_2 ct' h'_13 tk' d1' d2' l2 hzsl shown hshown d'_6 hsr D h' tk out c9 vs2 ds hds hdp hdk h'_15 o'_8 d'_8 qkz ekz l'_2 h'_16 h3 tk3 lx c1x ccx ocx vsx tx hvx hvx2 Dx Px Sx DSx fx cAx cTx oAx oTx fdfx fdSx hsx trx k1x k2x k3x k4x t1x t3x kPx hOx2 h'_14z qk ek h'_14 tk_2 t₁_2 u₁_2 v₁_2 a_5 a_9 g9 us hus DV h9 tk9 SP FF NN
    exact hst9.out⟩
end
end
section
open PySem PySem.W PyProof.Rows
local macro_rules | `(tactic| walk_at "mine pad") => `(tactic| fail)
theorem Mine.rst_L7 : True ∧ True := by
  w_top off
  first | (walk1; all_goals exact True.intro) | exact ⟨True.intro, True.intro⟩
end
section
open PySem PySem.W PySem.Calls PyProof.Rows
section
local macro_rules | `(tactic| ktn_lt) => `(tactic| first | exact Fnd.z | (refine' Fnd.s ?fs; (case fs => ktn_lt)))
theorem ints_at : ∀ {vs : List Value} {ns : List Int} {i : Nat} {v : Value}, IntsAre vs ns → vs[i]? = some v → ∃ n t, v = .int n t ∧ ns[i]? = some n
  | _, _, i, v, .nil, h => by simp at h
  | _, _, 0, v, .cons n t _, h => by simp at h; exact ⟨n, t, h.symm, rfl⟩
  | _, _, i + 1, v, .cons n t r, h => by
    obtain ⟨n', t', e, e2⟩ := ints_at r (i := i) (v := v) (by simpa using h)
    exact ⟨n', t', e, by simpa using e2⟩
local macro_rules | `(tactic| walk_at "compareOp NotEq ref ref") => `(tactic| refine hold ?_)
local macro_rules | `(tactic| walk_at "subscriptTail Name Name ref int") => `(tactic| (k_here; (refine' itemS ?k1 ?k2 ?k3 ?k4 ?k5 ?_; (case k1 => exact News.isList (by k_asm) (by k_mem)); (case k2 | k3 => assumption); (case k4 => omega); (case k5 => assumption)); intro t9))
set_option tactic.hygienic false in
noncomputable def law_f : { P : Prop // Hide P → law_e.1 } := ⟨_, fun hst9 => by
  intro w
  intros
  refine Hold.out ?_
  rename Dst _ => SP
  refine' SpecR.outD (rising_spec w [46] l'_2 lx DV 1 us _ hus (by rw [List.length_map, List.length_range]) ccx ocx _ hOx2) B' FF X' NN T' rfl rfl ?hd ?hu rfl ?kp SP ?ke ?ko ?_
  walk_at "mine nums"
  case ke => exact rfl
  case kp => walk_at "mine picks"
  case ko => exact fun N A => ⟨_, rest_hid N A (by k_mem), rfl, _, rfl⟩
  k_whole
  rintro v news' h3 tk3 ⟨R, rs, kR, Oy, rfl, rfl, hOy, hrs, A4⟩ F3 N3 A3
  clear FF NN hOx2
  have hOy2 := hOy
  obtain ⟨Dx, Px, Sx, DSx, fx, cAx, cTx, oAx, oTx, fdfx, fdSx, hsx, trx, k1x, k2x, k3x, k4x, t1x, t3x, kPx, rfl, hgx, odx⟩ := hOy
  clear hgx
  dsimp only [List.cons_append, List.nil_append] at N3
  clear SP
  have SP := A3 (dst_front odx.tail A4)
  (try dsimp only [List.map_cons, List.map_nil, List.cons_append, List.nil_append] at SP)
  clear A3 A4 odx
  (try dsimp only)
  k_steps
  have hdl : ds.length = 8 := by rw [hdp.length_eq, List.length_map, List.length_range]
  have hol := hds.length
  have hdm : ∀ n ∈ ds, 0 ≤ n ∧ n < 8 := fun n hn => by
    have := hdp.mem_iff.mp hn
    obtain ⟨i, hi, rfl⟩ := List.mem_map.mp this
    have := List.mem_range.mp hi
    omega
  refine Hold.out ?_
  rename Fr _ _ _ _ => FF
  rename News _ _ _ _ => NN
  refine' LCg.CompSrc.ledger rfl ?kF ?kN ?kM ?kz ?_
  case kF => exact FF
  case kN => exact NN
  case kM => k_mem
  case kz => rw [← Array.length_toList, hol, sizeLine_eq]; omega
  intro g9
  refine' comp_ind 8 (fun i zs nw => nw = ?NW ∧ StrsAre zs (List.map (fun d : Int => mk (encW sa sb bare (msgI x y d))) (ds.take i))) ?st ?fin _ 0 [] _ (by rw [← Array.length_toList, hol]; omega) ⟨rfl, .nil⟩
  case st =>
    rintro i ws9 nw hi ⟨rfl, hws⟩ v I oI C oC D9 m₂ h tk E' hv hC hx9 F9 N9 off ne
    obtain ⟨n9, t, rfl, hn9⟩ : ∃ n t, v = .int n t ∧ ds[i]? = some n := ints_at hds (by rw [Array.getElem?_toList]; exact hv)
    have hn0 := hdm n9 (List.mem_of_getElem? hn9)
    have hn1 := hn0.1
    have hyi := msg_at (fun m : Int => mk (encW sa sb bare (msgI x y m))) (i := n9.toNat) (by omega)
    rw [Int.toNat_of_nonneg hn1] at hyi
    clear FF NN
    k_steps
    refine Hold.out ?_
    refine ⟨_, _, _, rfl, F9, N9, off, .inr ⟨_, by k_mem, rfl, _, rfl⟩, rfl, ?_⟩
    rw [List.take_add_one, hn9, List.map_append]
    exact hws.append' (.cons _ _ .nil)
  case fin =>
    rintro ws9 nw ⟨rfl, hws⟩
    rw [show ds.take 8 = ds from List.take_of_length_le (by omega)] at hws
    intro DE h9 tk9 F9 N9 off9
    clear FF NN
    rename Dst _ => SP
    replace SP := SP.off (off1_mem off9) rfl
    clear off9
    (try dsimp only)
    k_steps
    rename Fr _ _ _ _ => FF
    rename News _ _ _ _ => NN
    revert FF NN
    repeat (rename Fr _ _ _ _ => Fz; clear Fz)
    repeat (rename News _ _ _ _ => Fz; clear Fz)
    intro FF NN
    rename Dst _ => SP
    repeat (rename (∀ q ∈ (_ : List (Addr × Obj)), q.1 < (_ : Addr)) => lz; clear lz)
    rename_i h3z_2 tk3z_2 Dxz Pxz Sxz DSxz fxz cAxz cTxz oAxz oTxz fdfxz fdSxz hsxz trxz k1xz k2xz k3xz k4xz t1xz t3xz kPxz qkz ekz g9z_2 h9z_4 tk9z_4 h'_17 o'_9 d'_9
    revert w s₀ s₁ mg mb fa o9 pm doc hg hT9 ns z1 z2 ls vs z5z hI h1 tk1 p1 p2 p3 p4 p5 p6 p7 p8 p9 p10 p11 p12 p13 p14 d1 d2 d3 d4 d5 d6 d7 d8 d9 d10 d11 d12 d13 d14 hlen G0 hG X' T' B' hL C1 codeHd B0 hB l0 q1 q2 q3 q4 q5 q6 q7 q8 q9 q10 q11 q12 h3z tk3z rn a b c ta tb tc k sa sb esg hsg xb hb1 yb hb2 x hx y hy h'z o' d' t t9z h9z tk9z h'_1 o'_1 d'_1 t_1 h'_2 o'_2 d'_2z t_2 t9_1 h9_1 tk9_1 t_3 t9z_1 h9z_1 tk9z_1 l' h'_3 h'_4 o'_3 d'_3 h'z_1 tkz t₁ u₁ v₁ a_1 a_4 hxl hyl g9z ys hys DM h9z_2 tk9z_2 h'_5 o'_4 d'_4 tq bare hbare d'_2 hxm hym hysl z4 z5 g9z_1 zs hzs DW h9_2 tk9_2 h'_6z o'_5 d'_5 t' k_1 a_2 t'_1 k_2 a_3 l'_1 h'_7 h'_8 t9_2 h9_3 tk9_3 t9 h9z_3 tk9z_3 h3_1 tk3_1 r1 u1 u2 h'_9 o'_6 h3z_1 tk3z_1 r2 u3 u4 h'_10 h'_11 o'_7 d'_7 h'_12 h'_6 tk_1 t₁_1 u₁_1 v₁_1 hrng a_8 hm9 f' c' oc' vs' t'_2 ct' h'_13 tk' d1' d2' l2 hzsl shown hshown d'_6 hsr D h' tk out c9 vs2 ds hds hdp hdk h'_15 o'_8 d'_8 l'_2 h'_16 h3z_2 tk3z_2 lx c1x ccx ocx vsx tx hvx hvx2 Dxz Pxz Sxz DSxz fxz cAxz cTxz oAxz oTxz fdfxz fdSxz hsxz trxz k1xz k2xz k3xz k4xz t1xz t3xz kPxz h'_14z qkz ekz h'_14 tk_2 t₁_2 u₁_2 v₁_2 a_5 a_9 g9z_2 us hus DV h9z_4 tk9z_4 h3 tk3 R rs kR hrs Dx Px Sx DSx fx cAx cTx oAx oTx fdfx fdSx hsx trx k1x k2x k3x k4x t1x t3x kPx hOy2 h'_17 o'_9 d'_9 qk ek hdl hol hdm g9 ws9 hws DE h9 tk9 SP FF NN
    exact hst9.out⟩
end
end
section
open PySem PySem.W PyProof.Rows
local macro_rules | `(tactic| walk_at "mine pad") => `(tactic| fail)
theorem Mine.rst_L8 : True ∧ True := by
  w_top off
  first | (walk1; all_goals exact True.intro) | exact ⟨True.intro, True.intro⟩
end
section
open PySem PySem.W PySem.Calls PyProof.Rows
section
local macro_rules | `(tactic| ktn_lt) => `(tactic| first | exact Fnd.z | (refine' Fnd.s ?fs; (case fs => ktn_lt)))
local macro_rules | `(tactic| walk_at "subscriptTail Name Name ref int") => `(tactic| (k_here; (refine' itemS ?k1 ?k2 ?k3 ?k4 ?k5 ?_; (case k1 => exact News.isList (by k_asm) (by k_mem)); (case k2 => assumption); (case k3 | k4 => omega); (case k5 => assumption)); intro t9))
set_option tactic.hygienic false in
noncomputable def law_g : { P : Prop // Hide P → law_f.1 } := ⟨_, fun hst9 => by
  intro w
  intros
  have WW : Words sa sb bare xb yb x y shown ds := ⟨hsg, hb1, hb2, hx, hy, hshown, hdp, hdk⟩
  rw [rise_law WW] at hrs
  refine Hold.out ?_
  have hok : ∀ n ∈ List.map (fun d : Int => mk (encW sa sb bare (msgI x y d))) ds, PyData.strOk n = true := fun n hn => by
    obtain ⟨d, _, rfl⟩ := List.mem_map.mp hn
    exact encW_ok hsg (msg_mem hxm hym)
  refine ne_strs (News.isList NN (by k_mem)) (News.isList NN (by k_mem)) hrs hws hok hok (Nat.le_of_ble_eq_true rfl) ?_
  rw [decide_eq_true rfl]
  simp only [Bool.not_true]
  k_steps
  refine Hold.out ?_
  rename Fr _ _ _ _ => FF
  rename News _ _ _ _ => NN
  rename Dst _ => SP
  refine' SpecR.outD (tok_rd w [46] l'_2 lx 1 0 _ _ ccx ocx _ hOy2 (by decide) (by decide) dot_st [46] 1 1 run_dot).toR B' FF X' NN T' rfl rfl ?hd ?hu rfl ?kp SP ?ke (fun _ _ => trivial) ?_
  walk_at "mine nums"
  case ke => exact rfl
  case kp => walk_at "mine picks"
  k_whole
  rintro v news' h3 tk3 ⟨t7, ta7, kA7, Oz, rfl, rfl, hOz⟩ F3 N3 A3
  clear FF NN hOy2
  obtain ⟨Dx, Px, Sx, DSx, fx, cAx, cTx, oAx, oTx, fdfx, fdSx, hsx, trx, k1x, k2x, k3x, k4x, t1x, t3x, kPx, rfl, hgx, odx⟩ := hOz
  clear hgx
  dsimp only [List.cons_append, List.nil_append] at N3
  clear SP
  have SP := A3 odx
  (try dsimp only [List.map_cons, List.map_nil, List.cons_append, List.nil_append] at SP)
  clear A3 odx
  replace N3 := drop_picksD (need := [(l'_2, _), (lx, _), (Dx, _), (Px, _), (DSx, _), (Sx, _), (fx, _), (cAx, _), (cTx, _), (DE, _), (DV, _)]) (by walk_at "mine picks") N3 SP rfl
  clear SP
  obtain ⟨N3, SP⟩ := N3
  (try dsimp only [List.map_cons, List.map_nil] at SP)
  rw [dot_mk]
  (try dsimp only)
  k_steps
  rename Fr _ _ _ _ => FF
  rename News _ _ _ _ => NN
  have hdl : ds.length = 8 := by rw [hdp.length_eq, List.length_map, List.length_range]
  rename Dst _ => SP
  repeat (rename (∀ q ∈ (_ : List (Addr × Obj)), q.1 < (_ : Addr)) => lz; clear lz)
  rename_i tkz_1 h3z_3 tk3z_3 Dxz_1 Pxz_1 Sxz_1 DSxz_1 fxz_1 cAxz_1 cTxz_1 oAxz_1 oTxz_1 fdfxz_1 fdSxz_1 hsxz_1 trxz_1 k1xz_1 k2xz_1 k3xz_1 k4xz_1 t1xz_1 t3xz_1 kPxz_1 qkz ekz hdlz F' N'
  revert w s₀ s₁ mg mb fa o9 pm doc hg hT9 ns z1 z2 ls vs z5z hI h1 tk1 p1 p2 p3 p4 p5 p6 p7 p8 p9 p10 p11 p12 p13 p14 d1 d2 d3 d4 d5 d6 d7 d8 d9 d10 d11 d12 d13 d14 hlen G0 hG X' T' B' hL C1 codeHd B0 hB l0 q1 q2 q3 q4 q5 q6 q7 q8 q9 q10 q11 q12 h3z tk3z rn a b c ta tb tc k sa sb esg hsg xb hb1 yb hb2 x hx y hy h'z o' d' t t9z h9z tk9z h'_1 o'_1 d'_1 t_1 h'_2 o'_2 d'_2z t_2 t9_1 h9_1 tk9_1 t_3 t9z_1 h9z_1 tk9z_1 l' h'_3 h'_4 o'_3 d'_3 h'z_1 tkz t₁ u₁ v₁ a_1 a_4 hxl hyl g9z ys hys DM h9z_2 tk9z_2 h'_5 o'_4 d'_4 tq bare hbare d'_2 hxm hym hysl z4 z5 g9z_1 zs hzs DW h9_2 tk9_2 h'_6z o'_5 d'_5 t' k_1 a_2 t'_1 k_2 a_3 l'_1 h'_7 h'_8 t9_2 h9_3 tk9_3 t9 h9z_3 tk9z_3 h3_1 tk3_1 r1 u1 u2 h'_9 o'_6 h3z_1 tk3z_1 r2 u3 u4 h'_10 h'_11 o'_7 d'_7 h'_12 h'_6 tk_1 t₁_1 u₁_1 v₁_1 hrng a_8 hm9 f' c' oc' vs' t'_2 ct' h'_13 tk' d1' d2' l2 hzsl shown hshown d'_6 hsr D h' tkz_1 out c9 vs2 ds hds hdp hdk h'_15 o'_8 d'_8 l'_2 h'_16 h3z_2 tk3z_2 lx c1x ccx ocx vsx tx hvx hvx2 Dxz Pxz Sxz DSxz fxz cAxz cTxz oAxz oTxz fdfxz fdSxz hsxz trxz k1xz k2xz k3xz k4xz t1xz t3xz kPxz h'_14z h'_14 tk_2 t₁_2 u₁_2 v₁_2 a_5 a_9 g9z_2 us hus DV h9z_4 tk9z_4 h3z_3 tk3z_3 R rs kR hrs Dxz_1 Pxz_1 Sxz_1 DSxz_1 fxz_1 cAxz_1 cTxz_1 oAxz_1 oTxz_1 fdfxz_1 fdSxz_1 hsxz_1 trxz_1 k1xz_1 k2xz_1 k3xz_1 k4xz_1 t1xz_1 t3xz_1 kPxz_1 h'_17 o'_9 d'_9 qkz ekz hdlz hol hdm g9 ws9 hws DE h9 tk9 WW hok h3 tk3 t7 ta7 kA7 F' Dx Px Sx DSx fx cAx cTx oAx oTx fdfx fdSx hsx trx k1x k2x k3x k4x t1x t3x kPx N' SP tk qk ek h'_18 tk_3 t₁_3 u₁_3 v₁_3 a_6 FF NN a_11 hdl
  exact hst9.out⟩
end
end
section
open PySem PySem.W PyProof.Rows
local macro_rules | `(tactic| walk_at "mine pad") => `(tactic| fail)
theorem Mine.rst_L9 : True ∧ True := by
  w_top off
  first | (walk1; all_goals exact True.intro) | exact ⟨True.intro, True.intro⟩
end
section
open PySem PySem.W PySem.Calls PyProof.Rows
section
local macro_rules | `(tactic| ktn_lt) => `(tactic| first | exact Fnd.z | (refine' Fnd.s ?fs; (case fs => ktn_lt)))
theorem fd4 {prog : Program} {w : World} {A : Around} {E : Value → Shared → Prop} {s : Shared} {a : Int} {t u : Tok} {Q : Value → Shared → Prop} {i : Nat} (hi : i < 8)
    (h : Q (.int (a.fdiv (4 ^ ((i : Nat) : Int).toNat)) s.toks) { s with toks := s.toks + 1 }) : wpAny (model prog w) A (binaryOp .FloorDiv (.int a t) (.int (4 ^ ((i : Nat) : Int).toNat) u)) Q E s := by
  have key : ∀ i : Nat, i < 8 → ((4 : Int) ^ i).natAbs.log2 < 9000 := by decide +kernel
  refine floordiv_int ?_ h (Or.inl (PyProof.noPylong_of_log2 ?_))
  · rw [Int.toNat_natCast]; exact Int.pow_ne_zero (by decide)
  · rw [Int.toNat_natCast]; exact key i hi
theorem wsc_at (a : Int) (i : Nat) : Txt.item (Str.ofString "\n\t\r ") (((a.fdiv 144).fdiv (4 ^ ((i : Nat) : Int).toNat)).fmod 4) = mk [wsc a i] := by
  rw [Int.toNat_natCast]
  have h1 : 0 ≤ ((a.fdiv 144).fdiv (4 ^ i)).fmod 4 := Int.fmod_nonneg_of_pos _ (by decide)
  have h2 : ((a.fdiv 144).fdiv (4 ^ i)).fmod 4 < 4 := Int.fmod_lt_of_pos _ (by decide)
  have key : ∀ k ∈ List.range 4, Txt.item (Str.ofString "\n\t\r ") (k : Int) = mk [([10, 9, 13, 32] : List Nat).getD k 0] := by decide +kernel
  have := key (((a.fdiv 144).fdiv (4 ^ i)).fmod 4).toNat (List.mem_range.mpr (by omega))
  rw [Int.toNat_of_nonneg h1] at this
  exact this
theorem addW {prog : Program} {w : World} {A : Around} {E : Value → Shared → Prop} {s : Shared} {p : List Nat} {y : Str} {c : Nat} {t u : Tok} {Q : Value → Shared → Prop} (hp : p.length ≤ 40) (hy : y = mk [c])
    (h : ∀ t' tk, Q (.str (mk (p ++ [c])) t') { s with toks := tk }) : wpAny (model prog w) A (binaryOp .Add (.str (mk p) t) (.str y u)) Q E s := by
  subst hy
  refine add_str (fun t' tk => ?_) (by rw [mk_len, mk_len, sizeLine_eq]; simp only [List.length_cons, List.length_nil]; omega)
  rw [mk_app]; exact h t' tk
theorem txt_join (W : Int → List Nat) (ds : List Int) (a : Int) : ∀ n, (List.map (fun j : Nat => mk (W (ds.getD j 0) ++ [wsc a j])) (List.range n)).flatMap (fun y => y.cps.toList) = textL W ds a n := by
  intro n
  unfold textL
  rw [List.flatMap_map]
theorem txt_sum (W : Int → List Nat) (ds : List Int) (a : Int) : ∀ n, ((List.map (fun j : Nat => mk (W (ds.getD j 0) ++ [wsc a j])) (List.range n)).map (·.length)).sum = (textL W ds a n).length := by
  intro n
  induction n with
  | zero => rfl
  | succ n ih =>
    rw [List.range_succ, List.map_append, List.map_append, List.sum_append, ih, textL_succ, List.length_append]
    simp [mk_len]
theorem joinT {prog : Program} {w : World} {A : Around} {E : Value → Shared → Prop} {s : Shared} {t : Tok} {Q : Value → Shared → Prop} {D : Addr} {items : Array Value} {ys : List Str} {z : List Nat} (hl : s.heap.IsList D items) (hi : StrsAre items.toList ys) (hok : (ys.map (·.length)).sum ≤ 16000000) (hz : ys.flatMap (fun y => y.cps.toList) = z)
    (h : ∀ t' k, Q (.str (mk z) t') { s with toks := k }) : wpAny (model prog w) A (call (.builtin "str.join") [.str (Str.ofString "") t, .ref D]) Q E s :=
  joinL hl hi hok (by rw [hz]; exact h)
local macro_rules | `(tactic| walk_at "call builtin:str.join") => `(tactic| (k_here; (refine joinT (News.isList (by k_asm) (by k_mem)) (by assumption) (by assumption) (by assumption) ?_); intro t9 k9))
local macro_rules | `(tactic| walk_at "binaryOp FloorDiv int int") => `(tactic| (k_here; (with_reducible refine fd4 ?k1 ?_); (case k1 => omega)))
local macro_rules | `(tactic| walk_at "binaryOp Add str str") => `(tactic| (k_here; (refine addW (by assumption) (by assumption) ?_); intro _ _))
local macro_rules | `(tactic| walk_at "subscriptTail Name Name ref int") => `(tactic| (k_here; (refine' itemS ?k1 ?k2 ?k3 ?k4 ?k5 ?_; (case k1 => exact News.isList (by k_asm) (by k_mem)); (case k2 => assumption); (case k3 | k4 => omega); (case k5 => assumption)); intro t9))
set_option tactic.hygienic false in
noncomputable def law_h : { P : Prop // Hide P → law_g.1 } := ⟨_, fun hst9 => by
  intro w
  intros
  refine Hold.out ?_
  refine' LCg.CompSrc.range (n := 8) rfl ?kF ?kN ?kR ?k4 ?k5 (by rw [sizeLine_eq]; omega) ?_
  case kF => exact FF
  case kN => exact NN
  case kR => assumption
  case k4 => decide
  case k5 => decide
  intro g9
  refine' comp_ind 8 (fun i us nw => nw = ?NW ∧ StrsAre us (List.map (fun j : Nat => mk (encW sa sb bare (msgI x y (ds.getD j 0)) ++ [wsc a j])) (List.range i))) ?st ?fin _ 0 [] _ (by omega) ⟨rfl, .nil⟩
  case st =>
    rintro i us2 nw hi ⟨rfl, hus2⟩ v I oI C oC D9 m₂ h tk E' ⟨t, rfl⟩ hC hx9 F9 N9 off ne
    rw [Int.zero_add] at hx9
    have hyi : (List.map (fun d : Int => mk (encW sa sb bare (msgI x y d))) ds)[((i : Nat) : Int).toNat]? = some (mk (encW sa sb bare (msgI x y (ds.getD i 0)))) := by
      rw [Int.toNat_natCast, List.getElem?_map, List.getD_eq_getElem?_getD, List.getElem?_eq_getElem (by omega)]; rfl
    have hi8 : (i : Int) < 8 := by omega
    have hb : Txt.item (Str.ofString "\n\t\r ") (((([a, b, c].getD (Int.toNat 0) 0).fdiv 144).fdiv (4 ^ ((i : Nat) : Int).toNat)).fmod 4) = mk [wsc a i] := wsc_at a i
    have hl9 := WW.enc_len (ds.getD i 0)
    clear FF NN
    k_steps
    refine Hold.out ?_
    refine ⟨_, _, _, rfl, F9, N9, off, trivial, rfl, ?_⟩
    rw [List.range_succ, List.map_append]
    exact hus2.append' (.cons _ _ .nil)
  case fin =>
    rintro us2 nw ⟨rfl, hus2⟩
    intro DT h9 tk9 F9 N9 off9
    clear FF NN
    rename Dst _ => SP
    replace SP := SP.off (off1_mem off9) rfl
    clear off9
    have htz := txt_join (fun d => encW sa sb bare (msgI x y d)) ds a 8
    have htl := WW.txt_len a 8
    have hts : ((List.map (fun j : Nat => mk (encW sa sb bare (msgI x y (ds.getD j 0)) ++ [wsc a j])) (List.range 8)).map (·.length)).sum ≤ 16000000 := by
      rw [txt_sum (fun d => encW sa sb bare (msgI x y d)) ds a 8]
      have : (textL (fun d => encW sa sb bare (msgI x y d)) ds a 8).length ≤ 41 * 8 := htl
      omega
    (try dsimp only)
    k_steps
    rename Fr _ _ _ _ => FF
    rename News _ _ _ _ => NN
    revert FF NN
    repeat (rename Fr _ _ _ _ => Fz; clear Fz)
    repeat (rename News _ _ _ _ => Fz; clear Fz)
    intro FF NN
    rename Dst _ => SP
    repeat (rename (∀ q ∈ (_ : List (Addr × Obj)), q.1 < (_ : Addr)) => lz; clear lz)
    rename_i g9z_3 h9z_5 tk9z_5 qkz ekz t9_3 k9 h'_19 qk_1 ek_1 l'_3 h'_20 h'_21
    revert w s₀ s₁ mg mb fa o9 pm doc hg hT9 ns z1 z2 ls vs z5z hI h1 tk1 p1 p2 p3 p4 p5 p6 p7 p8 p9 p10 p11 p12 p13 p14 d1 d2 d3 d4 d5 d6 d7 d8 d9 d10 d11 d12 d13 d14 hlen G0 hG X' T' B' hL C1 codeHd B0 hB l0 q1 q2 q3 q4 q5 q6 q7 q8 q9 q10 q11 q12 h3z tk3z rn a b c ta tb tc k sa sb esg hsg xb hb1 yb hb2 x hx y hy h'z o' d' t t9z h9z tk9z h'_1 o'_1 d'_1 t_1 h'_2 o'_2 d'_2z t_2 t9_1 h9_1 tk9_1 t_3 t9z_1 h9z_1 tk9z_1 l' h'_3 h'_4 o'_3 d'_3 h'z_1 tkz t₁ u₁ v₁ a_1 a_4 hxl hyl g9z ys hys DM h9z_2 tk9z_2 h'_5 o'_4 d'_4 tq bare hbare d'_2 hxm hym hysl z4 z5 g9z_1 zs hzs DW h9_2 tk9_2 h'_6z o'_5 d'_5 t' k_1 a_2 t'_1 k_2 a_3 l'_1 h'_7 h'_8 t9_2 h9_3 tk9_3 t9 h9z_3 tk9z_3 h3_1 tk3_1 r1 u1 u2 h'_9 o'_6 h3z_1 tk3z_1 r2 u3 u4 h'_10 h'_11 o'_7 d'_7 h'_12 h'_6 tk_1 t₁_1 u₁_1 v₁_1 hrng a_8 hm9 f' c' oc' vs' t'_2 ct' h'_13 tk' d1' d2' l2 hzsl shown hshown d'_6 hsr D h' tkz_1 out c9 vs2 ds hds hdp hdk h'_15 o'_8 d'_8 l'_2 h'_16 h3z_2 tk3z_2 lx c1x ccx ocx vsx tx hvx hvx2 Dxz Pxz Sxz DSxz fxz cAxz cTxz oAxz oTxz fdfxz fdSxz hsxz trxz k1xz k2xz k3xz k4xz t1xz t3xz kPxz h'_14z h'_14 tk_2 t₁_2 u₁_2 v₁_2 a_5 a_9 g9z_2 us hus DV h9z_4 tk9z_4 h3z_3 tk3z_3 R rs kR hrs Dxz_1 Pxz_1 Sxz_1 DSxz_1 fxz_1 cAxz_1 cTxz_1 oAxz_1 oTxz_1 fdfxz_1 fdSxz_1 hsxz_1 trxz_1 k1xz_1 k2xz_1 k3xz_1 k4xz_1 t1xz_1 t3xz_1 kPxz_1 h'_17 o'_9 d'_9 hdlz hol hdm g9z_3 ws9 hws DE h9z_5 tk9z_5 WW hok h3 tk3 t7 ta7 kA7 Dx Px Sx DSx fx cAx cTx oAx oTx fdfx fdSx hsx trx k1x k2x k3x k4x t1x t3x kPx tk qkz ekz h'_18 tk_3 t₁_3 u₁_3 v₁_3 a_6 a_11 hdl g9 us2 hus2 DT h9 tk9 htz htl hts t9_3 k9 h'_19 qk_1 ek_1 l'_3 h'_20 SP h'_21 qk ek FF NN
    exact hst9.out⟩
end
end
section
open PySem PySem.W PyProof.Rows
local macro_rules | `(tactic| walk_at "mine pad") => `(tactic| fail)
theorem Mine.rst_L10 : True ∧ True := by
  w_top off
  first | (walk1; all_goals exact True.intro) | exact ⟨True.intro, True.intro⟩
end
section
open PySem PySem.W PySem.Calls PyProof.Rows
section
local macro_rules | `(tactic| ktn_lt) => `(tactic| first | exact Fnd.z | (refine' Fnd.s ?fs; (case fs => ktn_lt)))
set_option tactic.hygienic false in
noncomputable def law_i : { P : Prop // Hide P → law_h.1 } := ⟨_, fun hst9 => by
  intro w
  intros
  refine Hold.out ?_
  clear a_5 a_9 a_6 a_11 hus hrs hws hus2 htz hts hol hdlz
  rename Dst _ => SP
  have hd3 : Dst [98, ccx, l'_3] := by walk_at "mine dst"
  have lb := fun t1 t2 => lex_b w (txt sa sb bare x y ds a 8) l'_3 t1 (W.listOf #[.int 0 t2] 0) ocx c1x ccx vsx tx (by omega) hd3 hvx hvx2
  clear hd3
  refine' SpecR.outD (lb _ _) B' FF X' NN T' rfl rfl ?hd ?hu rfl ?kp SP ?ke ?ko ?_
  walk_at "mine nums"
  case ke => exact rfl
  case kp => walk_at "mine picks"
  case ko => exact fun _ _ => CodeHd.keeps C1 (base_hid FF NN (List.forall_mem_cons.mpr ⟨by k_mem, List.forall_mem_cons.mpr ⟨by k_mem, List.forall_mem_cons.mpr ⟨by k_mem, fun _ h => nomatch h⟩⟩⟩))
  k_whole
  rintro v news' h3 tk3 ⟨lx2, Ox, rfl, rfl, hOx, h3x⟩ F3 N3 A3
  clear FF NN
  have hOz := hOx
  obtain ⟨Dx, Px, Sx, DSx, fx, cAx, cTx, oAx, oTx, fdfx, fdSx, hsx, trx, k1x, k2x, k3x, k4x, t1x, t3x, kPx, rfl, hgx, odx⟩ := hOx
  clear hgx
  dsimp only [List.cons_append, List.nil_append] at N3
  clear SP
  have SP := A3 h3x
  (try dsimp only [List.map_cons, List.map_nil, List.cons_append, List.nil_append] at SP)
  clear A3 odx h3x
  (try dsimp only)
  k_steps
  refine Hold.out ?_
  rename Fr _ _ _ _ => FF
  rename News _ _ _ _ => NN
  rename Dst _ => SP
  have NP := drop_picksD (need := [(DT, _), (R, _), (DW, _), (rn, _)]) (by walk_at "mine picks") NN SP rfl
  clear NN SP
  obtain ⟨NN, SP⟩ := NP
  have NP := keep_picksD (need := [(l'_3, _), (lx2, _), (Dx, _), (Px, _), (DSx, _), (Sx, _), (fx, _), (ccx, _), (cAx, _), (cTx, _)]) (by walk_at "mine picks") NN SP rfl
  clear NN SP
  obtain ⟨NN, AO, SP⟩ := NP
  (try dsimp only [List.map_cons, List.map_nil] at SP)
  clear lb
  rename Dst _ => SP
  repeat (rename (∀ q ∈ (_ : List (Addr × Obj)), q.1 < (_ : Addr)) => lz; clear lz)
  rename_i h3z_4 tk3z_4 Dxz_2 Pxz_2 Sxz_2 DSxz_2 fxz_2 cAxz_2 cTxz_2 oAxz_2 oTxz_2 fdfxz_2 fdSxz_2 hsxz_2 trxz_2 k1xz_2 k2xz_2 k3xz_2 k4xz_2 t1xz_2 t3xz_2 kPxz_2 qkz_1 ekz_1 h'_22z o'_10 F' N' d'_10
  revert w s₀ s₁ mg mb fa o9 pm doc hg hT9 ns z1 z2 ls vs z5z hI h1 tk1 p1 p2 p3 p4 p5 p6 p7 p8 p9 p10 p11 p12 p13 p14 d1 d2 d3 d4 d5 d6 d7 d8 d9 d10 d11 d12 d13 d14 hlen G0 hG X' T' B' hL C1 codeHd B0 hB l0 q1 q2 q3 q4 q5 q6 q7 q8 q9 q10 q11 q12 h3z tk3z rn a b c ta tb tc k sa sb esg hsg xb hb1 yb hb2 x hx y hy h'z o' d' t t9z h9z tk9z h'_1 o'_1 d'_1 t_1 h'_2 o'_2 d'_2z t_2 t9_1 h9_1 tk9_1 t_3 t9z_1 h9z_1 tk9z_1 l' h'_3 h'_4 o'_3 d'_3 h'z_1 tkz t₁ u₁ v₁ a_1 a_4 hxl hyl g9z ys hys DM h9z_2 tk9z_2 h'_5 o'_4 d'_4 tq bare hbare d'_2 hxm hym hysl z4 z5 g9z_1 zs hzs DW h9_2 tk9_2 h'_6z o'_5 d'_5 t' k_1 a_2 t'_1 k_2 a_3 l'_1 h'_7 h'_8 t9_2 h9_3 tk9_3 t9 h9z_3 tk9z_3 h3_1 tk3_1 r1 u1 u2 h'_9 o'_6 h3z_1 tk3z_1 r2 u3 u4 h'_10 h'_11 o'_7 d'_7 h'_12 h'_6 tk_1 t₁_1 u₁_1 v₁_1 hrng a_8 hm9 f' c' oc' vs' t'_2 ct' h'_13 tk' d1' d2' l2 hzsl shown hshown d'_6 hsr D h' tkz_1 out c9 vs2 ds hds hdp hdk h'_15 o'_8 d'_8 l'_2 h'_16 h3z_2 tk3z_2 lx c1x ccx ocx vsx tx hvx hvx2 Dxz Pxz Sxz DSxz fxz cAxz cTxz oAxz oTxz fdfxz fdSxz hsxz trxz k1xz k2xz k3xz k4xz t1xz t3xz kPxz h'_14z h'_14 tk_2 t₁_2 u₁_2 v₁_2 g9z_2 us DV h9z_4 tk9z_4 h3z_3 tk3z_3 R rs kR Dxz_1 Pxz_1 Sxz_1 DSxz_1 fxz_1 cAxz_1 cTxz_1 oAxz_1 oTxz_1 fdfxz_1 fdSxz_1 hsxz_1 trxz_1 k1xz_1 k2xz_1 k3xz_1 k4xz_1 t1xz_1 t3xz_1 kPxz_1 h'_17 o'_9 d'_9 hdm g9z_3 ws9 DE h9z_5 tk9z_5 WW hok h3z_4 tk3z_4 t7 ta7 kA7 Dxz_2 Pxz_2 Sxz_2 DSxz_2 fxz_2 cAxz_2 cTxz_2 oAxz_2 oTxz_2 fdfxz_2 fdSxz_2 hsxz_2 trxz_2 k1xz_2 k2xz_2 k3xz_2 k4xz_2 t1xz_2 t3xz_2 kPxz_2 tk qkz ekz h'_18 tk_3 t₁_3 u₁_3 v₁_3 hdl g9 us2 DT h9 tk9 htl t9_3 k9 h'_19 l'_3 h'_20 h'_21 qkz_1 ekz_1 h3 tk3 lx2 Dx Px Sx DSx fx cAx cTx oAx oTx fdfx fdSx hsx trx k1x k2x k3x k4x t1x t3x kPx hOz h'_22z o'_10 F' N' d'_10 qk ek h'_22 tk_4 t₁_4 u₁_4 v₁_4 a_5 FF a_9 NN AO SP
  exact hst9.out⟩
end
end
section
open PySem PySem.W PyProof.Rows
local macro_rules | `(tactic| walk_at "mine pad") => `(tactic| fail)
theorem Mine.rst_L11 : True ∧ True := by
  w_top off
  first | (walk1; all_goals exact True.intro) | exact ⟨True.intro, True.intro⟩
end
section
open PySem PySem.W PySem.Calls PyProof.Rows
section
local macro_rules | `(tactic| ktn_lt) => `(tactic| first | exact Fnd.z | (refine' Fnd.s ?fs; (case fs => ktn_lt)))
theorem map_getD {α : Type} (f : Int → α) {ds : List Int} (h : ds.length = 8) : List.map (fun j : Nat => f (ds.getD j 0)) (List.range 8) = List.map f ds := by
  match ds, h with
  | [_, _, _, _, _, _, _, _], _ => rfl
set_option tactic.hygienic false in
noncomputable def law_j : { P : Prop // Hide P → law_i.1 } := ⟨_, fun hst9 => by
  intro w
  intros
  clear F' N'
  refine' LCg.CompSrc.range (n := 8) rfl ?kF NN ?kR ?k4 ?k5 (by rw [sizeLine_eq]; omega) ?_
  case kF => exact FF
  case kR => assumption
  case k4 => decide
  case k5 => decide
  intro g9
  refine' comp_ind 8 (fun i us nw => LexJ w (txt sa sb bare x y ds a 8) l'_3 lx2 (txt sa sb bare x y ds a i).length (lineL a i) ccx ocx ?MORE nw ∧ StrsAre us (List.map (fun j : Nat => mk (msgI x y (ds.getD j 0))) (List.range i))) ?st ?fin _ 0 [] _ (by omega) ⟨⟨_, _, _, rfl, hOz, AO⟩, .nil⟩
  case st =>
    rintro i us2 nw hi ⟨⟨ta, kA, O9, rfl, hO9, AO9⟩, hus2⟩ v I oI C oC D9 m₂ h tk E' ⟨t, rfl⟩ hC hx9 F9 N9 off ne
    have AP := off3_apart (oI := oI) (oC := oC) (oD := LCg.lst us2) off AO9
    have hO8 := hO9
    obtain ⟨Dx, Px, Sx, DSx, fx, cAx, cTx, oAx, oTx, fdfx, fdSx, hsx, trx, k1x, k2x, k3x, k4x, t1x, t3x, kPx, rfl, hgx, odx⟩ := hO9
    clear hgx odx
    dsimp only [List.cons_append, List.nil_append] at N9
    clear NN FF
    k_steps
    refine Hold.out ?_
    rename Fr _ _ _ _ => F5
    rename News _ _ _ _ => N5
    refine' SpecR.out (tok_rd w (txt sa sb bare x y ds a 8) l'_3 lx2 (lineL a i) (txt sa sb bare x y ds a i).length _ _ ccx ocx _ hO8 (textL_le _ _ _ (by omega)) (by omega) (.inr (WW.run_st a hi)) _ _ _ (WW.run_tok a hi)).toR B' F5 X' N5 T' rfl rfl ?hd ?hu rfl sub3' AP trivial ?_
    walk_at "mine nums"
    k_whole
    rintro v news' h3 tk3 ⟨t7, ta7, kA7, Oz, rfl, rfl, hOz7⟩ F3 N3 A3
    refine ⟨_, _, _, rfl, F3, drop N3 sub3, off3_new off A3, trivial, ⟨_, _, _, rfl, hOz7, apart3 A3⟩, ?_⟩
    rw [List.range_succ, List.map_append]
    exact strs_snoc hus2
  case fin =>
    rintro us2 nw ⟨⟨ta9, kA9, O9, rfl, hO9, AO9⟩, htd⟩
    replace htd : StrsAre us2 (List.map (fun d : Int => mk (msgI x y d)) ds) := by rw [← map_getD (fun d : Int => mk (msgI x y d)) hdl]; exact htd
    intro DTo h9 tk9 F9 N9 off9
    have hOw := hO9
    obtain ⟨Dx, Px, Sx, DSx, fx, cAx, cTx, oAx, oTx, fdfx, fdSx, hsx, trx, k1x, k2x, k3x, k4x, t1x, t3x, kPx, rfl, hgx, odx⟩ := hO9
    clear hgx
    have SP2 := SP.add AO9 odx rfl
    clear SP odx
    have SP := SP2.off (off1_mem off9) rfl
    clear SP2
    dsimp only [List.map_cons, List.map_nil, List.cons_append, List.nil_append] at SP N9
    clear NN FF AO AO9 off9 hOz
    (try dsimp only)
    k_steps
    refine Hold.out ?_
    rename Fr _ _ _ _ => FF
    rename News _ _ _ _ => NN
    revert FF NN
    repeat (rename Fr _ _ _ _ => Fz; clear Fz)
    repeat (rename News _ _ _ _ => Fz; clear Fz)
    intro FF NN
    rename Dst _ => SP
    repeat (rename (∀ q ∈ (_ : List (Addr × Obj)), q.1 < (_ : Addr)) => lz; clear lz)
    rename_i g9z_4 us2z h9z_6 tk9z_6 Dxz_3 Pxz_3 Sxz_3 DSxz_3 fxz_3 cAxz_3 cTxz_3 oAxz_3 oTxz_3 fdfxz_3 fdSxz_3 hsxz_3 trxz_3 k1xz_3 k2xz_3 k3xz_3 k4xz_3 t1xz_3 t3xz_3 kPxz_3 qkz ekz h'_23 o'_11 d'_11
    revert w s₀ s₁ mg mb fa o9 pm doc hg hT9 ns z1 z2 ls vs z5z hI h1 tk1 p1 p2 p3 p4 p5 p6 p7 p8 p9 p10 p11 p12 p13 p14 d1 d2 d3 d4 d5 d6 d7 d8 d9 d10 d11 d12 d13 d14 hlen G0 hG X' T' B' hL C1 codeHd B0 hB l0 q1 q2 q3 q4 q5 q6 q7 q8 q9 q10 q11 q12 h3z tk3z rn a b c ta tb tc k sa sb esg hsg xb hb1 yb hb2 x hx y hy h'z o' d' t t9z h9z tk9z h'_1 o'_1 d'_1 t_1 h'_2 o'_2 d'_2z t_2 t9_1 h9_1 tk9_1 t_3 t9z_1 h9z_1 tk9z_1 l' h'_3 h'_4 o'_3 d'_3 h'z_1 tkz t₁ u₁ v₁ a_1 a_4 hxl hyl g9z ys hys DM h9z_2 tk9z_2 h'_5 o'_4 d'_4 tq bare hbare d'_2 hxm hym hysl z4 z5 g9z_1 zs hzs DW h9_2 tk9_2 h'_6z o'_5 d'_5 t' k_1 a_2 t'_1 k_2 a_3 l'_1 h'_7 h'_8 t9_2 h9_3 tk9_3 t9 h9z_3 tk9z_3 h3_1 tk3_1 r1 u1 u2 h'_9 o'_6 h3z_1 tk3z_1 r2 u3 u4 h'_10 h'_11 o'_7 d'_7 h'_12 h'_6 tk_1 t₁_1 u₁_1 v₁_1 hrng a_8 hm9 f' c' oc' vs' t'_2 ct' h'_13 tk' d1' d2' l2 hzsl shown hshown d'_6 hsr D h' tkz_1 out c9 vs2 ds hds hdp hdk h'_15 o'_8 d'_8 l'_2 h'_16 h3z_2 tk3z_2 lx c1x ccx ocx vsx tx hvx hvx2 Dxz Pxz Sxz DSxz fxz cAxz cTxz oAxz oTxz fdfxz fdSxz hsxz trxz k1xz k2xz k3xz k4xz t1xz t3xz kPxz h'_14z h'_14 tk_2 t₁_2 u₁_2 v₁_2 g9z_2 us DV h9z_4 tk9z_4 h3z_3 tk3z_3 R rs kR Dxz_1 Pxz_1 Sxz_1 DSxz_1 fxz_1 cAxz_1 cTxz_1 oAxz_1 oTxz_1 fdfxz_1 fdSxz_1 hsxz_1 trxz_1 k1xz_1 k2xz_1 k3xz_1 k4xz_1 t1xz_1 t3xz_1 kPxz_1 h'_17 o'_9 d'_9 hdm g9z_3 ws9 DE h9z_5 tk9z_5 WW hok h3z_4 tk3z_4 t7 ta7 kA7 Dxz_2 Pxz_2 Sxz_2 DSxz_2 fxz_2 cAxz_2 cTxz_2 oAxz_2 oTxz_2 fdfxz_2 fdSxz_2 hsxz_2 trxz_2 k1xz_2 k2xz_2 k3xz_2 k4xz_2 t1xz_2 t3xz_2 kPxz_2 tk h'_18 tk_3 t₁_3 u₁_3 v₁_3 hdl g9z_4 us2z DT h9z_6 tk9z_6 htl t9_3 k9 h'_19 l'_3 h'_20 h'_21 h3 tk3 lx2 Dxz_3 Pxz_3 Sxz_3 DSxz_3 fxz_3 cAxz_3 cTxz_3 oAxz_3 oTxz_3 fdfxz_3 fdSxz_3 hsxz_3 trxz_3 k1xz_3 k2xz_3 k3xz_3 k4xz_3 t1xz_3 t3xz_3 kPxz_3 h'_22z o'_10 d'_10 qkz ekz h'_22 tk_4 t₁_4 u₁_4 v₁_4 a_5 a_9 g9 us2 ta9 kA9 htd DTo h9 tk9 Dx Px Sx DSx fx cAx cTx oAx oTx fdfx fdSx hsx trx k1x k2x k3x k4x t1x t3x kPx hOw SP h'_23 o'_11 d'_11 qk ek FF NN
    exact hst9.out⟩
end
end
section
open PySem PySem.W PyProof.Rows
local macro_rules | `(tactic| walk_at "mine pad") => `(tactic| fail)
theorem Mine.rst_L12 : True ∧ True := by
  w_top off
  first | (walk1; all_goals exact True.intro) | exact ⟨True.intro, True.intro⟩
end
section
open PySem PySem.W PySem.Calls PyProof.Rows
section
local macro_rules | `(tactic| ktn_lt) => `(tactic| first | exact Fnd.z | (refine' Fnd.s ?fs; (case fs => ktn_lt)))
local macro_rules | `(tactic| walk_at "compareOp NotEq ref ref") => `(tactic| refine hold ?_)
local macro_rules | `(tactic| walk_at "subscriptTail Name Name ref int") => `(tactic| (k_here; (refine' itemS ?k1 ?k2 ?k3 ?k4 ?k5 ?_; (case k1 => exact News.isList (by k_asm) (by k_mem)); (case k2 | k3 => assumption); (case k4 => omega); (case k5 => assumption)); intro t9))
set_option tactic.hygienic false in
noncomputable def law_k : { P : Prop // Hide P → law_j.1 } := ⟨_, fun hst9 => by
  intro w
  intros
  rename IntsAre out.toList _ => hds
  have hol := hds.length
  refine' LCg.CompSrc.ledger rfl ?kF ?kN ?kM ?kz ?_
  case kF => exact FF
  case kN => exact NN
  case kM => k_mem
  case kz => rw [← Array.length_toList, hol, sizeLine_eq]; omega
  intro g9
  refine' comp_ind 8 (fun i zs nw => nw = ?NW ∧ StrsAre zs (List.map (fun d : Int => mk (msgI x y d)) (ds.take i))) ?st ?fin _ 0 [] _ (by rw [← Array.length_toList, hol]; omega) ⟨rfl, .nil⟩
  case st =>
    rintro i ws9 nw hi ⟨rfl, hws⟩ v I oI C oC D9 m₂ h tk E' hv hC hx9 F9 N9 off ne
    obtain ⟨n9, t, rfl, hn9⟩ : ∃ n t, v = .int n t ∧ ds[i]? = some n := ints_at hds (by rw [Array.getElem?_toList]; exact hv)
    have hn0 := hdm n9 (List.mem_of_getElem? hn9)
    have hn1 := hn0.1
    have hyi := msg_at (fun m : Int => mk (msgI x y m)) (i := n9.toNat) (by omega)
    rw [Int.toNat_of_nonneg hn1] at hyi
    clear FF NN
    k_steps
    refine Hold.out ?_
    refine ⟨_, _, _, rfl, F9, N9, off, .inr ⟨_, by k_mem, rfl, _, rfl⟩, rfl, ?_⟩
    rw [List.take_add_one, hn9, List.map_append]
    exact hws.append' (.cons _ _ .nil)
  case fin =>
    rintro ws9 nw ⟨rfl, hws⟩
    rw [show ds.take 8 = ds from List.take_of_length_le (by omega)] at hws
    intro DG h9 tk9 F9 N9 off9
    clear FF NN
    rename Dst _ => SP
    replace SP := SP.off (off1_mem off9) rfl
    clear off9
    (try dsimp only)
    k_steps
    refine Hold.out ?_
    rename Fr _ _ _ _ => FF
    rename News _ _ _ _ => NN
    have hok2 : ∀ n ∈ List.map (fun d : Int => mk (msgI x y d)) ds, PyData.strOk n = true := fun n hn => by
      obtain ⟨d, _, rfl⟩ := List.mem_map.mp hn
      have hl := sign_lt _ WW.hsg
      refine strOk_mk fun c hc => ?_
      rcases msg_mem hxm hym c hc with rfl | rfl
      · exact hl.1
      · exact hl.2
    refine ne_strs (News.isList NN (by k_mem)) (News.isList NN (by k_mem)) htd hws hok2 hok2 (Nat.le_of_ble_eq_true rfl) ?_
    rw [decide_eq_true rfl]
    simp only [Bool.not_true]
    rename Dst _ => SP
    replace NN := drop_picksD (need := [(DG, _)]) (by walk_at "mine picks") NN SP rfl
    clear SP
    obtain ⟨NN, SP⟩ := NN
    (try dsimp only [List.map_cons, List.map_nil] at SP)
    k_steps
    refine Hold.out ?_
    rename Fr _ _ _ _ => FF
    rename News _ _ _ _ => NN
    revert FF NN
    repeat (rename Fr _ _ _ _ => Fz; clear Fz)
    repeat (rename News _ _ _ _ => Fz; clear Fz)
    intro FF NN
    rename Dst _ => SP
    repeat (rename (∀ q ∈ (_ : List (Addr × Obj)), q.1 < (_ : Addr)) => lz; clear lz)
    rename_i ws9z g9z_5 h9z_7 tk9z_7 qkz ekz
    revert w s₀ s₁ mg mb fa o9 pm doc hg hT9 ns z1 z2 ls vs z5z hI h1 tk1 p1 p2 p3 p4 p5 p6 p7 p8 p9 p10 p11 p12 p13 p14 d1 d2 d3 d4 d5 d6 d7 d8 d9 d10 d11 d12 d13 d14 hlen G0 hG X' T' B' hL C1 codeHd B0 hB l0 q1 q2 q3 q4 q5 q6 q7 q8 q9 q10 q11 q12 h3z tk3z rn a b c ta tb tc k sa sb esg hsg xb hb1 yb hb2 x hx y hy h'z o' d' t t9z h9z tk9z h'_1 o'_1 d'_1 t_1 h'_2 o'_2 d'_2z t_2 t9_1 h9_1 tk9_1 t_3 t9z_1 h9z_1 tk9z_1 l' h'_3 h'_4 o'_3 d'_3 h'z_1 tkz t₁ u₁ v₁ a_1 a_4 hxl hyl g9z ys hys DM h9z_2 tk9z_2 h'_5 o'_4 d'_4 tq bare hbare d'_2 hxm hym hysl z4 z5 g9z_1 zs hzs DW h9_2 tk9_2 h'_6z o'_5 d'_5 t' k_1 a_2 t'_1 k_2 a_3 l'_1 h'_7 h'_8 t9_2 h9_3 tk9_3 t9 h9z_3 tk9z_3 h3_1 tk3_1 r1 u1 u2 h'_9 o'_6 h3z_1 tk3z_1 r2 u3 u4 h'_10 h'_11 o'_7 d'_7 h'_12 h'_6 tk_1 t₁_1 u₁_1 v₁_1 hrng a_8 hm9 f' c' oc' vs' t'_2 ct' h'_13 tk' d1' d2' l2 hzsl shown hshown d'_6 hsr D h' tkz_1 out c9 vs2 ds hds hdp hdk h'_15 o'_8 d'_8 l'_2 h'_16 h3z_2 tk3z_2 lx c1x ccx ocx vsx tx hvx hvx2 Dxz Pxz Sxz DSxz fxz cAxz cTxz oAxz oTxz fdfxz fdSxz hsxz trxz k1xz k2xz k3xz k4xz t1xz t3xz kPxz h'_14z h'_14 tk_2 t₁_2 u₁_2 v₁_2 g9z_2 us DV h9z_4 tk9z_4 h3z_3 tk3z_3 R rs kR Dxz_1 Pxz_1 Sxz_1 DSxz_1 fxz_1 cAxz_1 cTxz_1 oAxz_1 oTxz_1 fdfxz_1 fdSxz_1 hsxz_1 trxz_1 k1xz_1 k2xz_1 k3xz_1 k4xz_1 t1xz_1 t3xz_1 kPxz_1 h'_17 o'_9 d'_9 hdm g9z_3 ws9z DE h9z_5 tk9z_5 WW hok h3z_4 tk3z_4 t7 ta7 kA7 Dxz_2 Pxz_2 Sxz_2 DSxz_2 fxz_2 cAxz_2 cTxz_2 oAxz_2 oTxz_2 fdfxz_2 fdSxz_2 hsxz_2 trxz_2 k1xz_2 k2xz_2 k3xz_2 k4xz_2 t1xz_2 t3xz_2 kPxz_2 tk h'_18 tk_3 t₁_3 u₁_3 v₁_3 hdl g9z_4 us2z DT h9z_6 tk9z_6 htl t9_3 k9 h'_19 l'_3 h'_20 h'_21 h3 tk3 lx2 Dxz_3 Pxz_3 Sxz_3 DSxz_3 fxz_3 cAxz_3 cTxz_3 oAxz_3 oTxz_3 fdfxz_3 fdSxz_3 hsxz_3 trxz_3 k1xz_3 k2xz_3 k3xz_3 k4xz_3 t1xz_3 t3xz_3 kPxz_3 h'_22z o'_10 d'_10 h'_22 tk_4 t₁_4 u₁_4 v₁_4 a_5 a_9 g9z_5 us2 ta9 kA9 htd DTo h9z_7 tk9z_7 Dx Px Sx DSx fx cAx cTx oAx oTx fdfx fdSx hsx trx k1x k2x k3x k4x t1x t3x kPx hOw h'_23 o'_11 d'_11 qkz ekz hol g9 ws9 hws DG h9 tk9 hok2 SP qk ek FF NN
    exact hst9.out⟩
end
end
section
open PySem PySem.W PyProof.Rows
local macro_rules | `(tactic| walk_at "mine pad") => `(tactic| fail)
theorem Mine.rst_L13 : True ∧ True := by
  w_top off
  first | (walk1; all_goals exact True.intro) | exact ⟨True.intro, True.intro⟩
end
section
open PySem PySem.W PySem.Calls PyProof.Rows
section
local macro_rules | `(tactic| ktn_lt) => `(tactic| first | exact Fnd.z | (refine' Fnd.s ?fs; (case fs => ktn_lt)))
local macro_rules | `(tactic| walk_at "call builtin:len") => `(tactic| (k_here; (with_reducible show wpAny _ _ (call (Value.builtin "len") [Value.str (mk _) _]) _ _ _); (refine lenMk (by assumption) ?_)))
local macro_rules | `(tactic| walk_at "compareOp NotEq ref ref") => `(tactic| refine hold ?_)
set_option tactic.hygienic false in
noncomputable def law_l : { P : Prop // Hide P → law_k.1 } := ⟨_, fun hst9 => by
  intro w
  intros
  rename Dst _ => SP
  refine' SpecR.outD (tok_rd w (txt sa sb bare x y ds a 8) l'_3 lx2 (lineL a 8) (txt sa sb bare x y ds a 8).length _ _ ccx ocx _ hOw (Nat.le_refl _) (by omega) (.inl List.drop_length) [] _ _ (by rw [List.drop_length]; rfl)).toR B' FF X' NN T' rfl rfl ?hd ?hu rfl ?kp SP ?ke (fun _ _ => trivial) ?_
  walk_at "mine nums"
  case ke => exact rfl
  case kp => walk_at "mine picks"
  k_whole
  rintro v news' h3 tk3 ⟨t7, ta7, kA7, Oz, rfl, rfl, hOz⟩ F3 N3 A3
  clear FF NN hOw
  obtain ⟨Dx, Px, Sx, DSx, fx, cAx, cTx, oAx, oTx, fdfx, fdSx, hsx, trx, k1x, k2x, k3x, k4x, t1x, t3x, kPx, rfl, hgx, odx⟩ := hOz
  clear hgx
  dsimp only [List.cons_append, List.nil_append] at N3
  clear SP
  have SP := A3 odx
  (try dsimp only [List.map_cons, List.map_nil, List.cons_append, List.nil_append] at SP)
  clear A3 odx
  have hlt : (textL (fun d => encW sa sb bare (msgI x y d)) ds a 8).length < 16000000 := Nat.lt_of_le_of_lt htl (by decide)
  (try dsimp only)
  k_steps
  refine Hold.out ?_
  rename Fr _ _ _ _ => FF
  rename News _ _ _ _ => NN
  refine ne_tup3 NN (by k_mem) (by k_mem) rfl (WW.count a 8).symm (Nat.le_of_ble_eq_true rfl) ?_
  rename Dst _ => SP
  replace NN := drop_picksD (need := [(_, _), (_, _), (l'_3, _), (lx2, _), (Dx, _), (Px, _), (DSx, _), (Sx, _), (fx, _), (ccx, _), (cAx, _), (cTx, _)]) (by walk_at "mine picks") NN SP rfl
  clear SP
  obtain ⟨NN, SP⟩ := NN
  (try dsimp only [List.map_cons, List.map_nil] at SP)
  k_steps
  rename Fr _ _ _ _ => FF
  rename News _ _ _ _ => NN
  revert FF NN
  repeat (rename Fr _ _ _ _ => Fz; clear Fz)
  repeat (rename News _ _ _ _ => Fz; clear Fz)
  intro FF NN
  rename Dst _ => SP
  repeat (rename (∀ q ∈ (_ : List (Addr × Obj)), q.1 < (_ : Addr)) => lz; clear lz)
  rename_i t7z ta7z kA7z tkz_2 h3z_5 tk3z_5 Dxz_4 Pxz_4 Sxz_4 DSxz_4 fxz_4 cAxz_4 cTxz_4 oAxz_4 oTxz_4 fdfxz_4 fdSxz_4 hsxz_4 trxz_4 k1xz_4 k2xz_4 k3xz_4 k4xz_4 t1xz_4 t3xz_4 kPxz_4 qkz ekz D' h'_24 D'_1 h'_25
  revert w s₀ s₁ mg mb fa o9 pm doc hg hT9 ns z1 z2 ls vs z5z hI h1 tk1 p1 p2 p3 p4 p5 p6 p7 p8 p9 p10 p11 p12 p13 p14 d1 d2 d3 d4 d5 d6 d7 d8 d9 d10 d11 d12 d13 d14 hlen G0 hG X' T' B' hL C1 codeHd B0 hB l0 q1 q2 q3 q4 q5 q6 q7 q8 q9 q10 q11 q12 h3z tk3z rn a b c ta tb tc k sa sb esg hsg xb hb1 yb hb2 x hx y hy h'z o' d' t t9z h9z tk9z h'_1 o'_1 d'_1 t_1 h'_2 o'_2 d'_2z t_2 t9_1 h9_1 tk9_1 t_3 t9z_1 h9z_1 tk9z_1 l' h'_3 h'_4 o'_3 d'_3 h'z_1 tkz t₁ u₁ v₁ a_1 a_4 hxl hyl g9z ys hys DM h9z_2 tk9z_2 h'_5 o'_4 d'_4 tq bare hbare d'_2 hxm hym hysl z4 z5 g9z_1 zs hzs DW h9_2 tk9_2 h'_6z o'_5 d'_5 t' k_1 a_2 t'_1 k_2 a_3 l'_1 h'_7 h'_8 t9_2 h9_3 tk9_3 t9 h9z_3 tk9z_3 h3_1 tk3_1 r1 u1 u2 h'_9 o'_6 h3z_1 tk3z_1 r2 u3 u4 h'_10 h'_11 o'_7 d'_7 h'_12 h'_6 tk_1 t₁_1 u₁_1 v₁_1 hrng a_8 hm9 f' c' oc' vs' t'_2 ct' h'_13 tk' d1' d2' l2 hzsl shown hshown d'_6 hsr D h' tkz_1 out c9 vs2 ds hds hdp hdk h'_15 o'_8 d'_8 l'_2 h'_16 h3z_2 tk3z_2 lx c1x ccx ocx vsx tx hvx hvx2 Dxz Pxz Sxz DSxz fxz cAxz cTxz oAxz oTxz fdfxz fdSxz hsxz trxz k1xz k2xz k3xz k4xz t1xz t3xz kPxz h'_14z h'_14 tk_2 t₁_2 u₁_2 v₁_2 g9z_2 us DV h9z_4 tk9z_4 h3z_3 tk3z_3 R rs kR Dxz_1 Pxz_1 Sxz_1 DSxz_1 fxz_1 cAxz_1 cTxz_1 oAxz_1 oTxz_1 fdfxz_1 fdSxz_1 hsxz_1 trxz_1 k1xz_1 k2xz_1 k3xz_1 k4xz_1 t1xz_1 t3xz_1 kPxz_1 h'_17 o'_9 d'_9 hdm g9z_3 ws9z DE h9z_5 tk9z_5 WW hok h3z_4 tk3z_4 t7z ta7z kA7z Dxz_2 Pxz_2 Sxz_2 DSxz_2 fxz_2 cAxz_2 cTxz_2 oAxz_2 oTxz_2 fdfxz_2 fdSxz_2 hsxz_2 trxz_2 k1xz_2 k2xz_2 k3xz_2 k4xz_2 t1xz_2 t3xz_2 kPxz_2 tkz_2 h'_18 tk_3 t₁_3 u₁_3 v₁_3 hdl g9z_4 us2z DT h9z_6 tk9z_6 htl t9_3 k9 h'_19 l'_3 h'_20 h'_21 h3z_5 tk3z_5 lx2 Dxz_3 Pxz_3 Sxz_3 DSxz_3 fxz_3 cAxz_3 cTxz_3 oAxz_3 oTxz_3 fdfxz_3 fdSxz_3 hsxz_3 trxz_3 k1xz_3 k2xz_3 k3xz_3 k4xz_3 t1xz_3 t3xz_3 kPxz_3 h'_22z o'_10 d'_10 h'_22 tk_4 t₁_4 u₁_4 v₁_4 a_5 a_9 g9z_5 us2 ta9 kA9 htd DTo h9z_7 tk9z_7 Dxz_4 Pxz_4 Sxz_4 DSxz_4 fxz_4 cAxz_4 cTxz_4 oAxz_4 oTxz_4 fdfxz_4 fdSxz_4 hsxz_4 trxz_4 k1xz_4 k2xz_4 k3xz_4 k4xz_4 t1xz_4 t3xz_4 kPxz_4 h'_23 o'_11 d'_11 hol g9 ws9 hws DG h9 tk9 hok2 qkz ekz h3 tk3 t7 ta7 kA7 Dx Px Sx DSx fx cAx cTx oAx oTx fdfx fdSx hsx trx k1x k2x k3x k4x t1x t3x kPx hlt t_4 D' h'_24 D'_1 h'_25 SP tk qk ek FF NN
  exact hst9.out⟩
end
end
section
open PySem PySem.W PyProof.Rows
local macro_rules | `(tactic| walk_at "mine pad") => `(tactic| fail)
theorem Mine.rst_L14 : True ∧ True := by
  w_top off
  first | (walk1; all_goals exact True.intro) | exact ⟨True.intro, True.intro⟩
end
section
open PySem PySem.W PySem.Calls PyProof.Rows
section
local macro_rules | `(tactic| ktn_lt) => `(tactic| first | exact Fnd.z | (refine' Fnd.s ?fs; (case fs => ktn_lt)))
theorem strs_at {vs : List Value} {f : Int → Str} {ds : List Int} {i : Nat} {v : Value} (h : StrsAre vs (List.map f ds)) (hv : vs[i]? = some v) : ∃ d t, v = .str (f d) t ∧ ds[i]? = some d := by
  obtain ⟨y, t, rfl, hy⟩ := h.item i v hv
  rw [List.getElem?_map] at hy
  cases e : ds[i]? with
  | none => rw [e] at hy; simp at hy
  | some d => rw [e] at hy; simp at hy; subst hy; exact ⟨d, t, rfl, rfl⟩
local macro_rules | `(tactic| walk_at "CompSrcK") => `(tactic| refine hold ?_)
local macro_rules | `(tactic| walk_at "eval ListComp") => `(tactic| (k_here; k_dflt (refine LCg.ListComp_U (F₀ := by k_asm) (by with_unfolding_all rfl) (by decide) (by rfl) (by decide) (by rfl) ?_)))
local macro_rules | `(tactic| walk_at "exec Assign cons ListComp") => `(tactic| (k_here; k_dflt (refine Assign_ListComp_K (F₀ := by k_asm) (by rfl) (by with_unfolding_all rfl) (by with_unfolding_all rfl) (by intro _ _; rfl) (by intro _; rfl) (by rfl) (by decide) (by intro _ _; with_unfolding_all rfl) (by rfl) (by rfl) ?_)))
set_option tactic.hygienic false in
noncomputable def law_m : { P : Prop × Prop // Hide P.1 → Hide P.2 → law_l.1 } := ⟨(_, _), fun hst9 hst8 => by
  intro w
  intros
  k_steps
  refine Hold.out ?_
  have htl8 := htd.length
  rw [List.length_map, hdl] at htl8
  refine' CompSrcK.ledger rfl ?kF ?kN ?kM ?kz ?_
  case kF => exact FF
  case kN => exact NN
  case kM => k_mem
  case kz => rw [List.size_toArray, htl8, sizeLine_eq]; omega
  intro g9
  refine' comp_indK 8 (fun i zs nw => ∃ rows, nw = ?BASE ++ rows ∧ RowsAre nw zs (List.map (fun d : Int => List.map (fun d' : Int => collS (mk (msgI x y d)) (mk (msgI x y d'))) ds) (ds.take i))) ?st ?fin _ 0 [] _ (by rw [List.size_toArray, htl8]) ⟨[], (List.append_nil _).symm, .nil⟩
  case st =>
    rintro i zs nw hi ⟨rows, rfl, hrw⟩ v I oI C oC K oK D9 h tk E' hv hK F9 N9 off ne offK
    obtain ⟨d, t, rfl, hd⟩ := strs_at htd (by simpa using hv)
    dsimp only [List.cons_append, List.nil_append] at N9
    clear FF NN
    k_steps
    refine Hold.out ?_
    rename Fr _ _ _ _ => F5
    rename News _ _ _ _ => N5
    refine' LCg.CompSrc.ledger rfl ?kF2 ?kN2 ?kM2 ?kz2 ?_
    case kF2 => exact F5
    case kN2 => exact N5
    case kM2 => k_mem
    case kz2 => rw [List.size_toArray, htl8, sizeLine_eq]; omega
    intro g8
    refine' comp_ind 8 (fun j us nw => nw = ?NW2 ∧ IntsAre us (List.map (fun d' : Int => collS (mk (msgI x y d)) (mk (msgI x y d'))) (ds.take j))) ?st2 ?fin2 _ 0 [] _ (by rw [List.size_toArray, htl8]) ⟨rfl, .nil⟩
    case st2 =>
      rintro j us9 nw9 hj ⟨rfl, hus9⟩ v2 I2 oI2 C2 oC2 D2 m2 h2 tk2 E2 hv2 hC2 hx2 F2 N2 off2 ne2
      obtain ⟨d2, t2, rfl, hd2⟩ := strs_at htd (by simpa using hv2)
      clear F5 N5
      k_steps
      refine Hold.out ?_
      refine' Spec.out (strcoll_spec w _ _ _ _) B' F2 X' N2 T' rfl rfl ?hd ?hu rfl ?_
      walk_at "mine nums"
      k_whole
      intro t9 h9 tk9 F3 N3
      refine ⟨_, _, _, rfl, F3, N3, off2, .inr ⟨_, by k_mem, rfl, _, rfl⟩, rfl, ?_⟩
      rw [List.take_add_one, hd2, List.map_append]
      exact ints_snoc hus9
    case fin2 =>
      rintro us9 nw9 ⟨rfl, hus9⟩
      rw [show ds.take 8 = ds from List.take_of_length_le (by omega)] at hus9
      intro DI h8 tk8 F8 N8 o8
      refine' rowEnd (base := ?B9) (rows := rows) F8 ?n8 ?o8 off offK ?s8 ?j8
      case n8 => exact N8
      case o8 => exact o8
      case s8 => exact .inr ⟨_, List.mem_append_left _ (by k_mem), rfl, _, rfl⟩
      case j8 =>
        refine ⟨_, rfl, ?_⟩
        rw [List.take_add_one, hd, List.map_append]
        exact RowsAre.snoc (List.mem_append_right _ (.head _)) hus9 (hrw.mono mem_mid)
  case fin =>
    rintro zs9 nw ⟨rows, rfl, hrw⟩
    rw [show ds.take 8 = ds from List.take_of_length_le (by omega)] at hrw
    intro DTl h9 tk9 F9 N9 off9
    dsimp only [List.cons_append, List.nil_append] at N9
    clear FF NN
    (try dsimp only)
    k_steps
    · rename Fr _ _ _ _ => FF
      rename News _ _ _ _ => NN
      revert FF NN
      repeat (rename Fr _ _ _ _ => Fz; clear Fz)
      repeat (rename News _ _ _ _ => Fz; clear Fz)
      intro FF NN
      rename Dst _ => SP
      repeat (rename (∀ q ∈ (_ : List (Addr × Obj)), q.1 < (_ : Addr)) => lz; clear lz)
      rename_i g9z_6 h9z_8 tk9z_8 tkz_3 qkz ekz
      revert w s₀ s₁ mg mb fa o9 pm doc hg hT9 ns z1 z2 ls vs z5z hI h1 tk1 p1 p2 p3 p4 p5 p6 p7 p8 p9 p10 p11 p12 p13 p14 d1 d2 d3 d4 d5 d6 d7 d8 d9 d10 d11 d12 d13 d14 hlen G0 hG X' T' B' hL C1 codeHd B0 hB l0 q1 q2 q3 q4 q5 q6 q7 q8 q9 q10 q11 q12 h3z tk3z rn a b c ta tb tc k sa sb esg hsg xb hb1 yb hb2 x hx y hy h'z o' d' t t9z h9z tk9z h'_1 o'_1 d'_1 t_1 h'_2 o'_2 d'_2z t_2 t9_1 h9_1 tk9_1 t_3 t9z_1 h9z_1 tk9z_1 l' h'_3 h'_4 o'_3 d'_3 h'z_1 tkz t₁ u₁ v₁ a_1 a_4 hxl hyl g9z ys hys DM h9z_2 tk9z_2 h'_5 o'_4 d'_4 tq bare hbare d'_2 hxm hym hysl z4 z5 g9z_1 zs hzs DW h9_2 tk9_2 h'_6z o'_5 d'_5 t' k_1 a_2 t'_1 k_2 a_3 l'_1 h'_7 h'_8 t9_2 h9_3 tk9_3 t9 h9z_3 tk9z_3 h3_1 tk3_1 r1 u1 u2 h'_9 o'_6 h3z_1 tk3z_1 r2 u3 u4 h'_10 h'_11 o'_7 d'_7 h'_12 h'_6 tk_1 t₁_1 u₁_1 v₁_1 hrng a_8 hm9 f' c' oc' vs' t'_2 ct' h'_13 tk' d1' d2' l2 hzsl shown hshown d'_6 hsr D h' tkz_1 out c9 vs2 ds hds hdp hdk h'_15 o'_8 d'_8 l'_2 h'_16 h3z_2 tk3z_2 lx c1x ccx ocx vsx tx hvx hvx2 Dxz Pxz Sxz DSxz fxz cAxz cTxz oAxz oTxz fdfxz fdSxz hsxz trxz k1xz k2xz k3xz k4xz t1xz t3xz kPxz h'_14z h'_14 tk_2 t₁_2 u₁_2 v₁_2 g9z_2 us DV h9z_4 tk9z_4 h3z_3 tk3z_3 R rs kR Dxz_1 Pxz_1 Sxz_1 DSxz_1 fxz_1 cAxz_1 cTxz_1 oAxz_1 oTxz_1 fdfxz_1 fdSxz_1 hsxz_1 trxz_1 k1xz_1 k2xz_1 k3xz_1 k4xz_1 t1xz_1 t3xz_1 kPxz_1 h'_17 o'_9 d'_9 hdm g9z_3 ws9z DE h9z_5 tk9z_5 WW hok h3z_4 tk3z_4 t7z ta7z kA7z Dxz_2 Pxz_2 Sxz_2 DSxz_2 fxz_2 cAxz_2 cTxz_2 oAxz_2 oTxz_2 fdfxz_2 fdSxz_2 hsxz_2 trxz_2 k1xz_2 k2xz_2 k3xz_2 k4xz_2 t1xz_2 t3xz_2 kPxz_2 tkz_2 h'_18 tk_3 t₁_3 u₁_3 v₁_3 hdl g9z_4 us2z DT h9z_6 tk9z_6 htl t9_3 k9 h'_19 l'_3 h'_20 h'_21 h3z_5 tk3z_5 lx2 Dxz_3 Pxz_3 Sxz_3 DSxz_3 fxz_3 cAxz_3 cTxz_3 oAxz_3 oTxz_3 fdfxz_3 fdSxz_3 hsxz_3 trxz_3 k1xz_3 k2xz_3 k3xz_3 k4xz_3 t1xz_3 t3xz_3 kPxz_3 h'_22z o'_10 d'_10 h'_22 tk_4 t₁_4 u₁_4 v₁_4 a_5 a_9 g9z_5 us2 ta9 kA9 htd DTo h9z_7 tk9z_7 Dxz_4 Pxz_4 Sxz_4 DSxz_4 fxz_4 cAxz_4 cTxz_4 oAxz_4 oTxz_4 fdfxz_4 fdSxz_4 hsxz_4 trxz_4 k1xz_4 k2xz_4 k3xz_4 k4xz_4 t1xz_4 t3xz_4 kPxz_4 h'_23 o'_11 d'_11 hol g9z_6 ws9 hws DG h9z_8 tk9z_8 hok2 h3 tk3 t7 ta7 kA7 Dx Px Sx DSx fx cAx cTx oAx oTx fdfx fdSx hsx trx k1x k2x k3x k4x t1x t3x kPx hlt t_4 D' h'_24 D'_1 h'_25 SP tkz_3 qkz ekz htl8 g9 zs9 rows hrw DTl h9 tk9 off9 qk ek a_6 tk FF NN
      exact hst9.out
    · rename Fr _ _ _ _ => FF
      rename News _ _ _ _ => NN
      revert FF NN
      repeat (rename Fr _ _ _ _ => Fz; clear Fz)
      repeat (rename News _ _ _ _ => Fz; clear Fz)
      intro FF NN
      rename Dst _ => SP
      repeat (rename (∀ q ∈ (_ : List (Addr × Obj)), q.1 < (_ : Addr)) => lz; clear lz)
      rename_i g9z_6 h9z_8 tk9z_8 tkz_3 qkz ekz qk_1 ek_1
      revert w s₀ s₁ mg mb fa o9 pm doc hg hT9 ns z1 z2 ls vs z5z hI h1 tk1 p1 p2 p3 p4 p5 p6 p7 p8 p9 p10 p11 p12 p13 p14 d1 d2 d3 d4 d5 d6 d7 d8 d9 d10 d11 d12 d13 d14 hlen G0 hG X' T' B' hL C1 codeHd B0 hB l0 q1 q2 q3 q4 q5 q6 q7 q8 q9 q10 q11 q12 h3z tk3z rn a b c ta tb tc k sa sb esg hsg xb hb1 yb hb2 x hx y hy h'z o' d' t t9z h9z tk9z h'_1 o'_1 d'_1 t_1 h'_2 o'_2 d'_2z t_2 t9_1 h9_1 tk9_1 t_3 t9z_1 h9z_1 tk9z_1 l' h'_3 h'_4 o'_3 d'_3 h'z_1 tkz t₁ u₁ v₁ a_1 a_4 hxl hyl g9z ys hys DM h9z_2 tk9z_2 h'_5 o'_4 d'_4 tq bare hbare d'_2 hxm hym hysl z4 z5 g9z_1 zs hzs DW h9_2 tk9_2 h'_6z o'_5 d'_5 t' k_1 a_2 t'_1 k_2 a_3 l'_1 h'_7 h'_8 t9_2 h9_3 tk9_3 t9 h9z_3 tk9z_3 h3_1 tk3_1 r1 u1 u2 h'_9 o'_6 h3z_1 tk3z_1 r2 u3 u4 h'_10 h'_11 o'_7 d'_7 h'_12 h'_6 tk_1 t₁_1 u₁_1 v₁_1 hrng a_8 hm9 f' c' oc' vs' t'_2 ct' h'_13 tk' d1' d2' l2 hzsl shown hshown d'_6 hsr D h' tkz_1 out c9 vs2 ds hds hdp hdk h'_15 o'_8 d'_8 l'_2 h'_16 h3z_2 tk3z_2 lx c1x ccx ocx vsx tx hvx hvx2 Dxz Pxz Sxz DSxz fxz cAxz cTxz oAxz oTxz fdfxz fdSxz hsxz trxz k1xz k2xz k3xz k4xz t1xz t3xz kPxz h'_14z h'_14 tk_2 t₁_2 u₁_2 v₁_2 g9z_2 us DV h9z_4 tk9z_4 h3z_3 tk3z_3 R rs kR Dxz_1 Pxz_1 Sxz_1 DSxz_1 fxz_1 cAxz_1 cTxz_1 oAxz_1 oTxz_1 fdfxz_1 fdSxz_1 hsxz_1 trxz_1 k1xz_1 k2xz_1 k3xz_1 k4xz_1 t1xz_1 t3xz_1 kPxz_1 h'_17 o'_9 d'_9 hdm g9z_3 ws9z DE h9z_5 tk9z_5 WW hok h3z_4 tk3z_4 t7z ta7z kA7z Dxz_2 Pxz_2 Sxz_2 DSxz_2 fxz_2 cAxz_2 cTxz_2 oAxz_2 oTxz_2 fdfxz_2 fdSxz_2 hsxz_2 trxz_2 k1xz_2 k2xz_2 k3xz_2 k4xz_2 t1xz_2 t3xz_2 kPxz_2 tkz_2 h'_18 tk_3 t₁_3 u₁_3 v₁_3 hdl g9z_4 us2z DT h9z_6 tk9z_6 htl t9_3 k9 h'_19 l'_3 h'_20 h'_21 h3z_5 tk3z_5 lx2 Dxz_3 Pxz_3 Sxz_3 DSxz_3 fxz_3 cAxz_3 cTxz_3 oAxz_3 oTxz_3 fdfxz_3 fdSxz_3 hsxz_3 trxz_3 k1xz_3 k2xz_3 k3xz_3 k4xz_3 t1xz_3 t3xz_3 kPxz_3 h'_22z o'_10 d'_10 h'_22 tk_4 t₁_4 u₁_4 v₁_4 a_5 a_9 g9z_5 us2 ta9 kA9 htd DTo h9z_7 tk9z_7 Dxz_4 Pxz_4 Sxz_4 DSxz_4 fxz_4 cAxz_4 cTxz_4 oAxz_4 oTxz_4 fdfxz_4 fdSxz_4 hsxz_4 trxz_4 k1xz_4 k2xz_4 k3xz_4 k4xz_4 t1xz_4 t3xz_4 kPxz_4 h'_23 o'_11 d'_11 hol g9z_6 ws9 hws DG h9z_8 tk9z_8 hok2 h3 tk3 t7 ta7 kA7 Dx Px Sx DSx fx cAx cTx oAx oTx fdfx fdSx hsx trx k1x k2x k3x k4x t1x t3x kPx hlt t_4 D' h'_24 D'_1 h'_25 SP tkz_3 qkz ekz htl8 g9 zs9 rows hrw DTl h9 tk9 off9 qk_1 ek_1 a_6 tk qk ek FF NN
      exact hst8.out⟩
end
end
section
open PySem PySem.W PyProof.Rows
local macro_rules | `(tactic| walk_at "mine pad") => `(tactic| fail)
theorem Mine.rst_L15 : True ∧ True := by
  w_top off
  first | (walk1; all_goals exact True.intro) | exact ⟨True.intro, True.intro⟩
end
section
open PySem PySem.W PySem.Calls PyProof.Rows
section
local macro_rules | `(tactic| ktn_lt) => `(tactic| first | exact Fnd.z | (refine' Fnd.s ?fs; (case fs => ktn_lt)))
theorem ints_snocE {us : List Value} {ns : List Int} {n n' : Int} {t : Tok} (h : IntsAre us ns) (e : n = n') : IntsAre (us ++ [.int n t]) (ns ++ [n']) := e ▸ ints_snoc h
theorem msgs_small {sa sb : Nat} {bare : Int} {xb yb : List Bool} {x y : List Nat} {shown : Int} {ds : List Int} (W : Words sa sb bare xb yb x y shown ds) (d : Int) : (msgI x y d).length < 16000000 := by
  have h1 : x.length ≤ 4 := by rw [← W.hx, List.length_map]; have := W.b1; omega
  have h2 : y.length ≤ 4 := by rw [← W.hy, List.length_map]; have := W.b2; omega
  have := msg_len (e := d) h1 h2
  omega
local macro_rules | `(tactic| walk_at "CompSrcK") => `(tactic| refine hold ?_)
local macro_rules | `(tactic| walk_at "compareOp Eq ref ref") => `(tactic| refine hold ?_)
local macro_rules | `(tactic| walk_at "eval ListComp") => `(tactic| (k_here; first | (k_dflt (refine ListComp_K (F₀ := by k_asm) (by with_unfolding_all rfl) (by intro _ _; rfl) (by intro _; rfl) (by rfl) (by decide) (by intro _ _; with_unfolding_all rfl) ?_)) | (k_dflt (refine LCg.ListComp_U (F₀ := by k_asm) (by with_unfolding_all rfl) (by decide) (by rfl) (by decide) (by rfl) ?_))))
local macro_rules | `(tactic| walk_at "call builtin:len") => `(tactic| (k_here; (with_reducible show wpAny _ _ (call (Value.builtin "len") [Value.str (mk _) _]) _ _ _); (refine lenMk (by assumption) ?_)))
set_option tactic.hygienic false in
theorem law_n : law_m.1.1 := by
  intro w
  intros
  k_steps
  refine Hold.out ?_
  refine' CompSrcK.ledger rfl ?kF ?kN ?kM ?kz ?_
  case kF => exact FF
  case kN => exact NN
  case kM => k_mem
  case kz => rw [List.size_toArray, htl8, sizeLine_eq]; omega
  intro g9
  refine' comp_indK 8 (fun i zs nw => ∃ rows2, nw = ?BASE ++ rows2 ∧ RowsAre nw zs (List.map (fun d : Int => List.map (fun d' : Int => lenC (msgI x y d).length (msgI x y d').length) ds) (ds.take i))) ?st ?fin _ 0 [] _ (by rw [List.size_toArray, htl8]) ⟨[], (List.append_nil _).symm, .nil⟩
  case st =>
    rintro i zs nw hi ⟨rows2, rfl, hrw2⟩ v I oI C oC K oK D9 h tk E' hv hK F9 N9 off ne offK
    obtain ⟨d, t, rfl, hd⟩ := strs_at htd (by simpa using hv)
    dsimp only [List.cons_append, List.nil_append] at N9
    clear FF NN
    k_steps
    refine Hold.out ?_
    rename Fr _ _ _ _ => F5
    rename News _ _ _ _ => N5
    refine' LCg.CompSrc.ledger rfl ?kF2 ?kN2 ?kM2 ?kz2 ?_
    case kF2 => exact F5
    case kN2 => exact N5
    case kM2 => k_mem
    case kz2 => rw [List.size_toArray, htl8, sizeLine_eq]; omega
    intro g8
    refine' comp_ind 8 (fun j us nw => nw = ?NW2 ∧ IntsAre us (List.map (fun d' : Int => lenC (msgI x y d).length (msgI x y d').length) (ds.take j))) ?st2 ?fin2 _ 0 [] _ (by rw [List.size_toArray, htl8]) ⟨rfl, .nil⟩
    case st2 =>
      rintro j us9 nw9 hj ⟨rfl, hus9⟩ v2 I2 oI2 C2 oC2 D2 m2 h2 tk2 E2 hv2 hC2 hx2 F2 N2 off2 ne2
      obtain ⟨d2, t2, rfl, hd2⟩ := strs_at htd (by simpa using hv2)
      clear F5 N5
      have hm1 := msgs_small WW d
      have hm2 := msgs_small WW d2
      k_steps
      refine Hold.out ?_
      rename Fr _ _ _ _ => F3
      rename News _ _ _ _ => N3
      refine ⟨_, _, _, rfl, F3, N3, off2, .inr ⟨_, by k_mem, rfl, _, rfl⟩, rfl, ?_⟩
      rw [List.take_add_one, hd2, List.map_append]
      refine ints_snocE hus9 ?_
      simp only [lenC, Int.ofNat_lt]
    case fin2 =>
      rintro us9 nw9 ⟨rfl, hus9⟩
      rw [show ds.take 8 = ds from List.take_of_length_le (by omega)] at hus9
      intro DI h8 tk8 F8 N8 o8
      refine' rowEnd (base := ?B9) (rows := rows2) F8 ?n8 ?o8 off offK ?s8 ?j8
      case n8 => exact N8
      case o8 => exact o8
      case s8 => exact .inr ⟨_, List.mem_append_left _ (by k_mem), rfl, _, rfl⟩
      case j8 =>
        refine ⟨_, rfl, ?_⟩
        rw [List.take_add_one, hd, List.map_append]
        exact RowsAre.snoc (List.mem_append_right _ (.head _)) hus9 (hrw2.mono mem_mid)
  case fin =>
    rintro zs2 nw ⟨rows2, rfl, hrw2⟩
    rw [show ds.take 8 = ds from List.take_of_length_le (by omega)] at hrw2
    intro DTm h9 tk9 F9 N9 off9
    dsimp only [List.cons_append, List.nil_append] at N9
    clear FF NN
    (try dsimp only)
    k_steps
    refine Hold.out ?_
    rename Fr _ _ _ _ => FF
    rename News _ _ _ _ => NN
    rename (Prod.fst _ = (0 : Int)) => hs0
    have e12 : List.map (fun d : Int => List.map (fun d' : Int => collS (mk (msgI x y d)) (mk (msgI x y d'))) ds) ds = List.map (fun d : Int => List.map (fun d' : Int => lenC (msgI x y d).length (msgI x y d').length) ds) ds := List.map_congr_left fun d hd => List.map_congr_left fun d' hd' => by
      obtain ⟨i, hi, rfl⟩ := WW.ds_mem d hd
      obtain ⟨j, hj, rfl⟩ := WW.ds_mem d' hd'
      exact WW.tell0 hs0 hi hj
    refine' eq_rows NN ?h1 ?h2 ?h3 ?h4 e12 (Nat.le_of_ble_eq_true rfl) ?_
    case h1 => k_mem
    case h2 => k_mem
    case h3 =>
      exact hrw.mono fun p hp => List.Mem.tail _ (List.Mem.tail _ (List.mem_append_left rows2 hp))
    case h4 =>
      exact hrw2.mono fun p hp => List.Mem.tail _ hp
    walk1
    · refine goodW_bool FF hg (fun _ => rfl) ?_
      refine' postW_of ?s ?v ?e
      case s => o_shape
      case v => wtm_val
      case e => w_fin
    · exact ⟨GrownAt.of NN (by k_mem), GrownAt.of NN (by k_mem), True.intro⟩
end
end
section
open PySem PySem.W PyProof.Rows
local macro_rules | `(tactic| walk_at "mine pad") => `(tactic| fail)
theorem Mine.rst_L16 : True ∧ True := by
  w_top off
  first | (walk1; all_goals exact True.intro) | exact ⟨True.intro, True.intro⟩
end
section
open PySem PySem.W PySem.Calls PyProof.Rows
section
local macro_rules | `(tactic| ktn_lt) => `(tactic| first | exact Fnd.z | (refine' Fnd.s ?fs; (case fs => ktn_lt)))
def lenZ (a b : Int) : Int := b2i (decide (b < a)) - b2i (decide (a < b))
theorem lenZ_C (i j : Nat) : lenZ (i : Int) (j : Int) = lenC i j := by simp only [lenZ, lenC, Int.ofNat_lt]
theorem getD_mem {ds : List Int} {i : Nat} (h : i < ds.length) : ds.getD i 0 ∈ ds := by
  rw [List.getD_eq_getElem?_getD, List.getElem?_eq_getElem h]; exact List.getElem_mem h
theorem tells_eq {sa sb : Nat} {bare : Int} {xb yb : List Bool} {x y : List Nat} {shown : Int} {ds : List Int} (WW : Words sa sb bare xb yb x y shown ds) (hdl : ds.length = 8) (hs0 : (sideL (x ++ y) (y ++ x) 0).1 ≠ 0) :
    List.map (fun d : Int => List.map (fun d' : Int => collS (mk (msgI x y d)) (mk (msgI x y d'))) ds) ds = List.map (fun i : Nat => List.map (fun j : Nat => -(sideL (x ++ y) (y ++ x) 0).1 * lenZ (ds.getD i 0) (ds.getD j 0)) (List.range 8)) (List.range 8) := by
  rw [← map_getD (fun d : Int => List.map (fun d' : Int => collS (mk (msgI x y d)) (mk (msgI x y d'))) ds) hdl]
  refine List.map_congr_left fun i hi => ?_
  rw [← map_getD (fun d' : Int => collS (mk (msgI x y (ds.getD i 0))) (mk (msgI x y d'))) hdl]
  refine List.map_congr_left fun j hj => ?_
  have hi' := List.mem_range.mp hi
  have hj' := List.mem_range.mp hj
  obtain ⟨a, ha, ea⟩ := WW.ds_mem _ (getD_mem (ds := ds) (i := i) (by omega))
  obtain ⟨b, hb, eb⟩ := WW.ds_mem _ (getD_mem (ds := ds) (i := j) (by omega))
  rw [ea, eb, lenZ_C]
  exact WW.tell1 hs0 ha hb
theorem ints_snocF {us : List Value} {ns : List Int} {n n' : Int} {t : Tok} (h : IntsAre us ns) (e : n = n') : IntsAre (us ++ [.int n t]) (ns ++ [n']) := e ▸ ints_snoc h
theorem itemA {prog : Program} {w : World} {A : Around} {E : Value → Shared → Prop} {s : Shared} {h₀ : Heap} {L : Addr} {news : List (Addr × Obj)} {value slice : PySem.Expr} {l : Addr} {vs : Array Value} {c9 : Nat} {ns : List Int} {n : Int} {k : Int} {u : Tok} {Q : Value → Shared → Prop}
    (N : News h₀ L s.heap news) (hm : (l, W.listOf vs c9) ∈ news) (hv : IntsAre vs.toList ns) (h0 : 0 ≤ k) (hhi : k < 2 ^ 63) (hx : ns[k.toNat]? = some n) (h : ∀ t, Q (.int n t) s)
    (hs : subscripted slice false (.ref l) (.int k u) = operate [.ref l, .int k u] (getItem (.ref l) (.int k u)) := by with_unfolding_all rfl) :
    wpAny (model prog w) A (subscriptTail value slice (.ref l) (.int k u)) Q E s :=
  itemI (vs := vs.toList) (by have := News.isList N hm; simpa using this) hv h0 hhi hx h hs
local macro_rules | `(tactic| walk_at "CompSrcK") => `(tactic| refine hold ?_)
local macro_rules | `(tactic| walk_at "compareOp NotEq ref ref") => `(tactic| refine hold ?_)
local macro_rules | `(tactic| walk_at "eval ListComp") => `(tactic| (k_here; first | (k_dflt (refine ListComp_K (F₀ := by k_asm) (by with_unfolding_all rfl) (by intro _ _; rfl) (by intro _; rfl) (by rfl) (by decide) (by intro _ _; with_unfolding_all rfl) ?_)) | (k_dflt (refine LCg.ListComp_U (F₀ := by k_asm) (by with_unfolding_all rfl) (by decide) (by rfl) (by decide) (by rfl) ?_))))
local macro_rules | `(tactic| walk_at "subscriptTail Name Name ref int") => `(tactic| (k_here; (refine' itemA ?k1 ?k2 ?k3 ?k4 ?k5 ?k6 ?_; (case k1 => k_asm); (case k2 => k_mem); (case k3 => assumption); (case k4 | k5 => omega); (case k6 => assumption)); intro t9))
set_option tactic.hygienic false in
noncomputable def law_o : { P : Prop × Prop // Hide P.1 → Hide P.2 → law_m.1.2 } := ⟨(_, _), fun hst9 hst8 => by
  intro w
  intros
  have hds : IntsAre out.toList ds := by assumption
  have hsr := sideL_range (x ++ y) (y ++ x) 0
  k_steps
  refine Hold.out ?_
  rename Fr _ _ _ _ => FF
  rename News _ _ _ _ => NN
  refine' CompSrcK.range (n := 8) rfl ?kF ?kN ?kR ?k4 ?k5 (by rw [sizeLine_eq]; omega) ?_
  case kF => exact FF
  case kN => exact NN
  case kR => assumption
  case k4 => decide
  case k5 => decide
  intro g9
  refine' comp_indK 8 (fun i zs nw => ∃ rows2, nw = ?BASE ++ rows2 ∧ RowsAre nw zs (List.map (fun i : Nat => List.map (fun j : Nat => -(sideL (x ++ y) (y ++ x) 0).1 * lenZ (ds.getD i 0) (ds.getD j 0)) (List.range 8)) (List.range i))) ?st ?fin _ 0 [] _ (by omega) ⟨[], (List.append_nil _).symm, .nil⟩
  case st =>
    rintro i zs nw hi ⟨rows2, rfl, hrw2⟩ v I oI C oC K oK D9 h tk E' ⟨t, rfl⟩ hK F9 N9 off ne offK
    rw [Int.zero_add] at hK
    have hdi : ds[((i : Nat) : Int).toNat]? = some (ds.getD i 0) := by rw [Int.toNat_natCast, List.getD_eq_getElem?_getD, List.getElem?_eq_getElem (by omega)]; rfl
    dsimp only [List.cons_append, List.nil_append] at N9
    clear FF NN
    k_steps
    refine Hold.out ?_
    rename Fr _ _ _ _ => F5
    rename News _ _ _ _ => N5
    refine' LCg.CompSrc.range (n := 8) rfl ?kF2 ?kN2 ?kR2 ?k42 ?k52 (by rw [sizeLine_eq]; omega) ?_
    case kF2 => exact F5
    case kN2 => exact N5
    case kR2 => assumption
    case k42 => decide
    case k52 => decide
    intro g8
    refine' comp_ind 8 (fun j us nw => nw = ?NW2 ∧ IntsAre us (List.map (fun j : Nat => -(sideL (x ++ y) (y ++ x) 0).1 * lenZ (ds.getD i 0) (ds.getD j 0)) (List.range j))) ?st2 ?fin2 _ 0 [] _ (by omega) ⟨rfl, .nil⟩
    case st2 =>
      rintro j us9 nw9 hj ⟨rfl, hus9⟩ v2 I2 oI2 C2 oC2 D2 m2 h2 tk2 E2 ⟨t2, rfl⟩ hC2 hx2 F2 N2 off2 ne2
      rw [Int.zero_add] at hx2
      have hdj : ds[((j : Nat) : Int).toNat]? = some (ds.getD j 0) := by rw [Int.toNat_natCast, List.getD_eq_getElem?_getD, List.getElem?_eq_getElem (by omega)]; rfl
      clear F5 N5
      k_steps
      refine Hold.out ?_
      rename Fr _ _ _ _ => F3
      rename News _ _ _ _ => N3
      refine ⟨_, _, _, rfl, F3, N3, off2, trivial, rfl, ?_⟩
      rw [List.range_succ, List.map_append]
      refine ints_snocF hus9 ?_
      simp only [lenZ, Int.toNat_natCast]
    case fin2 =>
      rintro us9 nw9 ⟨rfl, hus9⟩
      intro DI h8 tk8 F8 N8 o8
      refine' rowEnd (base := ?B9) (rows := rows2) F8 ?n8 ?o8 off offK ?s8 ?j8
      case n8 => exact N8
      case o8 => exact o8
      case s8 => exact True.intro
      case j8 =>
        refine ⟨_, rfl, ?_⟩
        rw [show List.range (i + 1) = List.range i ++ [i] from List.range_succ, List.map_append]
        exact RowsAre.snoc (List.mem_append_right _ (.head _)) hus9 (hrw2.mono mem_mid)
  case fin =>
    rintro zs2 nw ⟨rows2, rfl, hrw2⟩
    intro DTm h9 tk9 F9 N9 off9
    dsimp only [List.cons_append, List.nil_append] at N9
    clear FF NN
    (try dsimp only)
    k_steps
    refine Hold.out ?_
    rename Fr _ _ _ _ => FF
    rename News _ _ _ _ => NN
    rename (Prod.fst _ ≠ (0 : Int)) => hs0
    have e12 := tells_eq WW hdl hs0
    refine' ne_rows NN ?h1 ?h2 ?h3 ?h4 e12 (Nat.le_of_ble_eq_true rfl) ?_
    case h1 => k_mem
    case h2 => k_mem
    case h3 => exact hrw.mono fun p hp => List.Mem.tail _ (List.Mem.tail _ (List.mem_append_left rows2 hp))
    case h4 => exact hrw2.mono fun p hp => List.Mem.tail _ hp
    k_steps
    · rename Fr _ _ _ _ => FF
      rename News _ _ _ _ => NN
      rename Dst _ => SP
      repeat (rename (∀ q ∈ (_ : List (Addr × Obj)), q.1 < (_ : Addr)) => lz; clear lz)
      rename_i hsrz hdsz g9z_7 h9z_9 tk9z_9 off9z qkz ekz D'_2 h'_28 l1 h'_29
      revert w s₀ s₁ mg mb fa o9 pm doc hg hT9 ns z1 z2 ls vs z5z hI h1 tk1 p1 p2 p3 p4 p5 p6 p7 p8 p9 p10 p11 p12 p13 p14 d1 d2 d3 d4 d5 d6 d7 d8 d9 d10 d11 d12 d13 d14 hlen G0 hG X' T' B' hL C1 codeHd B0 hB l0 q1 q2 q3 q4 q5 q6 q7 q8 q9 q10 q11 q12 h3z tk3z rn a b c ta tb tc k sa sb esg hsg xb hb1 yb hb2 x hx y hy h'z o' d' t t9z h9z tk9z h'_1 o'_1 d'_1 t_1 h'_2 o'_2 d'_2z t_2 t9_1 h9_1 tk9_1 t_3 t9z_1 h9z_1 tk9z_1 l' h'_3 h'_4 o'_3 d'_3 h'z_1 tkz t₁ u₁ v₁ a_1 a_4 hxl hyl g9z ys hys DM h9z_2 tk9z_2 h'_5 o'_4 d'_4 tq bare hbare d'_2 hxm hym hysl z4 z5 g9z_1 zs hzs DW h9_2 tk9_2 h'_6z o'_5 d'_5 t' k_1 a_2 t'_1 k_2 a_3 l'_1 h'_7 h'_8 t9_2 h9_3 tk9_3 t9 h9z_3 tk9z_3 h3_1 tk3_1 r1 u1 u2 h'_9 o'_6 h3z_1 tk3z_1 r2 u3 u4 h'_10 h'_11 o'_7 d'_7 h'_12 h'_6 tk_1 t₁_1 u₁_1 v₁_1 hrng a_8 hm9 f' c' oc' vs' t'_2 ct' h'_13 tk' d1' d2' l2 hzsl shown hshown d'_6 hsrz D h' tkz_1 out c9 vs2 ds hdsz hdp hdk h'_15 o'_8 d'_8 l'_2 h'_16 h3z_2 tk3z_2 lx c1x ccx ocx vsx tx hvx hvx2 Dxz Pxz Sxz DSxz fxz cAxz cTxz oAxz oTxz fdfxz fdSxz hsxz trxz k1xz k2xz k3xz k4xz t1xz t3xz kPxz h'_14z h'_14 tk_2 t₁_2 u₁_2 v₁_2 g9z_2 us DV h9z_4 tk9z_4 h3z_3 tk3z_3 R rs kR Dxz_1 Pxz_1 Sxz_1 DSxz_1 fxz_1 cAxz_1 cTxz_1 oAxz_1 oTxz_1 fdfxz_1 fdSxz_1 hsxz_1 trxz_1 k1xz_1 k2xz_1 k3xz_1 k4xz_1 t1xz_1 t3xz_1 kPxz_1 h'_17 o'_9 d'_9 hdm g9z_3 ws9z DE h9z_5 tk9z_5 WW hok h3z_4 tk3z_4 t7z ta7z kA7z Dxz_2 Pxz_2 Sxz_2 DSxz_2 fxz_2 cAxz_2 cTxz_2 oAxz_2 oTxz_2 fdfxz_2 fdSxz_2 hsxz_2 trxz_2 k1xz_2 k2xz_2 k3xz_2 k4xz_2 t1xz_2 t3xz_2 kPxz_2 tkz_2 h'_18 tk_3 t₁_3 u₁_3 v₁_3 hdl g9z_4 us2z DT h9z_6 tk9z_6 htl t9_3 k9 h'_19 l'_3 h'_20 h'_21 h3z_5 tk3z_5 lx2 Dxz_3 Pxz_3 Sxz_3 DSxz_3 fxz_3 cAxz_3 cTxz_3 oAxz_3 oTxz_3 fdfxz_3 fdSxz_3 hsxz_3 trxz_3 k1xz_3 k2xz_3 k3xz_3 k4xz_3 t1xz_3 t3xz_3 kPxz_3 h'_22z o'_10 d'_10 h'_22 tk_4 t₁_4 u₁_4 v₁_4 a_5 a_9 g9z_5 us2 ta9 kA9 htd DTo h9z_7 tk9z_7 Dxz_4 Pxz_4 Sxz_4 DSxz_4 fxz_4 cAxz_4 cTxz_4 oAxz_4 oTxz_4 fdfxz_4 fdSxz_4 hsxz_4 trxz_4 k1xz_4 k2xz_4 k3xz_4 k4xz_4 t1xz_4 t3xz_4 kPxz_4 h'_23 o'_11 d'_11 hol g9z_6 ws9 hws DG h9z_8 tk9z_8 hok2 h3 tk3 t7 ta7 kA7 Dx Px Sx DSx fx cAx cTx oAx oTx fdfx fdSx hsx trx k1x k2x k3x k4x t1x t3x kPx hlt t_4 D' h'_24 D'_1 h'_25 SP tkz_3 htl8 g9z_7 zs9 rows hrw DTl h9z_9 tk9z_9 off9z hs0 tk qkz ekz hds hsr h'_26 tk_5 t₁_5 u₁_5 v₁_5 a_7 a_12 g9 zs2 rows2 hrw2 DTm h9 tk9 off9 e12 qk ek a_6 h'_27 t'_3 k_3 a_13 D'_2 h'_28 l1 h'_29 FF NN
      exact hst9.out
    · rename Fr _ _ _ _ => FF
      rename News _ _ _ _ => NN
      rename Dst _ => SP
      repeat (rename (∀ q ∈ (_ : List (Addr × Obj)), q.1 < (_ : Addr)) => lz; clear lz)
      rename_i hsrz hdsz g9z_7 h9z_9 tk9z_9 off9z qkz ekz D'_2 h'_28 l1 h'_29
      revert w s₀ s₁ mg mb fa o9 pm doc hg hT9 ns z1 z2 ls vs z5z hI h1 tk1 p1 p2 p3 p4 p5 p6 p7 p8 p9 p10 p11 p12 p13 p14 d1 d2 d3 d4 d5 d6 d7 d8 d9 d10 d11 d12 d13 d14 hlen G0 hG X' T' B' hL C1 codeHd B0 hB l0 q1 q2 q3 q4 q5 q6 q7 q8 q9 q10 q11 q12 h3z tk3z rn a b c ta tb tc k sa sb esg hsg xb hb1 yb hb2 x hx y hy h'z o' d' t t9z h9z tk9z h'_1 o'_1 d'_1 t_1 h'_2 o'_2 d'_2z t_2 t9_1 h9_1 tk9_1 t_3 t9z_1 h9z_1 tk9z_1 l' h'_3 h'_4 o'_3 d'_3 h'z_1 tkz t₁ u₁ v₁ a_1 a_4 hxl hyl g9z ys hys DM h9z_2 tk9z_2 h'_5 o'_4 d'_4 tq bare hbare d'_2 hxm hym hysl z4 z5 g9z_1 zs hzs DW h9_2 tk9_2 h'_6z o'_5 d'_5 t' k_1 a_2 t'_1 k_2 a_3 l'_1 h'_7 h'_8 t9_2 h9_3 tk9_3 t9 h9z_3 tk9z_3 h3_1 tk3_1 r1 u1 u2 h'_9 o'_6 h3z_1 tk3z_1 r2 u3 u4 h'_10 h'_11 o'_7 d'_7 h'_12 h'_6 tk_1 t₁_1 u₁_1 v₁_1 hrng a_8 hm9 f' c' oc' vs' t'_2 ct' h'_13 tk' d1' d2' l2 hzsl shown hshown d'_6 hsrz D h' tkz_1 out c9 vs2 ds hdsz hdp hdk h'_15 o'_8 d'_8 l'_2 h'_16 h3z_2 tk3z_2 lx c1x ccx ocx vsx tx hvx hvx2 Dxz Pxz Sxz DSxz fxz cAxz cTxz oAxz oTxz fdfxz fdSxz hsxz trxz k1xz k2xz k3xz k4xz t1xz t3xz kPxz h'_14z h'_14 tk_2 t₁_2 u₁_2 v₁_2 g9z_2 us DV h9z_4 tk9z_4 h3z_3 tk3z_3 R rs kR Dxz_1 Pxz_1 Sxz_1 DSxz_1 fxz_1 cAxz_1 cTxz_1 oAxz_1 oTxz_1 fdfxz_1 fdSxz_1 hsxz_1 trxz_1 k1xz_1 k2xz_1 k3xz_1 k4xz_1 t1xz_1 t3xz_1 kPxz_1 h'_17 o'_9 d'_9 hdm g9z_3 ws9z DE h9z_5 tk9z_5 WW hok h3z_4 tk3z_4 t7z ta7z kA7z Dxz_2 Pxz_2 Sxz_2 DSxz_2 fxz_2 cAxz_2 cTxz_2 oAxz_2 oTxz_2 fdfxz_2 fdSxz_2 hsxz_2 trxz_2 k1xz_2 k2xz_2 k3xz_2 k4xz_2 t1xz_2 t3xz_2 kPxz_2 tkz_2 h'_18 tk_3 t₁_3 u₁_3 v₁_3 hdl g9z_4 us2z DT h9z_6 tk9z_6 htl t9_3 k9 h'_19 l'_3 h'_20 h'_21 h3z_5 tk3z_5 lx2 Dxz_3 Pxz_3 Sxz_3 DSxz_3 fxz_3 cAxz_3 cTxz_3 oAxz_3 oTxz_3 fdfxz_3 fdSxz_3 hsxz_3 trxz_3 k1xz_3 k2xz_3 k3xz_3 k4xz_3 t1xz_3 t3xz_3 kPxz_3 h'_22z o'_10 d'_10 h'_22 tk_4 t₁_4 u₁_4 v₁_4 a_5 a_9 g9z_5 us2 ta9 kA9 htd DTo h9z_7 tk9z_7 Dxz_4 Pxz_4 Sxz_4 DSxz_4 fxz_4 cAxz_4 cTxz_4 oAxz_4 oTxz_4 fdfxz_4 fdSxz_4 hsxz_4 trxz_4 k1xz_4 k2xz_4 k3xz_4 k4xz_4 t1xz_4 t3xz_4 kPxz_4 h'_23 o'_11 d'_11 hol g9z_6 ws9 hws DG h9z_8 tk9z_8 hok2 h3 tk3 t7 ta7 kA7 Dx Px Sx DSx fx cAx cTx oAx oTx fdfx fdSx hsx trx k1x k2x k3x k4x t1x t3x kPx hlt t_4 D' h'_24 D'_1 h'_25 SP tkz_3 htl8 g9z_7 zs9 rows hrw DTl h9z_9 tk9z_9 off9z hs0 tk qkz ekz hds hsr h'_26 tk_5 t₁_5 u₁_5 v₁_5 a_7 a_12 g9 zs2 rows2 hrw2 DTm h9 tk9 off9 e12 qk ek a_6 h'_27 t'_3 k_3 a_13 D'_2 h'_28 l1 h'_29 FF NN
      exact hst8.out⟩
end
end
section
open PySem PySem.W PyProof.Rows
local macro_rules | `(tactic| walk_at "mine pad") => `(tactic| fail)
theorem Mine.rst_L17 : True ∧ True := by
  w_top off
  first | (walk1; all_goals exact True.intro) | exact ⟨True.intro, True.intro⟩
end
section
open PySem PySem.W PySem.Calls PyProof.Rows
section
local macro_rules | `(tactic| ktn_lt) => `(tactic| first | exact Fnd.z | (refine' Fnd.s ?fs; (case fs => ktn_lt)))
theorem sidB_lt : ∀ l m k, (sidB l m k).1 ≠ 0 → (sidB l m k).2 < k + l.length
  | [], [], _, h => absurd rfl h
  | [], _ :: _, _, h => absurd rfl h
  | _ :: _, [], _, h => absurd rfl h
  | a :: l, b :: m, k, h => by
    unfold sidB at h ⊢
    by_cases e : a = b
    · rw [if_pos e] at h ⊢
      have := sidB_lt l m (k + 1) h
      rw [List.length_cons]; omega
    · rw [if_neg e]; rw [List.length_cons]; show k < _; omega
section
variable {sa sb : Nat} {bare : Int} {xb yb : List Bool} {x y : List Nat} {shown : Int} {ds : List Int}
theorem word_len (W : Words sa sb bare xb yb x y shown ds) : x.length = xb.length ∧ y.length = yb.length := ⟨by rw [← W.hx, List.length_map], by rw [← W.hy, List.length_map]⟩
theorem word_small (W : Words sa sb bare xb yb x y shown ds) : x.length < 1000000 ∧ y.length < 1000000 := by
  have := word_len W; have := W.b1; have := W.b2; omega
theorem msgs_smallM (W : Words sa sb bare xb yb x y shown ds) (d : Int) : (msgI x y d).length < 1000000 := by
  have := word_len W; have := W.b1; have := W.b2
  have := msg_len (x := x) (y := y) (e := d) (by omega) (by omega)
  omega
theorem place_lt (W : Words sa sb bare xb yb x y shown ds) (h0 : (sideL (x ++ y) (y ++ x) 0).1 ≠ 0) : 0 ≤ (sideL (x ++ y) (y ++ x) 0).2 ∧ (sideL (x ++ y) (y ++ x) 0).2 < x.length + y.length := by
  have hl := word_len W
  rw [W.side] at h0 ⊢
  have := sidB_lt (xb ++ yb) (yb ++ xb) 0 h0
  rw [List.length_append] at this
  simp only
  omega
theorem slice_mark0 (W : Words sa sb bare xb yb x y shown ds) (h0 : (sideL (x ++ y) (y ++ x) 0).1 ≠ 0) : Txt.slice (mk y ++ mk x) none (some ((sideL (x ++ y) (y ++ x) 0).2 + 1)) = mk ((y ++ x).take ((sideL (x ++ y) (y ++ x) 0).2 + 1).toNat) := by
  have hp := place_lt W h0
  have := slice_to (y ++ x) ((sideL (x ++ y) (y ++ x) 0).2 + 1).toNat (by rw [List.length_append]; omega)
  rw [Int.toNat_of_nonneg (by omega)] at this
  rw [mk_app]; exact this
theorem slice_mark1 (W : Words sa sb bare xb yb x y shown ds) (h0 : (sideL (x ++ y) (y ++ x) 0).1 ≠ 0) : Txt.slice (mk x ++ mk y) none (some ((sideL (x ++ y) (y ++ x) 0).2 + 1)) = mk ((x ++ y).take ((sideL (x ++ y) (y ++ x) 0).2 + 1).toNat) := by
  have hp := place_lt W h0
  have := slice_to (x ++ y) ((sideL (x ++ y) (y ++ x) 0).2 + 1).toNat (by rw [List.length_append]; omega)
  rw [Int.toNat_of_nonneg (by omega)] at this
  rw [mk_app]; exact this
end
local macro_rules | `(tactic| walk_at "compareOp Eq ref ref") => `(tactic| refine hold ?_)
local macro_rules | `(tactic| walk_at "eval ListComp") => `(tactic| (k_here; (k_dflt (refine LCg.ListComp_U (F₀ := by k_asm) (by with_unfolding_all rfl) (by decide) (by rfl) (by decide) (by rfl) ?_))))
set_option tactic.hygienic false in
theorem law_p : law_o.1.1 := by
  intro w
  intros
  revert FF NN
  repeat (rename Fr _ _ _ _ => Fz; clear Fz)
  repeat (rename News _ _ _ _ => Fz; clear Fz)
  intro FF NN
  rename (Prod.fst _ ≠ (0 : Int)) => hs0
  rename (Prod.fst _ = (-1 : Int)) => hs1
  have hsl := slice_mark0 WW hs0
  rw [hsl]
  replace NN := drop (news := [(DTo, _), (98, _), (D, _), (l', _), (q12, _), (q11, _), (q10, _), (q7, _), (q4, _), (126, _)]) NN (by walk_at "mine sub")
  rename Dst _ => SP
  replace SP : Dst [DTo, 98, D, l', q12, q11, q10, q7, q4, 126] := by walk_at "mine dst"
  k_steps
  refine Hold.out ?_
  rename Fr _ _ _ _ => FF
  rename News _ _ _ _ => NN
  refine' LCg.CompSrc.ledger rfl ?kF ?kN ?kM ?kz ?_
  case kF => exact FF
  case kN => exact NN
  case kM => k_mem
  case kz => rw [List.size_toArray, htl8, sizeLine_eq]; omega
  intro g9
  refine' comp_ind 8 (fun j us nw => nw = ?NW ∧ IntsAre us (List.map (fun d : Int => (readN x y ((y ++ x).take ((sideL (x ++ y) (y ++ x) 0).2 + 1).toNat) 0 (msgI x y d) 3).2) (ds.take j))) ?st ?fin _ 0 [] _ (by rw [List.size_toArray, htl8]) ⟨rfl, .nil⟩
  case st =>
    rintro j us9 nw9 hj ⟨rfl, hus9⟩ v I oI C oC D9 m₂ h tk E' hv hC hx9 F9 N9 off ne
    obtain ⟨d, t, rfl, hd⟩ := strs_at htd (by simpa using hv)
    clear FF NN
    k_steps
    refine Hold.out ?_
    rename Fr _ _ _ _ => F5
    rename News _ _ _ _ => N5
    have hw := word_small WW
    refine' SpecR.outQ (read_spec w 0 (by decide) (by decide) (msgI x y d) x y _ l' _ _ t9_1 t9z_1 _ (msgs_smallM WW d) hw.1 hw.2) B' F5 X' N5 T' rfl rfl ?hd ?hu rfl ?kp ?ka ?ko ?_
    walk_at "mine nums"
    case kp => walk_at "mine picks"
    case ka => exact True.intro
    case ko => exact fun N A => ⟨_, rest_hid N A (by k_mem), rfl, _, rfl⟩
    k_whole
    rintro v news' h3 tk3 ⟨t7, rfl, rfl⟩ F3 N3 A3
    refine ⟨_, _, _, rfl, F3, N3, off, .inr ⟨_, by k_mem, rfl, _, rfl⟩, rfl, ?_⟩
    rw [List.take_add_one, hd, List.map_append]
    exact ints_snoc hus9
  case fin =>
    rintro us9 nw ⟨rfl, hus9⟩
    rw [show ds.take 8 = ds from List.take_of_length_le (by omega)] at hus9
    intro DR h9 tk9 F9 N9 off9
    clear FF NN
    (try dsimp only)
    k_steps
    refine Hold.out ?_
    rename Fr _ _ _ _ => FF
    rename News _ _ _ _ => NN
    have e12 : List.map (fun d : Int => (readN x y ((y ++ x).take ((sideL (x ++ y) (y ++ x) 0).2 + 1).toNat) 0 (msgI x y d) 3).2) ds = ds := by
      rw [List.map_congr_left (g := id) (fun d hd => by
        obtain ⟨i, hi, rfl⟩ := WW.ds_mem d hd
        exact WW.read0 hs1 hi), List.map_id]
    refine' eq_ints NN ?h1 ?h2 hus9 hds e12 (Nat.le_of_ble_eq_true rfl) ?_
    case h1 => k_mem
    case h2 => k_mem
    walk1
    · refine goodW_bool FF hg (fun _ => rfl) ?_
      refine' postW_of ?s ?v ?e
      case s => o_shape
      case v => wtm_val
      case e => w_fin
    · exact ⟨GrownAt.of NN (by k_mem), GrownAt.of NN (by k_mem), True.intro⟩
end
end
section
open PySem PySem.W PyProof.Rows
local macro_rules | `(tactic| walk_at "mine pad") => `(tactic| fail)
theorem Mine.rst_L18 : True ∧ True := by
  w_top off
  first | (walk1; all_goals exact True.intro) | exact ⟨True.intro, True.intro⟩
end
section
open PySem PySem.W PySem.Calls PyProof.Rows
section
local macro_rules | `(tactic| ktn_lt) => `(tactic| first | exact Fnd.z | (refine' Fnd.s ?fs; (case fs => ktn_lt)))
local macro_rules | `(tactic| walk_at "compareOp Eq ref ref") => `(tactic| refine hold ?_)
local macro_rules | `(tactic| walk_at "eval ListComp") => `(tactic| (k_here; (k_dflt (refine LCg.ListComp_U (F₀ := by k_asm) (by with_unfolding_all rfl) (by decide) (by rfl) (by decide) (by rfl) ?_))))
set_option tactic.hygienic false in
theorem law_q : law_o.1.2 := by
  intro w
  intros
  revert FF NN
  repeat (rename Fr _ _ _ _ => Fz; clear Fz)
  repeat (rename News _ _ _ _ => Fz; clear Fz)
  intro FF NN
  rename (Prod.fst _ ≠ (0 : Int)) => hs0
  rename (Prod.fst _ ≠ (-1 : Int)) => hs1
  have hsl := slice_mark1 WW hs0
  rw [hsl]
  replace NN := drop (news := [(DTo, _), (98, _), (D, _), (l', _), (q12, _), (q11, _), (q10, _), (q7, _), (q4, _), (126, _)]) NN (by walk_at "mine sub")
  rename Dst _ => SP
  replace SP : Dst [DTo, 98, D, l', q12, q11, q10, q7, q4, 126] := by walk_at "mine dst"
  k_steps
  refine Hold.out ?_
  rename Fr _ _ _ _ => FF
  rename News _ _ _ _ => NN
  refine' LCg.CompSrc.ledger rfl ?kF ?kN ?kM ?kz ?_
  case kF => exact FF
  case kN => exact NN
  case kM => k_mem
  case kz => rw [List.size_toArray, htl8, sizeLine_eq]; omega
  intro g9
  refine' comp_ind 8 (fun j us nw => nw = ?NW ∧ IntsAre us (List.map (fun d : Int => (readN x y ((x ++ y).take ((sideL (x ++ y) (y ++ x) 0).2 + 1).toNat) 1 (msgI x y d) 3).2) (ds.take j))) ?st ?fin _ 0 [] _ (by rw [List.size_toArray, htl8]) ⟨rfl, .nil⟩
  case st =>
    rintro j us9 nw9 hj ⟨rfl, hus9⟩ v I oI C oC D9 m₂ h tk E' hv hC hx9 F9 N9 off ne
    obtain ⟨d, t, rfl, hd⟩ := strs_at htd (by simpa using hv)
    clear FF NN
    k_steps
    refine Hold.out ?_
    rename Fr _ _ _ _ => F5
    rename News _ _ _ _ => N5
    have hw := word_small WW
    refine' SpecR.outQ (read_spec w 1 (by decide) (by decide) (msgI x y d) x y _ l' _ _ t9_1 t9z_1 _ (msgs_smallM WW d) hw.1 hw.2) B' F5 X' N5 T' rfl rfl ?hd ?hu rfl ?kp ?ka ?ko ?_
    walk_at "mine nums"
    case kp => walk_at "mine picks"
    case ka => exact True.intro
    case ko => exact fun N A => ⟨_, rest_hid N A (by k_mem), rfl, _, rfl⟩
    k_whole
    rintro v news' h3 tk3 ⟨t7, rfl, rfl⟩ F3 N3 A3
    refine ⟨_, _, _, rfl, F3, N3, off, .inr ⟨_, by k_mem, rfl, _, rfl⟩, rfl, ?_⟩
    rw [List.take_add_one, hd, List.map_append]
    exact ints_snoc hus9
  case fin =>
    rintro us9 nw ⟨rfl, hus9⟩
    rw [show ds.take 8 = ds from List.take_of_length_le (by omega)] at hus9
    intro DR h9 tk9 F9 N9 off9
    clear FF NN
    (try dsimp only)
    k_steps
    refine Hold.out ?_
    rename Fr _ _ _ _ => FF
    rename News _ _ _ _ => NN
    have e12 : List.map (fun d : Int => (readN x y ((x ++ y).take ((sideL (x ++ y) (y ++ x) 0).2 + 1).toNat) 1 (msgI x y d) 3).2) ds = ds := by
      rw [List.map_congr_left (g := id) (fun d hd => by
        obtain ⟨i, hi, rfl⟩ := WW.ds_mem d hd
        exact WW.read1 hs1 hs0 hi), List.map_id]
    refine' eq_ints NN ?h1 ?h2 hus9 hds e12 (Nat.le_of_ble_eq_true rfl) ?_
    case h1 => k_mem
    case h2 => k_mem
    walk1
    · refine goodW_bool FF hg (fun _ => rfl) ?_
      refine' postW_of ?s ?v ?e
      case s => o_shape
      case v => wtm_val
      case e => w_fin
    · exact ⟨GrownAt.of NN (by k_mem), GrownAt.of NN (by k_mem), True.intro⟩
end
end
end
end
end
end Mine
end
namespace Mine
theorem law_all : PySem.Challenge.rw_ph0025_01.Holds := law_walk.2 ⟨law_a.2 ⟨law_b.2 ⟨law_c.2 ⟨law_d.2 ⟨law_e.2 ⟨law_f.2 ⟨law_g.2 ⟨law_h.2 ⟨law_i.2 ⟨law_j.2 ⟨law_k.2 ⟨law_l.2 ⟨law_m.2 ⟨law_n⟩ ⟨law_o.2 ⟨law_p⟩ ⟨law_q⟩⟩⟩⟩⟩⟩⟩⟩⟩⟩⟩⟩⟩⟩⟩
end Mine
theorem PySem.Challenge.cw_ph0025_01_holds : PySem.Challenge.rw_ph0025_01.Holds := by
  exact Mine.law_all
