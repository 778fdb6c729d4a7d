import PyProof.Rows.All
import Wide.All
import OpenK.AllK
import Wide.FinOn
import Lean
import PySem.Challenge.RW_ey0011_01
set_option Elab.async false

-- part HD
section
open PySem PySem.W PyProof.Rows
set_option maxRecDepth 100000
set_option maxHeartbeats 8000000
namespace Mine
open_top hd for PySem.Challenge.rw_ey0011_01
end Mine
end

-- part Base
section
open PySem PySem.W PySem.Spec PySem.Calls PyProof.Rows
set_option maxRecDepth 100000
namespace Mine

abbrev Led := List (Addr × Obj)

structure Made (h h' : Heap) (tl : Led) : Prop where
  keep : ∀ b o, h.get? b = some o → h'.get? b = some o
  new : ∀ p ∈ tl, h'.get? p.1 = some p.2 ∧ h.get? p.1 = none

theorem Made.refl (h : Heap) : Made h h [] := ⟨fun _ _ e => e, fun _ hp => nomatch hp⟩
theorem Made.fr {h₀ h h' : Heap} {L : Addr} {m : Str → Option Value} {tl : Led} (M : Made h h' tl) (F : Fr h₀ L h m) : Fr h₀ L h' m := F.keeps M.keep
theorem Made.news {h₀ h h' : Heap} {L : Addr} {m : Str → Option Value} {tl news : Led} (M : Made h h' tl) (F : Fr h₀ L h m) (N : News h₀ L h news) : News h₀ L h' (tl ++ news) := fun p hp => by
  rcases List.mem_append.mp hp with hp | hp
  · have z := M.new p hp
    refine ⟨z.1, fun e => ?_, ?_⟩
    · obtain ⟨o, _, _, ho, _⟩ := F.ns
      rw [← e, z.2] at ho; cases ho
    · cases q : h₀.get? p.1 with
      | none => rfl
      | some o => rw [F.keep _ _ q] at z; cases z.2
  · exact ⟨M.keep _ _ (N p hp).1, (N p hp).2⟩
theorem Made.apart {h₀ h h' : Heap} {L : Addr} {tl news : Led} (M : Made h h' tl) (N : News h₀ L h news) : ∀ p ∈ tl, ∀ q ∈ news, q.1 ≠ p.1 := fun p hp q hq e => by
  have a := (N q hq).1; have b := (M.new p hp).2; rw [e, b] at a; cases a

def Gives {α : Type} (M : Model) (A : Around) (s : Shared) (t : Sem α) (P : Led → α → Prop) : Prop :=
  ∀ (Q : α → Shared → Prop) (E : Value → Shared → Prop), (∀ v h' tk tl, Made s.heap h' tl → P tl v → Q v { s with heap := h', toks := tk }) → wpAny M A t Q E s

theorem Gives.use {α : Type} {M : Model} {A : Around} {s : Shared} {t : Sem α} {P : Led → α → Prop} {h₀ : Heap} {L : Addr} {m : Str → Option Value} {news : Led} {Q : α → Shared → Prop} {E : Value → Shared → Prop}
    (G : Gives M A s t P) (F : Fr h₀ L s.heap m) (N : News h₀ L s.heap news)
    (h : ∀ v h' tk tl, Fr h₀ L h' m → News h₀ L h' (tl ++ news) → (∀ p ∈ tl, ∀ q ∈ news, q.1 ≠ p.1) → P tl v → Q v { s with heap := h', toks := tk }) : wpAny M A t Q E s :=
  G Q E fun v h' tk tl hm hp => h v h' tk tl (hm.fr F) (hm.news F N) (hm.apart N) hp

def FnEnd (s : Shared) (P : Led → Value → Prop) (fl : Flow) (s' : Shared) : Prop :=
  ∃ L m h' tk tl, s' = { s with heap := h', toks := tk } ∧ Fr s.heap L h' m ∧ News s.heap L h' tl ∧ P tl (match fl with | .ret v => v | _ => .none)

theorem FnEnd.intro {s : Shared} {P : Led → Value → Prop} {v : Value} {L : Addr} {m : Str → Option Value} {h' : Heap} {tk : Nat} {tl : Led} (F : Fr s.heap L h' m) (N : News s.heap L h' tl) (h : P tl v) : FnEnd s P (.ret v) { s with heap := h', toks := tk } :=
  ⟨L, m, h', tk, tl, rfl, F, N, h⟩

section
variable {prog : Program} {w : World} {A : Around} {s : Shared} {K : Frag}
theorem Gives.enter {P : Led → Value → Prop} {name qual : Str} {params : Arguments} {body : List Stmt} {scope : Scope} {dV kV doc pm cdv ct oc : Value} {an od : Option Addr} {osl : Array (Option Value)} {f : Addr} {args : List Value} {binds : List (Str × Value)}
    (X : K.In s.heap) (hlim : s.heap.NoLimit)
    (ho : K.lookup f = some ⟨oc, od, .func (fnOf name qual params body scope dV kV doc pm an cdv ct), osl⟩) (hcd : codeIn K cdv qual = true) (hroom : A.depth < recursionLimit)
    (hbind : BindsTo s (fnOf name qual params body scope dV kV doc pm an cdv ct) ⟨args, []⟩ binds) (hloc : ∀ y ∈ binds, scope.names.lookup y.1 = some .local)
    (h : ∀ L h₁ tk, Fr s.heap L h₁ (fun y => binds.reverse.lookup y) → News s.heap L h₁ [] →
      wpAny (model prog w) (A.deeper (envOf qual scope L f cdv)) (execs body (envOf qual scope L f cdv)) (FnEnd s P) (fun _ _ => False) { s with heap := h₁, toks := tk })
    (hco : scope.isCoroutine = false := by rfl) (hgen : scope.isGenerator = false := by rfl) (hk : scope.kind = .function := by rfl)
    (hcell : ∀ x ∈ scope.names, x.2 ≠ .cell := by decide) : Gives (model prog w) A s (call (.ref f) args) P := by
  intro Q E hQ
  refine wpAny_call (codeAny_call_def (fd := fnOf name qual params body scope dV kV doc pm an cdv ct) (body := body) (binds := binds) hroom (X _ _ ho) rfl hlim (codeRec_of X hcd) rfl hbind hcell hloc (fun h₁ hns hk₁ => ?_) hco hgen hk)
  refine wpAny_mono (h s.heap.objs.size h₁ _ ⟨hns, hk₁, Nat.le_refl _⟩ News.nil) (fun fl s' hl => ?_) fun _ _ y => y.elim
  obtain ⟨L, m, h', tk, tl, rfl, F, N, hP⟩ := hl
  exact hQ _ h' tk tl ⟨F.keep, fun p hp => ⟨(N p hp).1, (N p hp).2.2⟩⟩ hP
end

end Mine
end

-- part Comp
section
open PySem PySem.W PySem.Spec PySem.Calls PyProof.Rows PyProof.Rows.LCg
set_option maxRecDepth 100000
namespace Mine

/-- what iter() of xv gives in state s: n items, P of each; G holds of the iterator while it runs -/
def Src (prog : Program) (w : World) (A : Around) (xv : Value) (s : Shared) (n : Nat) (P : Nat → Value → Prop) (G : Addr → Heap → Prop) : Prop :=
  ∀ (Q : Value → Shared → Prop) (E : Value → Shared → Prop),
    (∀ fp St oI, Walks prog w A s.heap.objs.size fp [s.heap.objs.size] n P St → St 0 (s.heap.push oI) → oI.isFreed = false → (∀ b ∈ fp, b = s.heap.objs.size ∨ ∃ o, s.heap.get? b = some o) →
      (∀ i h, St i h → G s.heap.objs.size h) → (∀ i h, St i h → ∃ o, h.get? s.heap.objs.size = some o) → Q (.ref s.heap.objs.size) { s with heap := s.heap.push oI }) → wpAny (model prog w) A (pyIter xv) Q E s

section
variable {prog : Program} {w : World} {A : Around} {s : Shared}
theorem Src.list {ax : Addr} {its : Array Value} (hh : A.handled = none) (hl : s.heap.IsList ax its) :
    Src prog w A (.ref ax) s its.size (fun i v => its[i]? = some v) (fun I h => ∃ l j, h.IsListIter I l j) := by
  intro Q E hQ
  have hlt : ax < s.heap.objs.size := by obtain ⟨_, e, _⟩ := hl; exact Heap.lt_size e
  refine wpAny_pyIter_list hl (hQ _ _ _ (Walks.list hh s.heap.objs.size ax (Nat.ne_of_lt hlt) its) ⟨⟨_, Heap.get?_push_size _ rfl, rfl, rfl⟩, hl.push _⟩ rfl (fun b hb => ?_) (fun i h st => ⟨_, _, st.1⟩) (fun i h st => by obtain ⟨o, e, _⟩ := st.1; exact ⟨o, e⟩))
  rcases List.mem_cons.mp hb with rfl | hb
  · exact .inl rfl
  · rw [List.mem_singleton.mp hb]; obtain ⟨o, e, _⟩ := hl; exact .inr ⟨o, e⟩
theorem Src.range {r : Addr} {a b : Int} {t u v : Tok} {n : Nat} (hh : A.handled = none) (hr : IsRange s.heap r a b 1 t u v) (hsm : Builtin.Range.small a b 1 = true) (hn : Builtin.Range.rangeSize a b 1 = ((n : Nat) : Int)) :
    Src prog w A (.ref r) s n (fun i v => ∃ t, v = .int (a + (i : Int)) t) (fun _ _ => True) := by
  intro Q E hQ
  refine wpAny_pyIter_range hr hsm (hQ _ _ _ (range_walks hh a n) (by show IsRangeIter _ _ _ _ _; rw [hn]; simpa using Heap.get?_push_size _ rfl) rfl (fun b hb => .inl (List.mem_singleton.mp hb)) (fun _ _ _ => trivial) (fun i h st => ⟨_, st⟩))
end

def TEnd (s₁ : Shared) (H : Heap) (C I D : Addr) (oI : Obj) (ys : List Value) (J : Nat → List Value → Led → Prop) (i : Nat) (yo : Option Value) (s₄ : Shared) : Prop :=
  ∃ h' tk m' tl', s₄ = { s₁ with heap := h', toks := tk } ∧ Fr H C h' m' ∧ News H C h' ((I, oI) :: (D, lst ys) :: tl') ∧ (∀ p ∈ tl', p.1 ≠ I ∧ p.1 ≠ D) ∧ J (i + 1) (ys ++ yo.toList) tl'

section
variable {prog : Program} {w : World} {A : Around} {E : Value → Shared → Prop} {s : Shared}

theorem compLoop_any {elt target iter : Expr} {ifs : List Expr} {scope : Scope} {pos : Pos} {it acc : Value} {env : Env} {R : Result → Shared → Prop} (I : Nat → Shared → Prop)
    (turn : ∀ n s, I n s → wpAny (model prog w) A (pyNext it) (fun r s₁ => match r with
      | none => R (.ok .next) s₁
      | some v => wpAny (model prog w) A (letOwnedTupleGo target it v) (fun _ s₀ => wpAny (model prog w) A (assign target env v) (fun _ s₂ =>
          wpAny (model prog w) A (forIn ifs true fun c r => if r = true then do let ok ← isTrue c env (eval c env); pure (ForInStep.yield ok) else pure (ForInStep.yield r)) (fun ok s₃ =>
            if ok = true then wpAny (model prog w) A (eval elt env) (fun x s₄ =>
              wpAny (model prog w) A (call (.builtin "list.append") [acc, x]) (fun _ s₅ => ∃ m, m < n ∧ I m s₅) (fun _ _ => False) s₄) (fun _ _ => False) s₃
            else ∃ m, m < n ∧ I m s₃) (fun _ _ => False) s₂) (fun _ _ => False) s₀) (fun _ _ => False) s₁) (fun _ _ => False) s)
    (n : Nat) (h : I n s) : codeAny (model prog w) A (.compLoop (.ListComp elt [⟨target, iter, ifs, 0⟩] scope pos) 0 it acc env) R s := by
  refine codeAny_loop rfl I (fun n s hI => ?_) n h
  show wpAny _ A ((compTurn (.ListComp elt [⟨target, iter, ifs, 0⟩] scope pos) 0 it acc env).onRaise (fun x => do noteFrame x env; theTreesLotGoes x)) _ _ s
  refine wpAny_noted ?_
  rw [compTurn_list]
  refine wpAny_bind (wpAny_standAt (wpAny_bind (wpAny_mono (turn n s hI) (fun r s₁ h₁ => ?_) fun _ _ h' => h'.elim)))
  cases r with
  | none => exact wpAny_pure h₁
  | some v =>
    refine wpAny_bind (wpAny_mono h₁ (fun _ s₀ h₀' => ?_) fun _ _ h' => h'.elim)
    refine wpAny_bind (wpAny_mono h₀' (fun _ s₂ h₂ => wpAny_bind (wpAny_mono h₂ (fun ok s₃ h₃ => ?_) fun _ _ h' => h'.elim)) fun _ _ h' => h'.elim)
    cases ok with
    | false => exact wpAny_pure ⟨rfl, h₃⟩
    | true =>
      exact wpAny_bind (wpAny_bind (wpAny_mono h₃ (fun x s₄ h₄ => wpAny_bind (wpAny_mono h₄ (fun _ s₅ h₅ => wpAny_pure (wpAny_pure ⟨rfl, h₅⟩)) fun _ _ h' => h'.elim)) fun _ _ h' => h'.elim))

/-- one turn of a comprehension, from a state whose comprehension frame is C over H -/
def CTurn (prog : Program) (w : World) (A : Around) (target elt : Expr) (ifs : List Expr) (env : Env) (I : Addr) (v : Value) (End : Option Value → Shared → Prop) (s : Shared) : Prop :=
  wpAny (model prog w) A (letOwnedTupleGo target (.ref I) v) (fun _ s₀ => wpAny (model prog w) A (assign target env v) (fun _ s₂ =>
          wpAny (model prog w) A (forIn ifs true fun c r => if r = true then do let ok ← isTrue c env (eval c env); pure (ForInStep.yield ok) else pure (ForInStep.yield r)) (fun ok s₃ =>
            if ok = true then wpAny (model prog w) A (eval elt env) (fun x s₄ => End (some x) s₄) (fun _ _ => False) s₃
            else End none s₃) (fun _ _ => False) s₂) (fun _ _ => False) s₀) (fun _ _ => False) s

theorem comp {env : Env} {elt target iter : Expr} {ifs : List Expr} {scope : Scope} {cl : List (Str × Addr)} {pos : Pos} {Q : Value → Shared → Prop}
    (hclos : closureFor scope env = pure cl) (hcell : ∀ y ∈ scope.names, y.2 ≠ .cell) (hkind : scope.kind = .function)
    (hnames : ∀ y ∈ scope.names, y.2 = .local → scope.names.lookup y.1 = some .local)
    (h : wpAny (model prog w) A (eval iter env) (fun xv s₁ => ∃ n P G J, n ≤ sizeLine ∧ Src prog w A xv s₁ n P G ∧ J 0 [] [] ∧
        (∀ C I D i v ys tl h tk m₁ oI, i < n → P i v → J i ys tl → Fr s₁.heap C h m₁ → News s₁.heap C h ((I, oI) :: (D, lst ys) :: tl) → I ≠ D → (∀ p ∈ tl, p.1 ≠ I ∧ p.1 ≠ D) → G I h →
          CTurn prog w A target elt ifs (compEnvC scope cl C env) I v (TEnd s₁ s₁.heap C I D oI ys J i) { s₁ with heap := h, toks := tk }) ∧
        (∀ h' tk D ys tl, Made s₁.heap h' ((D, lst ys) :: tl) → J n ys tl → Q (.ref D) { s₁ with heap := h', toks := tk })) E s)
    (hs : ∀ x, foldedSetIterable iter env x = pure x := by intro _; rfl) :
    wpAny (model prog w) A (eval (.ListComp elt [⟨target, iter, ifs, 0⟩] scope pos) env) Q E s := by
  rw [eval_ListComp]
  refine wpAny_comprehension_free (use := none) rfl hs hclos hkind hnames (wpAny_mono h (fun xv s₁ h₁ => ?_) fun _ _ e => e)
  obtain ⟨n, P, G, J, hsz, src, hJ0, turn, done⟩ := h₁
  refine src _ _ fun fp St oI W hst hoI hfp hG hIo => ?_
  generalize hI : s₁.heap.objs.size = I at *
  refine wpAny_newObj_type (wpAny_newFunctionEnv hcell (by intro y hy; simp at hy) (fun h₁ hns₁ hsb₁ => ?_) hkind)
  dsimp only at hns₁ hsb₁ ⊢
  generalize hH2 : (s₁.heap.push oI).push { cls := .type "list", dict := none, data := .seq ([] : List Value).toArray } = H2 at hns₁ hsb₁ ⊢
  have hD : (s₁.heap.push oI).objs.size = I + 1 := by rw [Heap.size_push, hI]
  have hC : H2.objs.size = I + 2 := by rw [← hH2, Heap.size_push, hD]
  rw [hD]
  rw [hC] at hns₁ hsb₁ ⊢
  have up : ∀ (b : Nat) o, s₁.heap.get? b = some o → b < I := fun b o e => hI ▸ Heap.lt_size e
  have old : ∀ b o, s₁.heap.get? b = some o → h₁.get? b = some o := fun b o e =>
    hsb₁.extBut b o (neN (by have := up b o e; omega)) (Heap.get?_push_of_some _ (hH2 ▸ Heap.get?_push_of_some _ (Heap.get?_push_of_some _ e)))
  have hIat : (s₁.heap.push oI).get? I = some oI := by rw [← hI]; exact Heap.get?_push_size _ hoI
  have hI₁ : h₁.get? I = some oI := hsb₁.extBut _ _ (neN (by omega)) (Heap.get?_push_of_some _ (hH2 ▸ Heap.get?_push_of_some _ hIat))
  have hD₁ : h₁.get? (I + 1) = some (lst []) := hsb₁.extBut _ _ (neN (by omega)) (Heap.get?_push_of_some _ (hH2 ▸ (by rw [← hD]; exact Heap.get?_push_size _ rfl)))
  have fresh : ∀ (a : Nat), I ≤ a → s₁.heap.get? a = none := fun a ha => by
    cases e : s₁.heap.get? a with
    | none => rfl
    | some o' => exact absurd (up _ _ e) (by omega)
  have stf : ∀ i h h', St i h → (∀ o, h.get? I = some o → h'.get? I = some o) → (∀ b o, s₁.heap.get? b = some o → h.get? b = some o) → (∀ b o, s₁.heap.get? b = some o → h'.get? b = some o) → St i h' := fun i h h' st e k k' =>
    W.frame i h h' st fun b hb o eo => by
      rcases hfp b hb with rfl | ⟨o', e'⟩
      · exact e o eo
      · rw [k _ _ e'] at eo; cases eo; exact k' _ _ e'
  have hst₁ : St 0 h₁ := stf _ _ _ hst (fun o e => by rw [hIat] at e; cases e; exact hI₁) (fun b o e => Heap.get?_push_of_some _ e) old
  have F₁ : Fr s₁.heap (I + 2) h₁ (fun x => (([] : List (Str × Value)).reverse.lookup x)) := ⟨hns₁, old, by omega⟩
  have loop : ∀ s₃ : Shared, s₃ = { s₁ with heap := h₁, toks := s₁.toks + ([] : List (Str × Value)).length } →
      codeAny (model prog w) A (.compLoop (.ListComp elt [⟨target, iter, ifs, 0⟩] scope pos) 0 (.ref I) (.ref (I + 1)) (compEnvC scope cl (I + 2) env)) (compPost (model prog w) A E none Q (.ref (I + 1)) (I + 2)) s₃ := by
    rintro s₃ rfl
    refine compLoop_any
      (fun k s' => ∃ h' tk i ys m' tl oI', s' = { s₁ with heap := h', toks := tk } ∧ i ≤ n ∧ k = n + 1 - i ∧ ys.length ≤ i ∧ St i h' ∧ Fr s₁.heap (I + 2) h' m' ∧ News s₁.heap (I + 2) h' ((I, oI') :: (I + 1, lst ys) :: tl) ∧ (∀ p ∈ tl, p.1 ≠ I ∧ p.1 ≠ I + 1) ∧ J i ys tl) ?_ (n + 1)
      ⟨h₁, _, 0, [], _, [], oI, rfl, Nat.zero_le _, rfl, Nat.le_refl _, hst₁, F₁, ?_, (fun p hp => nomatch hp), hJ0⟩
    · rintro k s' ⟨h', tk, i, ys, m', tl, oI', rfl, hi, rfl, hyl, hst', F', N', off', hJ⟩
      have zD' := N' (I + 1, lst ys) (.tail _ (.head _))
      have moved : ∀ h₂, (∀ b o, b ∉ [I] → h'.get? b = some o → h₂.get? b = some o) → Fr s₁.heap (I + 2) h₂ m' ∧ h₂.get? (I + 1) = some (lst ys) ∧ ∀ p ∈ tl, h₂.get? p.1 = some p.2 := fun h₂ hk => by
        refine ⟨⟨F'.ns.at' fun o e => hk _ o (by rw [List.mem_singleton]; exact neN (show I + 2 ≠ I by omega)) e, fun b o e => hk b o (by have := up _ _ e; rw [List.mem_singleton]; exact neN (by omega)) (F'.keep b o e), F'.above⟩, hk _ _ (by rw [List.mem_singleton]; exact neN (show I + 1 ≠ I by omega)) zD'.1, fun p hp => hk _ _ (by simpa using (off' p hp).1) (N' p (.tail _ (.tail _ hp))).1⟩
      by_cases hlt : i < n
      · refine W.item i _ _ _ hlt hst' fun v h₂ tk₂ hPv hst₂ hk₂ => ?_
        obtain ⟨F₂, hD₂, htl₂⟩ := moved h₂ hk₂
        obtain ⟨oI₂, hI₂⟩ := hIo _ _ hst₂
        have N₂ : News s₁.heap (I + 2) h₂ ((I, oI₂) :: (I + 1, lst ys) :: tl) := fun p hp => by
          rcases List.mem_cons.mp hp with rfl | hp
          · exact ⟨hI₂, neN (show I ≠ I + 2 by omega), fresh _ (Nat.le_refl _)⟩
          rcases List.mem_cons.mp hp with rfl | hp
          · exact ⟨hD₂, zD'.2⟩
          · exact ⟨htl₂ p hp, (N' p (.tail _ (.tail _ hp))).2⟩
        have fin : ∀ yo s₄, TEnd s₁ s₁.heap (I + 2) I (I + 1) oI₂ ys J i yo s₄ → match yo with
            | some y => wpAny (model prog w) A (call (.builtin "list.append") [.ref (I + 1), y]) (fun _ s₅ => ∃ m, m < n + 1 - i ∧ ∃ h' tk i ys m' tl oI', s₅ = { s₁ with heap := h', toks := tk } ∧ i ≤ n ∧ m = n + 1 - i ∧ ys.length ≤ i ∧ St i h' ∧ Fr s₁.heap (I + 2) h' m' ∧ News s₁.heap (I + 2) h' ((I, oI') :: (I + 1, lst ys) :: tl) ∧ (∀ p ∈ tl, p.1 ≠ I ∧ p.1 ≠ I + 1) ∧ J i ys tl) (fun _ _ => False) s₄
            | none => ∃ m, m < n + 1 - i ∧ ∃ h' tk i ys m' tl oI', s₄ = { s₁ with heap := h', toks := tk } ∧ i ≤ n ∧ m = n + 1 - i ∧ ys.length ≤ i ∧ St i h' ∧ Fr s₁.heap (I + 2) h' m' ∧ News s₁.heap (I + 2) h' ((I, oI') :: (I + 1, lst ys) :: tl) ∧ (∀ p ∈ tl, p.1 ≠ I ∧ p.1 ≠ I + 1) ∧ J i ys tl := by
          rintro yo s₄ ⟨h₄, tk₄, m₄, tl₄, rfl, F₄, N₄, off₄, hJ₄⟩
          have zI := N₄ (I, oI₂) (.head _)
          have zD := N₄ (I + 1, lst ys) (.tail _ (.head _))
          have hst₄ : St (i + 1) h₄ := stf _ _ _ hst₂ (fun o e => by rw [hI₂] at e; cases e; exact zI.1) F₂.keep F₄.keep
          cases yo with
          | none => exact ⟨n + 1 - (i + 1), by omega, h₄, tk₄, i + 1, ys, m₄, tl₄, oI₂, rfl, hlt, rfl, Nat.le_succ_of_le hyl, hst₄, F₄, N₄, off₄, by simpa using hJ₄⟩
          | some y =>
            refine append_at (hsz := by show ys.toArray.size ≤ sizeLine; rw [List.size_toArray]; exact Nat.le_trans hyl (Nat.le_trans hi hsz)) zD.1 fun h₅ hs₅ hD₅ => ?_
            have F₅ : Fr s₁.heap (I + 2) h₅ m₄ := F₄.change hs₅ zD.2.1 zD.2.2
            refine ⟨n + 1 - (i + 1), by omega, h₅, tk₄, i + 1, ys ++ [y], m₄, tl₄, oI₂, rfl, hlt, rfl, by rw [List.length_append, List.length_singleton]; exact Nat.succ_le_succ hyl,
              stf _ _ _ hst₄ (fun o e => hs₅.extBut _ _ (neN (show I ≠ I + 1 by omega)) e) F₄.keep F₅.keep, F₅, fun p hp => ?_, off₄, by simpa using hJ₄⟩
            rcases List.mem_cons.mp hp with rfl | hp
            · exact ⟨hs₅.extBut _ _ (neN (show I ≠ I + 1 by omega)) zI.1, zI.2⟩
            rcases List.mem_cons.mp hp with rfl | hp
            · exact ⟨hD₅.trans (congrArg some (lst_snoc ys y)), zD.2⟩
            · exact ⟨hs₅.extBut _ _ (off₄ p hp).2 (N₄ p (.tail _ (.tail _ hp))).1, (N₄ p (.tail _ (.tail _ hp))).2⟩
        refine wpAny_mono (turn (I + 2) I (I + 1) i v ys tl h₂ tk₂ m' oI₂ hlt hPv hJ F₂ N₂ (neN (show I ≠ I + 1 by omega)) off' (hG _ _ hst₂)) (fun _ s₀ h₀ => ?_) fun _ _ e => e
        refine wpAny_mono h₀ (fun _ s₂' h₂' => ?_) fun _ _ e => e
        refine wpAny_mono h₂' (fun ok s₃ h₃ => ?_) fun _ _ e => e
        cases ok with
        | false => simp only [Bool.false_eq_true, if_false] at h₃ ⊢; exact fin none s₃ h₃
        | true => simp only [if_true] at h₃ ⊢; exact wpAny_mono h₃ (fun y s₄ h₄ => fin (some y) s₄ h₄) fun _ _ e => e
      · obtain rfl : i = n := Nat.le_antisymm hi (Nat.not_lt.mp hlt)
        refine W.done _ _ _ hst' fun h₂ tk₂ hk₂ => ?_
        obtain ⟨F₂, hD₂, htl₂⟩ := moved h₂ hk₂
        refine ⟨m', F₂.ns, fun h₃ hs₃ => done h₃ tk₂ (I + 1) ys tl ⟨fun b o e => hs₃.extBut b o (neN (by have := up b o e; omega)) (F₂.keep b o e), fun p hp => ?_⟩ hJ⟩
        rcases List.mem_cons.mp hp with rfl | hp
        · exact ⟨hs₃.extBut _ _ (neN (show I + 1 ≠ I + 2 by omega)) hD₂, zD'.2.2⟩
        · have z := N' p (.tail _ (.tail _ hp))
          exact ⟨hs₃.extBut _ _ z.2.1 (htl₂ p hp), z.2.2⟩
    · intro p hp
      rcases List.mem_cons.mp hp with rfl | hp
      · exact ⟨hI₁, neN (show I ≠ I + 2 by omega), fresh _ (Nat.le_refl _)⟩
      rcases List.mem_cons.mp hp with rfl | hp
      · exact ⟨hD₁, neN (show I + 1 ≠ I + 2 by omega), fresh _ (Nat.le_succ _)⟩
      · cases hp
  exact codeAny_compStart_list (loop _ rfl) (W.self 0 _ _ _ hst₁ (loop _ rfl))
end
end Mine
end

-- part Pair
section
open PySem PySem.W PySem.Spec PySem.Calls PyProof.Rows PyProof.Rows.LCg
set_option maxRecDepth 100000
namespace Mine

abbrev Lk := Addr → Obj → Prop
abbrev inH (h : Heap) : Lk := fun a o => h.get? a = some o
abbrev inL (tl : Led) : Lk := fun a o => (a, o) ∈ tl
abbrev tupO (its : Array Value) (n : Nat) : Obj := { cls := .type "tuple", data := .seq its n }
abbrev Fld := Str × Int

def IsPair (lk : Lk) (v : Value) (p : Fld) : Prop := ∃ a n t u, v = .ref a ∧ lk a (tupO #[.str p.1 t, .int p.2 u] n)
theorem IsPair.mono {lk lk' : Lk} (h : ∀ a o, lk a o → lk' a o) {v p} (x : IsPair lk v p) : IsPair lk' v p := let ⟨a, n, t, u, e, z⟩ := x; ⟨a, n, t, u, e, h _ _ z⟩
theorem paired_mono {α β : Type} {F G : α → β → Prop} (h : ∀ a b, F a b → G a b) : ∀ {l₁ : List α} {l₂ : List β}, Paired F l₁ l₂ → Paired G l₁ l₂
  | _, _, .nil => .nil
  | _, _, .cons a t => .cons (h _ _ a) (paired_mono h t)
theorem paired_get {α β : Type} {F : α → β → Prop} : ∀ {l₁ : List α} {l₂ : List β}, Paired F l₁ l₂ → ∀ {i : Nat} {a : α}, l₁[i]? = some a → ∃ b, l₂[i]? = some b ∧ F a b
  | _, _, .nil, _, _, h => by simp at h
  | _, _, .cons x _, 0, _, h => by simp at h; subst h; exact ⟨_, rfl, x⟩
  | _, _, .cons _ t, i + 1, _, h => by simpa using paired_get t (i := i) (by simpa using h)
def IsPairs (lk : Lk) (v : Value) (fs : List Fld) : Prop := ∃ a its n, v = .ref a ∧ lk a (listOf its n) ∧ Paired (IsPair lk) its.toList fs
theorem IsPairs.mono {lk lk' : Lk} (h : ∀ a o, lk a o → lk' a o) {v fs} (x : IsPairs lk v fs) : IsPairs lk' v fs := let ⟨a, its, n, e, z, p⟩ := x; ⟨a, its, n, e, h _ _ z, paired_mono (fun _ _ => IsPair.mono h) p⟩
theorem inL_mono {tl tl' : Led} (h : ∀ p ∈ tl, p ∈ tl') : ∀ a o, inL tl a o → inL tl' a o := fun _ _ m => h _ m
theorem Made.lk {h h' : Heap} {tl : Led} (M : Made h h' tl) : ∀ a o, inL tl a o → inH h' a o := fun _ _ m => (M.new _ m).1
theorem news_lk {h₀ h : Heap} {L : Addr} {tl : Led} (N : News h₀ L h tl) : ∀ a o, inL tl a o → inH h a o := fun _ _ m => (N _ m).1

section
variable {prog : Program} {w : World} {A : Around} {s s₁ : Shared} {H h : Heap} {C I D : Addr} {m : Str → Option Value} {news : Led} {x x₂ : Str} {scope : Scope} {cl : List (Str × Addr)} {env : Env} {M : Model} {E : Value → Shared → Prop} {p : Program} {loose : List Str} {mean : ExcName → Option Value} {mg mb : Str → Option Value} {K : Frag}

theorem ldc {x : Str} {pos : Pos} {v : Value} {Q : Value → Shared → Prop} (F : Fr H C s.heap m) (hv : m x = some v) (h : Q v s)
    (hk : (compEnvC scope cl C env).scope.kind = .function := by rfl) (hl : (compEnvC scope cl C env).kindOf x = some .local := by rfl) (hd : (x == ("__debug__" : Str)) = false := by decide) :
    wpAny M A (eval (.Name x pos) (compEnvC scope cl C env)) Q E s := ldVarK F.ns hv h hk hl hd
theorem ldg {x : Str} {pos : Pos} {v : Value} {Q : Value → Shared → Prop} (F : Fr H C s.heap m) (X : K.In H) (T : Top p loose mean mg mb H) (e : nsIn K mainGlobals x = some (some v)) (h : Q v s) (hg : env.globals = mainGlobals := by rfl)
    (hk : (compEnvC scope cl C env).scope.kind = .function := by rfl) (hx : (compEnvC scope cl C env).kindOf x = some .globalImplicit := by rfl) (hd : (x == ("__debug__" : Str)) = false := by decide) :
    wpAny M A (eval (.Name x pos) (compEnvC scope cl C env)) Q E s :=
  Name_function_global hk hx (loadGlobal_global (env := compEnvC scope cl C env) (show s.heap.Ns env.globals mg from hg ▸ (T.keeps F.keep).g) (mg_of X T.g e) h) hd

theorem lds {x : Str} {pos : Pos} {v : Value} {Q : Value → Shared → Prop} (hkind : scope.kind = .function) (hx : scope.names.lookup x = some .local) (F : Fr H C s.heap m) (hv : m x = some v) (h : Q v s)
    (hd : (x == ("__debug__" : Str)) = false := by decide) :
    wpAny M A (eval (.Name x pos) (compEnvC scope cl C env)) Q E s := ldc F hv h (by simp [compEnvC, relabel, hkind]) (lookup_relabel_local hx) hd

theorem TEnd.intro {ys : List Value} {J : Nat → List Value → Led → Prop} {i : Nat} {yo : Option Value} {oI : Obj} {h' : Heap} {tk : Nat} {m' : Str → Option Value} {all : Led} (tl' : Led)
    (F : Fr H C h' m') (N : News H C h' all) (sub : ∀ p ∈ (I, oI) :: (D, lst ys) :: tl', p ∈ all) (off : ∀ p ∈ tl', p.1 ≠ I ∧ p.1 ≠ D) (hJ : J (i + 1) (ys ++ yo.toList) tl') :
    TEnd s₁ H C I D oI ys J i yo { s₁ with heap := h', toks := tk } := ⟨h', tk, m', tl', rfl, F, fun p hp => N p (sub p hp), off, hJ⟩

theorem CTurn.name {px : Pos} {elt : Expr} {v : Value} {End : Option Value → Shared → Prop} (hkind : scope.kind = .function) (hx : scope.names.lookup x = some .local)
    (F : Fr H C s.heap m) (N : News H C s.heap news)
    (k : ∀ h' tk, Fr H C h' (fun y => if y = x then some v else m y) → News H C h' news → wpAny (model prog w) A (eval elt (compEnvC scope cl C env)) (fun y s₄ => End (some y) s₄) (fun _ _ => False) { s with heap := h', toks := tk }) :
    CTurn prog w A (.Name x px) elt [] (compEnvC scope cl C env) I v End s := by
  refine wpAny_pure ?_
  refine wpAny_assign_Name (wpAny_storeName_local (lookup_relabel_local hx) F.ns (fun h₃ hn₃ hs₃ => ?_) (by simp [compEnvC, relabel, hkind]))
  refine wpAny_tests_nil ?_
  simp only [if_true]
  exact k h₃ _ (F.set hn₃ hs₃) (N.set hs₃)

theorem CTurn.nameT {px : Pos} {c elt : Expr} {v : Value} {End : Option Value → Shared → Prop} (hkind : scope.kind = .function) (hx : scope.names.lookup x = some .local)
    (F : Fr H C s.heap m) (N : News H C s.heap news)
    (k : ∀ h' tk, Fr H C h' (fun y => if y = x then some v else m y) → News H C h' news → wpAny (model prog w) A (isTrue c (compEnvC scope cl C env) (eval c (compEnvC scope cl C env))) (fun ok s₃ =>
        if ok = true then wpAny (model prog w) A (eval elt (compEnvC scope cl C env)) (fun y s₄ => End (some y) s₄) (fun _ _ => False) s₃ else End none s₃) (fun _ _ => False) { s with heap := h', toks := tk }) :
    CTurn prog w A (.Name x px) elt [c] (compEnvC scope cl C env) I v End s := by
  refine wpAny_pure ?_
  refine wpAny_assign_Name (wpAny_storeName_local (lookup_relabel_local hx) F.ns (fun h₃ hn₃ hs₃ => ?_) (by simp [compEnvC, relabel, hkind]))
  exact wpAny_tests_one (k h₃ _ (F.set hn₃ hs₃) (N.set hs₃))

theorem pair_assign {env' : Env} {px px₂ tp : Pos} {tk t : Addr} {v₁ v₂ : Value} {Q : Unit → Shared → Prop} (hh : A.handled = none) (hL : env'.locals = C) (hx : env'.kindOf x = some .local) (hx₂ : env'.kindOf x₂ = some .local)
    (hp : (env'.scope.kind == .class || (env'.scope.kind == .module && env'.locals != env'.globals)) = false)
    (F : Fr H C s.heap m) (N : News H C s.heap news) (ht : IsTup s.heap t #[v₁, v₂])
    (k : ∀ h' tk, Fr H C h' (fun y => if y = x₂ then some v₂ else if y = x then some v₁ else m y) → News H C h' news → Q () { s with heap := h', toks := tk }) :
    wpAny (model prog w) A (assign (.Tuple [.Name x px, .Name x₂ px₂] tk tp) env' (.ref t)) Q E s := by
  subst hL
  refine assign_Tuple_tuple hh ht rfl rfl fun h₅ he => ?_
  have he' : ∀ b o, s.heap.get? b = some o → h₅.get? b = some o := fun b o e => he b o (Nat.ne_of_lt (Heap.lt_size e)) e
  have F₅ := F.keeps he'
  have N₅ : News H env'.locals h₅ news := N.grown he'
  refine assignInOrder_cons (wpAny_assign_Name (wpAny_storeName_local hx F₅.ns (fun h₆ hn₆ hs₆ => ?_) hp))
  refine assignInOrder_cons (wpAny_assign_Name (wpAny_storeName_local hx₂ hn₆ (fun h₃ hn₃ hs₃ => ?_) hp))
  refine assignInOrder_nil ?_
  exact k h₃ _ ((F₅.set hn₆ hs₆).set hn₃ hs₃) ((N₅.set hs₆).set hs₃)

theorem CTurn.pair {px px₂ tp : Pos} {tk t : Addr} {elt : Expr} {v₁ v₂ : Value} {End : Option Value → Shared → Prop} (hh : A.handled = none) (hkind : scope.kind = .function) (hx : scope.names.lookup x = some .local) (hx₂ : scope.names.lookup x₂ = some .local)
    (F : Fr H C s.heap m) (N : News H C s.heap news) (hG : ∃ l j, s.heap.IsListIter I l j) (ht : IsTup s.heap t #[v₁, v₂])
    (k : ∀ h' tk, Fr H C h' (fun y => if y = x₂ then some v₂ else if y = x then some v₁ else m y) → News H C h' news → wpAny (model prog w) A (eval elt (compEnvC scope cl C env)) (fun y s₄ => End (some y) s₄) (fun _ _ => False) { s with heap := h', toks := tk }) :
    CTurn prog w A (.Tuple [.Name x px, .Name x₂ px₂] tk tp) elt [] (compEnvC scope cl C env) I (.ref t) End s := by
  obtain ⟨l, j, hit⟩ := hG
  refine wpAny_letOwnedTupleGo_listiter hit ?_
  refine pair_assign (env' := compEnvC scope cl C env) hh rfl (lookup_relabel_local hx) (lookup_relabel_local hx₂) (by simp [compEnvC, relabel, hkind]) F N ht fun h' tk F' N' => ?_
  refine wpAny_tests_nil ?_
  simp only [if_true]
  exact k h' tk F' N'

theorem CTurn.pairT {px px₂ tp : Pos} {tk t : Addr} {c elt : Expr} {v₁ v₂ : Value} {End : Option Value → Shared → Prop} (hh : A.handled = none) (hkind : scope.kind = .function) (hx : scope.names.lookup x = some .local) (hx₂ : scope.names.lookup x₂ = some .local)
    (F : Fr H C s.heap m) (N : News H C s.heap news) (hG : ∃ l j, s.heap.IsListIter I l j) (ht : IsTup s.heap t #[v₁, v₂])
    (k : ∀ h' tk, Fr H C h' (fun y => if y = x₂ then some v₂ else if y = x then some v₁ else m y) → News H C h' news → wpAny (model prog w) A (isTrue c (compEnvC scope cl C env) (eval c (compEnvC scope cl C env))) (fun ok s₃ =>
        if ok = true then wpAny (model prog w) A (eval elt (compEnvC scope cl C env)) (fun y s₄ => End (some y) s₄) (fun _ _ => False) s₃ else End none s₃) (fun _ _ => False) { s with heap := h', toks := tk }) :
    CTurn prog w A (.Tuple [.Name x px, .Name x₂ px₂] tk tp) elt [c] (compEnvC scope cl C env) I (.ref t) End s := by
  obtain ⟨l, j, hit⟩ := hG
  refine wpAny_letOwnedTupleGo_listiter hit ?_
  refine pair_assign (env' := compEnvC scope cl C env) hh rfl (lookup_relabel_local hx) (lookup_relabel_local hx₂) (by simp [compEnvC, relabel, hkind]) F N ht fun h' tk F' N' => ?_
  exact wpAny_tests_one (k h' tk F' N')
end

theorem IsPair.tup {h : Heap} {v : Value} {p : Fld} (x : IsPair (inH h) v p) : ∃ a t u, v = .ref a ∧ IsTup h a #[.str p.1 t, .int p.2 u] := let ⟨a, n, t, u, e, z⟩ := x; ⟨a, t, u, e, _, z, rfl, n, rfl⟩
end Mine
end

-- part Fns1
section
open PySem PySem.W PySem.Spec PySem.Calls PyProof.Rows PyProof.Rows.LCg
set_option maxRecDepth 100000
namespace Mine

theorem take_succ_of {α : Type} {l : List α} {i : Nat} {a : α} (h : l[i]? = some a) : l.take (i + 1) = l.take i ++ [a] := by
  rw [List.take_add_one, h]; rfl

section
variable {prog : Program} {w : World} {A : Around} {s : Shared} {E : Value → Shared → Prop} {env : Env} {scope : Scope} {cl : List (Str × Addr)}
theorem filt_comp {iter : Expr} {p1 p2 p3 p4 p5 p6 p8 p9 p10 pos : Pos} {k k' k2 : Nat} {Q : Value → Shared → Prop} (hh : A.handled = none)
    (hclos : closureFor scope env = pure cl) (hcell : ∀ y ∈ scope.names, y.2 ≠ .cell) (hkind : scope.kind = .function)
    (hnames : ∀ y ∈ scope.names, y.2 = .local → scope.names.lookup y.1 = some .local) (hx : scope.names.lookup (Str.ofString "letter") = some .local) (hx₂ : scope.names.lookup (Str.ofString "length") = some .local)
    (h : wpAny (model prog w) A (eval iter env) (fun xv s₁ => ∃ rows, IsPairs (inH s₁.heap) xv rows ∧ rows.length ≤ 100 ∧
       ∀ h' tk v tl, Made s₁.heap h' tl → IsPairs (inL tl) v (rows.filter fun p => decide (0 < p.2)) → Q v { s₁ with heap := h', toks := tk }) E s)
    (hs : ∀ x, foldedSetIterable iter env x = pure x := by intro _; rfl) :
    wpAny (model prog w) A (eval (.ListComp (.Tuple [.Name (Str.ofString "letter") p1, .Name (Str.ofString "length") p2] k p3)
      [⟨.Tuple [.Name (Str.ofString "letter") p4, .Name (Str.ofString "length") p5] k' p6, iter, [.Compare (.Name (Str.ofString "length") p8) [.Gt] [.Constant (.int 0) k2 p9] p10], 0⟩] scope pos) env) Q E s := by
  refine comp hclos hcell hkind hnames (wpAny_mono h (fun xv s₁ h₁ => ?_) fun _ _ e => e) hs
  obtain ⟨rows, ⟨ax, its, n, rfl, hax, hP⟩, hlen, done⟩ := h₁
  have hl : s₁.heap.IsList ax its := ⟨_, hax, rfl, n, rfl⟩
  have hsz : its.size = rows.length := by rw [← hP.length, Array.length_toList]
  refine ⟨its.size, _, _, fun i ys tl => Paired (IsPair (inL tl)) ys ((rows.take i).filter fun p => decide (0 < p.2)), by rw [hsz, sizeLine_eq]; omega, Src.list hh hl, .nil, ?_, ?_⟩
  · intro C I D i v ys tl hp tk m₁ oI hi hPv hJ F N hID off hG
    obtain ⟨⟨c, x⟩, hr, hp'⟩ := paired_get hP (i := i) (a := v) (by simpa using hPv)
    obtain ⟨t, u, u', rfl, ht⟩ := hp'.tup
    have ht' : IsTup hp t _ := let ⟨o, e, z⟩ := ht; ⟨o, F.keep _ _ e, z⟩
    refine CTurn.pairT hh hkind hx hx₂ F N hG ht' fun h' tk' F' N' => ?_
    refine wpAny_isTrue_Compare1 (lds hkind hx₂ F' (v := .int x u') (by simp) (wpAny_Constant_int (gt_int (wpAny_truthy_bool ?_)))) 
      (by with_unfolding_all rfl)
    have htake := take_succ_of hr
    by_cases hx0 : 0 < x
    · rw [if_pos (by simpa using hx0)]
      refine Tuple_ (spliced_more (lds hkind hx F' (v := .str c u) (by simp; decide) (spliced_more (lds hkind hx₂ F' (v := .int x u') (by simp) (spliced_none ?_)))))
      refine newTuple_N F' N' fun h₂ F₂ N₂ => ?_
      refine TEnd.intro ((h'.objs.size, tupO #[.str c u, .int x u'] 0) :: tl) F₂ N₂ ?_ ?_ ?_
      · intro p hp
        rcases List.mem_cons.mp hp with rfl | hp
        · exact .tail _ (.head _)
        rcases List.mem_cons.mp hp with rfl | hp
        · exact .tail _ (.tail _ (.head _))
        rcases List.mem_cons.mp hp with rfl | hp
        · exact .head _
        · exact .tail _ (.tail _ (.tail _ hp))
      · intro p hp
        rcases List.mem_cons.mp hp with rfl | hp
        · exact ⟨Nat.ne_of_gt (Heap.lt_size (N' _ (.head _)).1), Nat.ne_of_gt (Heap.lt_size (N' _ (.tail _ (.head _))).1)⟩
        · exact off p hp
      · rw [htake, List.filter_append]
        have e : [(c, x)].filter (fun p : Fld => decide (0 < p.2)) = [(c, x)] := by simp [hx0]
        rw [e]
        exact (paired_mono (fun _ _ => IsPair.mono fun _ _ m => .tail _ m) hJ).snoc ⟨_, 0, u, u', rfl, .head _⟩
    · rw [if_neg (by simpa using hx0)]
      refine TEnd.intro tl F' N' (fun _ hp => hp) off ?_
      rw [htake, List.filter_append]
      have e : [(c, x)].filter (fun p : Fld => decide (0 < p.2)) = [] := by simp [hx0]
      rw [e]
      simpa using hJ
  · intro h' tk D ys tl hM hJ
    refine done h' tk (.ref D) _ hM ⟨D, ys.toArray, _, rfl, .head _, ?_⟩
    rw [hsz, List.take_length] at hJ
    exact paired_mono (fun _ _ => IsPair.mono fun _ _ m => .tail _ m) hJ
end
end Mine
end

-- part C2
section
local macro_rules | `(tactic| walk_at "idle 0") => `(tactic| skip)
theorem Mine.off_C2 : True := by w_top off; trivial
open PySem PySem.W PySem.Spec PySem.Calls PyProof.Rows
set_option maxRecDepth 100000
namespace Mine
abbrev prg := PySem.Challenge.pw_ey0011_01
theorem fill : (PySem.Challenge.rw_ey0011_01 = PySem.Challenge.rw_ey0011_01) ∧ hd.heap_39 = hd.heap_39 := by
  k_fill
  exact ⟨rfl, rfl⟩

structure Cx (w : World) (A : Around) (p : Program) (loose : List Str) (mean : ExcName → Option Value) (mg mb : Str → Option Value) (h : Heap) : Prop where
  X : (hd.heap_39 w.params).In h
  T : Top p loose mean mg mb h
  hh : A.handled = none

def menuI (l : List Int) (i : Int) : Int := l.getD i.toNat 0
def rowsOf (n : Int) : List Fld :=
  [(Str.ofString "y", menuI [0, 1, 2, 4] (n.fmod 4)), (Str.ofString "M", (n.fdiv 4).fmod 6), (Str.ofString "d", (n.fdiv 24).fmod 3)] ++
  (if 0 < (n.fdiv 72).fmod 9 then [(Txt.item (Str.ofString "HkKh") (((n.fdiv 72).fmod 9 - 1).fmod 4), 1 + ((n.fdiv 72).fmod 9 - 1).fdiv 4)] else []) ++
  [(Str.ofString "m", (n.fdiv 648).fmod 3), (Txt.item (Str.ofString "zv") ((n.fdiv 1944).fmod 2), menuI [0, 1, 4] ((n.fdiv 3888).fmod 3)), (Txt.item (Str.ofString "abB") ((n.fdiv 11664).fmod 3), (n.fdiv 34992).fmod 3)]
def fieldsOf (n : Int) : List Fld := (rowsOf n).filter fun p => decide (0 < p.2)

theorem pairs_of {h₀ h : Heap} {L : Addr} {news : Led} {a : Addr} {its : Array Value} {n : Nat} {fs : List Fld} (N : News h₀ L h news) (hm : (a, listOf its n) ∈ news) (hp : Paired (IsPair (inH h)) its.toList fs) : IsPairs (inH h) (.ref a) fs :=
  ⟨a, its, n, rfl, (N _ hm).1, hp⟩
theorem pair_cons {h₀ h : Heap} {L : Addr} {news : Led} {a : Addr} {c : Str} {x : Int} {t u : Tok} {n : Nat} {l : List Value} {fs : List Fld} (N : News h₀ L h news) (hm : (a, tupO #[.str c t, .int x u] n) ∈ news) (hp : Paired (IsPair (inH h)) l fs) : Paired (IsPair (inH h)) (.ref a :: l) ((c, x) :: fs) :=
  .cons ⟨a, n, t, u, rfl, (N _ hm).1⟩ hp
theorem item_menu {prog : Program} {w : World} {A : Around} {E : Value → Shared → Prop} {s : Shared} {value slice : PySem.Expr} {l : Addr} {vs : List Value} {ns : List Int} {k : Int} {u : Tok} {Q : Value → Shared → Prop}
    (hl : s.heap.IsList l vs.toArray) (hi : IntsAre vs ns) (h0 : 0 ≤ k) (hk : k < ns.length) (hhi : k < 2 ^ 63) (h : ∀ u, Q (.int (menuI ns k) u) s)
    (hs : subscripted slice false (.ref l) (.int k u) = operate [.ref l, .int k u] (getItem (.ref l) (.int k u)) := by with_unfolding_all rfl) :
    wpAny (model prog w) A (subscriptTail value slice (.ref l) (.int k u)) Q E s := by
  have hlt : k.toNat < ns.length := by omega
  have he : ns[k.toNat]? = some (menuI ns k) := by simp only [menuI, List.getD_eq_getElem?_getD, List.getElem?_eq_getElem hlt, Option.getD_some]
  obtain ⟨u', hu⟩ := hi.get k.toNat (menuI ns k) he
  exact item_litK hl h0 hhi hu (h u') hs
theorem fmod_b (a : Int) {b : Int} (hb : 0 < b) : 0 ≤ a.fmod b ∧ a.fmod b < b := ⟨Int.fmod_nonneg_of_pos a hb, Int.fmod_lt_of_pos a hb⟩
local macro_rules | `(tactic| walk_at "subscriptTail") => `(tactic| (k_here; (with_reducible show wpAny _ _ (subscriptTail _ _ (Value.ref _) (Value.int (Int.fmod _ _) _)) _ _ _); (with_unfolding_all refine' item_menu ?k1 ?k2 ?k3 ?k4 ?k5 ?_ ?k6; (case k1 => kso_list); (case k2 => (repeat constructor)); (case k3 => omega); (case k4 => (simp only [List.length_cons, List.length_nil]; omega)); (case k5 => omega); (case k6 => with_unfolding_all rfl); k_whole); intro u9))

local macro_rules | `(tactic| walk_at "go") => `(tactic| repeat' ((fail_if_success (with_reducible show wpAny _ _ (eval (PySem.Expr.ListComp _ _ _ _) _) _ _ _)); (first | (k_unfold; (try dsimp only)) | (k_end; wrow_close) | walk1 | (dsimp only; walk1) | (leave1; walk_say "STEP leave1"; try dsimp only))))

set_option maxHeartbeats 8000000 in
theorem fields_spec {w : World} {A : Around} {p : Program} {loose : List Str} {mean : ExcName → Option Value} {mg mb : Str → Option Value} {s : Shared} {n : Int} {t : Tok}
    (C : Cx w A p loose mean mg mb s.heap) (hd : A.depth + 1 < recursionLimit) (hu : A.units + 8 < cLine) (h0 : 0 ≤ n) :
    Gives (model prg w) A s (call (.ref 85) [.int n t]) (fun tl v => IsPairs (inL tl) v (fieldsOf n)) := by
  obtain ⟨X, T, hh⟩ := C
  refine Gives.enter X T.nolimit (by k_is) (by k_is) (Nat.lt_of_succ_lt hd) (BindsTo.of_eq rfl) (locs rfl) ?_
  intro L h₁ tk F N
  have b4 := fmod_b n (b := 4) (by decide)
  have b3 := fmod_b (n.fdiv 3888) (b := 3) (by decide)
  (try dsimp only); (try k_fold)
  walk_at "go"
  all_goals (
    with_reducible rename Fr _ _ _ _ => F9
    with_reducible rename News _ _ _ _ => N9
    refine filt_comp (cl := []) hh (closureFor_none (by decide)) (by decide) rfl (by decide) (by decide) (by decide) ?_
    walk1)
  · rename (0 < Int.fmod _ 9) => e3
    refine ⟨rowsOf n, ?_, by unfold rowsOf; rw [if_pos e3]; exact Nat.le_of_ble_eq_true rfl, ?_⟩
    · unfold rowsOf; rw [if_pos e3]
      refine' pairs_of N9 (by k_mem) ?_
      iterate 7 (refine' pair_cons N9 (by k_mem) ?_)
      exact .nil
    · intro h' tk v tl M P
      exact FnEnd.intro (M.fr F9) (M.news F9 N9) (P.mono fun _ _ m => List.mem_append_left _ m)
  · rename (Not (0 < Int.fmod _ 9)) => e3
    refine ⟨rowsOf n, ?_, by unfold rowsOf; rw [if_neg e3]; exact Nat.le_of_ble_eq_true rfl, ?_⟩
    · unfold rowsOf; rw [if_neg e3]
      refine' pairs_of N9 (by k_mem) ?_
      iterate 6 (refine' pair_cons N9 (by k_mem) ?_)
      exact .nil
    · intro h' tk v tl M P
      exact FnEnd.intro (M.fr F9) (M.news F9 N9) (P.mono fun _ _ m => List.mem_append_left _ m)
end Mine
end

-- part C3
section
local macro_rules | `(tactic| walk_at "idle 0") => `(tactic| skip)
local macro_rules | `(tactic| walk_at "idle 1") => `(tactic| skip)
local macro_rules | `(tactic| walk_at "idle 2") => `(tactic| skip)
local macro_rules | `(tactic| walk_at "idle 3") => `(tactic| skip)
local macro_rules | `(tactic| walk_at "idle 4") => `(tactic| skip)
local macro_rules | `(tactic| walk_at "idle 5") => `(tactic| skip)
local macro_rules | `(tactic| walk_at "idle 6") => `(tactic| skip)
local macro_rules | `(tactic| walk_at "idle 7") => `(tactic| skip)
local macro_rules | `(tactic| walk_at "idle 8") => `(tactic| skip)
local macro_rules | `(tactic| walk_at "idle 9") => `(tactic| skip)
theorem Mine.off_C3 : True := by w_top off; trivial
open PySem PySem.W PySem.Spec PySem.Calls PyProof.Rows PyProof.Rows.LCg
set_option maxRecDepth 100000
namespace Mine
theorem fill3 : (PySem.Challenge.rw_ey0011_01 = PySem.Challenge.rw_ey0011_01) ∧ hd.heap_39 = hd.heap_39 := by
  k_fill
  exact ⟨rfl, rfl⟩
local macro_rules | `(tactic| walk_at "go") => `(tactic| repeat' ((fail_if_success (with_reducible show wpAny _ _ (eval (PySem.Expr.ListComp _ _ _ _) _) _ _ _)); (first | (k_unfold; (try dsimp only)) | (k_end; wrow_close) | walk1 | (dsimp only; walk1) | (leave1; walk_say "STEP leave1"; try dsimp only))))

def mulF (p : Fld) : Str := Txt.mul p.1 p.2
def textOf (fs : List Fld) : Str := Txt.join (Str.ofString "") (fs.map mulF)
def Small (fs : List Fld) : Prop := fs.length ≤ 16 ∧ ∀ p ∈ fs, p.1.length ≤ 16 ∧ 0 ≤ p.2 ∧ p.2 ≤ 16

theorem strsAre_snoc : ∀ {vs : List Value} {ys : List Str}, StrsAre vs ys → ∀ (y : Str) (t : Tok), StrsAre (vs ++ [.str y t]) (ys ++ [y])
  | _, _, .nil, y, t => .cons y t .nil
  | _, _, .cons z u r, y, t => .cons z u (strsAre_snoc r y t)

section
variable {prog : Program} {w : World} {A : Around} {s : Shared} {E : Value → Shared → Prop} {env : Env} {scope : Scope} {cl : List (Str × Addr)}
theorem mul_comp {iter : Expr} {p1 p2 p3 p4 p5 p6 pos : Pos} {k' : Nat} {Q : Value → Shared → Prop} (hh : A.handled = none)
    (hclos : closureFor scope env = pure cl) (hcell : ∀ y ∈ scope.names, y.2 ≠ .cell) (hkind : scope.kind = .function)
    (hnames : ∀ y ∈ scope.names, y.2 = .local → scope.names.lookup y.1 = some .local) (hx : scope.names.lookup (Str.ofString "letter") = some .local) (hx₂ : scope.names.lookup (Str.ofString "length") = some .local)
    (h : wpAny (model prog w) A (eval iter env) (fun xv s₁ => ∃ rows, IsPairs (inH s₁.heap) xv rows ∧ Small rows ∧
       ∀ h' tk D its tl, Made s₁.heap h' tl → (h'.IsList D its) → StrsAre its.toList (rows.map mulF) → Q (.ref D) { s₁ with heap := h', toks := tk }) E s)
    (hs : ∀ x, foldedSetIterable iter env x = pure x := by intro _; rfl) :
    wpAny (model prog w) A (eval (.ListComp (.BinOp (.Name (Str.ofString "letter") p1) .Mult (.Name (Str.ofString "length") p2) p3)
      [⟨.Tuple [.Name (Str.ofString "letter") p4, .Name (Str.ofString "length") p5] k' p6, iter, [], 0⟩] scope pos) env) Q E s := by
  refine comp hclos hcell hkind hnames (wpAny_mono h (fun xv s₁ h₁ => ?_) fun _ _ e => e) hs
  obtain ⟨rows, ⟨ax, its, n, rfl, hax, hP⟩, ⟨hlen, hsm⟩, done⟩ := h₁
  have hl : s₁.heap.IsList ax its := ⟨_, hax, rfl, n, rfl⟩
  have hsz : its.size = rows.length := by rw [← hP.length, Array.length_toList]
  refine ⟨its.size, _, _, fun i ys tl => StrsAre ys ((rows.take i).map mulF), by rw [hsz, sizeLine_eq]; omega, Src.list hh hl, .nil, ?_, ?_⟩
  · intro C I D i v ys tl hp tk m₁ oI hi hPv hJ F N hID off hG
    obtain ⟨⟨c, x⟩, hr, hp'⟩ := paired_get hP (i := i) (a := v) (by simpa using hPv)
    obtain ⟨t, u, u', rfl, ht⟩ := hp'.tup
    have ht' : IsTup hp t _ := let ⟨o, e, z⟩ := ht; ⟨o, F.keep _ _ e, z⟩
    have hb := hsm (c, x) (List.mem_of_getElem? hr)
    refine CTurn.pair hh hkind hx hx₂ F N hG ht' fun h' tk' F' N' => ?_
    refine wpAny_BinOp (lds hkind hx F' (v := .str c u) (by simp; decide) (lds hkind hx₂ F' (v := .int x u') (by simp) ?_))
    refine SB.mul (mulOk_of 16 16 hb.1 hb.2.2 (by have := hb.2.1; simp only at this; omega) (by decide) (by decide)) fun t' k => ?_
    refine TEnd.intro tl F' N' (fun _ hp => hp) off ?_
    rw [take_succ_of hr, List.map_append]
    exact strsAre_snoc hJ _ _
  · intro h' tk D ys tl hM hJ
    rw [hsz, List.take_length] at hJ
    exact done h' tk D ys.toArray _ hM ⟨_, (hM.new _ (.head _)).1, rfl, _, rfl⟩ hJ
end

theorem mul_len (c : Str) (x : Int) : (Txt.mul c x).length = c.length * x.toNat := by
  unfold Txt.mul
  by_cases h1 : x < 1
  · rw [if_pos h1]
    have : x.toNat = 0 := by omega
    rw [this]; rfl
  · rw [if_neg h1]
    split
    · rename_i h2
      simp only [Bool.or_eq_true, beq_iff_eq] at h2
      rcases h2 with h2 | h2
      · rw [h2]; simp
      · rw [h2]; simp
    · have : ∀ (n : Nat) (a : Array Nat), ((List.replicate n c.cps).foldl (· ++ ·) a).size = a.size + c.cps.size * n := by
        intro n
        induction n with
        | zero => intro a; simp
        | succ n ih => intro a; rw [List.replicate_succ, List.foldl_cons, ih, Array.size_append, Nat.mul_succ]; omega
      show ((List.replicate x.toNat c.cps).foldl (· ++ ·) #[]).size = _
      rw [this]; simp [Str.length]

theorem small_sum {fs : List Fld} (h : ∀ p ∈ fs, p.1.length ≤ 16 ∧ 0 ≤ p.2 ∧ p.2 ≤ 16) : ((fs.map mulF).map (·.length)).sum ≤ fs.length * 256 := by
  induction fs with
  | nil => simp
  | cons p r ih =>
    have a := ih fun q hq => h q (.tail _ hq)
    have b := h p (.head _)
    have c : (mulF p).length ≤ 256 := by
      unfold mulF
      rw [mul_len]
      exact Nat.le_trans (Nat.mul_le_mul b.1 (show p.2.toNat ≤ 16 by omega)) (by decide)
    simp only [List.map_cons, List.sum_cons, List.length_cons]
    omega

set_option maxHeartbeats 8000000 in
theorem text_spec {w : World} {A : Around} {p : Program} {loose : List Str} {mean : ExcName → Option Value} {mg mb : Str → Option Value} {s : Shared} {v : Value} {fs : List Fld}
    (C : Cx w A p loose mean mg mb s.heap) (hd : A.depth + 1 < recursionLimit) (hv : IsPairs (inH s.heap) v fs) (hS : Small fs) :
    Gives (model prg w) A s (call (.ref 90) [v]) (fun _ r => ∃ u, r = .str (textOf fs) u) := by
  obtain ⟨X, T, hh⟩ := C
  refine Gives.enter X T.nolimit (by k_is) (by k_is) (Nat.lt_of_succ_lt hd) (BindsTo.of_eq rfl) (locs rfl) ?_
  intro L h₁ tk F N
  (try dsimp only); (try k_fold)
  walk_at "go"
  refine mul_comp (cl := []) hh (closureFor_none (by decide)) (by decide) rfl (by decide) (by decide) (by decide) ?_
  walk1
  refine ⟨fs, hv.mono F.keep, hS, ?_⟩
  intro h' tk' D its tl M hl hst
  walk1
  refine join_list hl hst ?_ ?_
  · have := small_sum hS.2
    have := hS.1
    simp only [List.length_map]
    have e : (Str.ofString "").length = 0 := by decide
    rw [e]; omega
  · intro t' k
    dsimp only
    exact FnEnd.intro (M.fr F) (M.news F N) ⟨_, rfl⟩
end Mine
end

-- part Dct
section
open PySem PySem.W PySem.Spec PySem.Calls PyProof.Rows PyProof.Rows.LCg
set_option maxRecDepth 100000
namespace Mine

section
variable {prog : Program} {w : World} {A : Around} {E : Value → Shared → Prop} {s : Shared}

theorem miss_by {a : Addr} {o : Obj} {xs : Array Value} {k : Nat} {name : Str} {u : Tok} {Q : Value → Shared → Prop}
    (hx : s.heap.get? a = some o) (hc : o.cls = .type "list") (hdat : o.data = .seq xs k) (hd : o.dict = none) (hmiss : typeLookup (.type "list") name = pure none) (hname : (["__module__", "__name__", "__qualname__", "__doc__", "__annotations__"] : List Str).contains name = false) (hA : A.handled = none)
    (h : ∀ h' tk e, Heap.NewExcOf s.heap h' e "AttributeError" → E (.ref e) { s with heap := h', toks := tk }) (hsz : name.length + 100 ≤ sizeLine) :
    wpAny (model prog w) A (getAttrBy (.ref a) (.str name u) false) Q E s := by
  obtain ⟨c, dct, dat, sl⟩ := o
  simp only at hc hdat hd
  subst hc hdat hd
  obtain ⟨hp, g, d, tk, os⟩ := s
  have hT : ∀ tk', (⟨hp, g, d, tk', os⟩ : Shared).TypeIs (.ref a) "list" := fun _ => ⟨_, hx, rfl⟩
  have f1 := sub_AttributeError
  have f3 := F.slot_list_getattribute.lookup
  have f4 := F.slot_list_getattribute.bind (.ref a)
  have f5 := am_list_getattr_none
  unfold getAttrBy
  repeat (any_goals (first | assumption | exact hT _ | ((with_reducible show wpAny _ _ (call (Value.builtin "list.__getattribute__") _ _) _ _ _); refine call_meets F.slot_list_getattribute (hT _) am_entry_list_getattribute (F.args_list_getattribute_2 _ _) (meets_getattribute_miss_list a xs k sl name _ hmiss hname hsz) ⟨hx, hA, fun h' tk' e hx' => ?_⟩) | wp_step))
  obtain ⟨t', u', he⟩ := hx'.there
  show wpAny _ _ (getattributeRaised _ _ _ _ _ _ _) _ _ _
  unfold getattributeRaised
  repeat (any_goals (first | assumption | wp_step))
  exact h _ _ _ hx'.of

theorem no_keys : typeLookup (.type "list") "keys" = pure none := by rw [typeLookup_type, builtinLookup_eq_fast]; kernel_rfl

theorem keys_none {a : Addr} {o : Obj} {xs : Array Value} {k : Nat} {Q : Option Value → Shared → Prop}
    (hx : s.heap.get? a = some o) (hc : o.cls = .type "list") (hdat : o.data = .seq xs k) (hd : o.dict = none) (hA : A.handled = none)
    (h : ∀ h' tk, (∀ b o, s.heap.get? b = some o → h'.get? b = some o) → Q none { s with heap := h', toks := tk }) :
    wpAny (model prog w) A (getAttr? (.ref a) "keys") Q E s := by
  unfold getAttr? getAttrBy?
  refine wpAny_bind ?_
  refine wpAny_mkText ?_
  refine wpAny_bind (wpAny_attempt ?_)
  refine miss_by (s := { s with toks := s.toks + 1 }) hx hc hdat hd no_keys (by decide) hA (fun h' tk e hx' => ?_) (by rw [sizeLine_eq]; decide)
  dsimp only
  obtain ⟨hk, _, oe, vs, he, hce, _⟩ := hx'
  refine wpAny_bind (wpAny_isInstance (T := "AttributeError") ⟨_, he, hce⟩ sub_AttributeError ?_)
  exact wpAny_pure (h _ _ hk)

theorem pairItems_tup {a : Addr} {its : Array Value} {Q : List Value → Shared → Prop} (ht : IsTup s.heap a its) (h : Q its.toList s) : wpAny (model prog w) A (Builtin.Dict.pairItems (.ref a)) Q E s := by
  obtain ⟨o, ho, hc, n, hd⟩ := ht
  unfold Builtin.Dict.pairItems
  refine wpAny_bind (wpAny_typeOf (T := "tuple") ⟨o, ho, hc⟩ ?_)
  have e : ((Value.type "tuple" == Value.type "list") || (Value.type "tuple" == Value.type "tuple")) = true := by decide
  rw [if_pos e]
  exact wpAny_bind (wpAny_seqItems ho hd (wpAny_pure h))

theorem entry_upd_loop : entryFor table "dict.update.loop" = some Builtin.«dict.update.loop» := entryFor_of_tree (by kernel_rfl)
theorem plain_upd_loop : plainId "dict.update.loop" = true := by decide +kernel

def kvOf (kv : Str × Value) (p : Fld) : Prop := kv.1 = p.1 ∧ ∃ u, kv.2 = .int p.2 u

theorem upd_loop {d I : Addr} {fp : List Addr} {its : Array Value} {rows : List Fld} {H : Heap} {St : Nat → Heap → Prop} {R : Result → Shared → Prop}
    (W : ∀ A' : Around, A'.handled = none → Walks prog w A' I fp [I] its.size (fun i v => its[i]? = some v) St) (hh : A.handled = none)
    (hP : Paired (IsPair (inH H)) its.toList rows) (hnd : (rows.map (·.1)).Nodup) (hlen : rows.length ≤ 1000) (hdI : d ≠ I) (hHI : H.get? I = none) (hHd : H.get? d = none) (hfp : ∀ b ∈ fp, b = I ∨ ∃ o, H.get? b = some o)
    (hSt : ∀ i h, St i h → ∃ o, h.get? I = some o)
    (hR : ∀ h' tk kvs, (∀ b o, H.get? b = some o → h'.get? b = some o) → h'.DictOf (PySem.strKind prog w) d kvs → Paired kvOf kvs rows → R (.ok (.ret .none)) { s with heap := h', toks := tk }) :
    ∀ (k i : Nat) (h : Heap) (tk : Nat) (t : Tok) (kvs : List (Str × Value)), its.size - i = k → i ≤ its.size → St i h → (∀ b o, H.get? b = some o → h.get? b = some o) → h.DictOf (PySem.strKind prog w) d kvs → Paired kvOf kvs (rows.take i) →
      codeAny (model prog w) A (.builtin "dict.update.loop" ⟨[.ref d, .ref I, .int i t, .none], []⟩) R { s with heap := h, toks := tk } := by
  have hsz : its.size = rows.length := by rw [← hP.length, Array.length_toList]
  intro k
  induction k with
  | zero =>
    intro i h tk t kvs hk hi hst keep hd hp
    obtain rfl : i = its.size := by omega
    refine codeAny_builtin entry_upd_loop ?_
    rw [Around.under_plainId plain_upd_loop]
    unfold Builtin.«dict.update.loop»
    refine wpAny_bind ((W A.in1 hh).done _ _ _ hst fun h' tk' hk' => ?_)
    dsimp only
    show wpAny _ _ (Builtin.Dict.addKeywords d [] >>= _) _ _ _
    refine wpAny_bind (wpAny_pure (wpAny_pure ?_))
    rw [hsz, List.take_length] at hp
    obtain ⟨o, es, ep, ho, r⟩ := hd
    exact hR h' tk' kvs (fun b o e => hk' b o (fun hm => by rw [List.mem_singleton.mp hm, hHI] at e; cases e) (keep b o e)) ⟨o, es, ep, hk' d o (by simpa using hdI) ho, r⟩ hp
  | succ k ih =>
    intro i h tk t kvs hk hi hst keep hd hp
    have hlt : i < its.size := by omega
    refine codeAny_builtin entry_upd_loop ?_
    rw [Around.under_plainId plain_upd_loop]
    unfold Builtin.«dict.update.loop»
    refine wpAny_bind ((W A.in1 hh).item i _ _ _ hlt hst fun v h' tk' hPv hst' hk' => ?_)
    obtain ⟨⟨c, x⟩, hr, hp'⟩ := paired_get hP (i := i) (a := v) (by simpa using hPv)
    obtain ⟨a, t₁, u₁, rfl, ht⟩ := hp'.tup
    have keep' : ∀ b o, H.get? b = some o → h'.get? b = some o := fun b o e => hk' b o (fun hm => by rw [List.mem_singleton.mp hm, hHI] at e; cases e) (keep b o e)
    have ht' : IsTup h' a _ := let ⟨o, e, z⟩ := ht; ⟨o, keep' _ _ e, z⟩
    have hd' : h'.DictOf (PySem.strKind prog w) d kvs := let ⟨o, es, ep, ho, r⟩ := hd; ⟨o, es, ep, hk' d o (by simpa using hdI) ho, r⟩
    dsimp only
    refine wpAny_bind (wpAny_holding (wpAny_bind (wpAny_tryCatch (pairItems_tup ht' ?_))))
    dsimp only
    refine wpAny_holding ?_
    unfold dictSet
    refine wpAny_holding (wpAny_bind ((PySem.strKind prog w).pyHash (k := c) (by exact strKind_is prog w c t₁) ?_))
    have hkl : kvs.length = i := by rw [hp.length, List.length_take]; omega
    refine wpAny_dictSetHashed_pairs (knd := PySem.strKind prog w) (by exact strKind_is prog w c t₁) hd' (fun h₂ hd₂ hs₂ => ?_) (by rw [sizeLine_eq]; omega)
    refine wpAny_pure ⟨Code.quiet_builtin _ (by decide +kernel), ?_⟩
    have hdH : ∀ b o, H.get? b = some o → b ≠ d := fun b o e q => by rw [q, hHd] at e; cases e
    refine ih (i + 1) h₂ _ _ _ (by omega) (by omega) ?_ (fun b o e => hs₂.extBut b o (hdH b o e) (keep' b o e)) hd₂ ?_
    · obtain ⟨oI, hI⟩ := hSt _ _ hst'
      refine (W A hh).frame _ _ _ hst' fun b hb o e => hs₂.extBut b o ?_ e
      rcases hfp b hb with rfl | ⟨o', e'⟩
      · exact Ne.symm hdI
      · exact hdH b o' e'
    · have hnot : ¬ (kvs.any fun kv => decide (kv.1 = c)) = true := by
        rw [List.any_eq_true]
        rintro ⟨kv, hkv, he⟩
        have he := of_decide_eq_true he
        obtain ⟨j, hj⟩ := List.getElem?_of_mem hkv
        obtain ⟨q, hq, hq'⟩ := paired_get hp hj
        have hji : j < i := by
          have := (List.getElem?_eq_some_iff.mp hj).1
          omega
        rw [List.getElem?_take_of_lt hji] at hq
        have e1 : (rows.map (·.1))[j]? = some c := by rw [List.getElem?_map, hq]; simp [← hq'.1, he]
        have e2 : (rows.map (·.1))[i]? = some c := by rw [List.getElem?_map, hr]; rfl
        have l1 : j < (rows.map (·.1)).length := (List.getElem?_eq_some_iff.mp e1).1
        have := (List.getElem?_inj l1 hnd).mp (e1.trans e2.symm)
        omega
      rw [stored, if_neg hnot, take_succ_of hr]
      exact hp.snoc ⟨rfl, _, rfl⟩
end
end Mine
end

-- part Dct2
section
open PySem PySem.W PySem.Spec PySem.Calls PyProof.Rows PyProof.Rows.LCg
set_option maxRecDepth 100000
namespace Mine
section
variable {prog : Program} {w : World} {A : Around} {E : Value → Shared → Prop} {s : Shared}

theorem call_dict {l : Addr} {its : Array Value} {n : Nat} {rows : List Fld} {Q : Value → Shared → Prop} (hh : A.handled = none) (hlim : s.heap.NoLimit)
    (ho : s.heap.get? l = some (listOf its n)) (hP : Paired (IsPair (inH s.heap)) its.toList rows) (hnd : (rows.map (·.1)).Nodup) (hlen : rows.length ≤ 1000)
    (h : ∀ h' tk D o kvs, Made s.heap h' [(D, o)] → o.IsDictOf (PySem.strKind prog w) kvs → Paired kvOf kvs rows → (D == sysModules) = false → Q (.ref D) { s with heap := h', toks := tk }) :
    wpAny (model prog w) A (call (.type "dict") [.ref l]) Q E s := by
  have hbig : sysModules < s.heap.objs.size := modules_low hlim
  refine callType_codes (Q₁ := fun obj s₁ => obj = .ref s.heap.objs.size ∧ s₁ = { s with heap := s.heap.push { cls := .type "dict", data := .dict #[] } }) F.kt_called_dict (F.kt_typeCall_dict_1 _) F.entry_dict_init (kt_code_dict_new _ ⟨rfl, rfl⟩) ?_
  rintro obj s₁ ⟨rfl, rfl⟩
  have hnew : (s.heap.push { cls := .type "dict", data := .dict #[] }).DictOf (PySem.strKind prog w) s.heap.objs.size [] := Heap.DictOf.new s.heap
  refine ⟨hnew.typeIs, F.args_dict_init_2 _ _, ?_⟩
  unfold Builtin.«dict.__init__»
  refine wpAny_bind ?_
  unfold Builtin.Dict.selfAndRest
  refine wpAny_bind (wpAny_notOrdered_dict hnew.typeIs ?_)
  show wpAny _ _ (pure (s.heap.objs.size, [Value.ref l])) _ _ _
  refine wpAny_pure ?_
  show wpAny _ _ (Builtin.Dict.updateFrom "dict.__init__" s.heap.objs.size (.ref l) [] .none) _ _ _
  unfold Builtin.Dict.updateFrom
  have up : ∀ b o, s.heap.get? b = some o → (s.heap.push { cls := .type "dict", data := .dict #[] }).get? b = some o := fun b o e => Heap.get?_push_of_some _ e
  have ho' := up _ _ ho
  refine wpAny_bind (wpAny_typeOf (T := "list") ⟨_, ho', rfl⟩ ?_)
  rw [if_pos (by decide)]
  refine wpAny_bind (keys_none ho' rfl rfl rfl hh fun h₁ tk₁ k₁ => ?_)
  rw [if_pos (show (none : Option Value).isNone = true from rfl)]
  refine wpAny_bind (wpAny_rule ?_)
  have keep₁ : ∀ b o, s.heap.get? b = some o → h₁.get? b = some o := fun b o e => k₁ _ _ (up _ _ e)
  have hl₁ : h₁.IsList l its := ⟨_, keep₁ _ _ ho, rfl, n, rfl⟩
  have hlt : s.heap.objs.size < h₁.objs.size := by
    obtain ⟨o, es, ep, e, _⟩ := hnew
    exact Heap.lt_size (k₁ _ _ e)
  have hll : l < h₁.objs.size := Heap.lt_size (keep₁ _ _ ho)
  refine wpAny_bind (wpAny_pyIter_list hl₁ ?_)
  have fresh : ∀ a, s.heap.objs.size ≤ a → s.heap.get? a = none := fun a ha => by
    cases e : s.heap.get? a with
    | none => rfl
    | some o' => exact absurd (Heap.lt_size e) (Nat.not_lt.mpr ha)
  have hd₂ : (h₁.push { cls := .type "list_iterator", data := .fields #[.ref l, .int 0 0] }).DictOf (PySem.strKind prog w) s.heap.objs.size [] :=
    let ⟨o, es, ep, e, r⟩ := hnew; ⟨o, es, ep, Heap.get?_push_of_some _ (k₁ _ _ e), r⟩
  refine wpAny_pure ⟨Code.quiet_builtin _ (by decide +kernel), ?_⟩
  refine upd_loop (A := A.in1) (s := { s with heap := h₁, toks := tk₁ }) (H := s.heap) (rows := rows) (W := fun A' hA => Walks.list hA h₁.objs.size l (Nat.ne_of_lt hll) its) hh hP hnd hlen (Nat.ne_of_lt hlt) (fresh _ (Nat.le_of_lt hlt)) (fresh _ (Nat.le_refl _))
    (fun b hb => ?_) (fun i h st => by obtain ⟨o, e, _⟩ := st.1; exact ⟨o, e⟩) (fun h' tk kvs kp hd hp => ?_) its.size 0 _ tk₁ 0 [] (by omega) (Nat.zero_le _) ⟨⟨_, Heap.get?_push_size _ rfl, rfl, rfl⟩, hl₁.push _⟩ (fun b o e => Heap.get?_push_of_some _ (keep₁ b o e)) hd₂ .nil
  · rcases List.mem_cons.mp hb with rfl | hb
    · exact .inl rfl
    · rw [List.mem_singleton.mp hb]; exact .inr ⟨_, ho⟩
  · obtain ⟨o, ho₂, hd'⟩ := Heap.dictOf_iff.mp hd
    refine ⟨rfl, h h' tk _ o kvs ⟨kp, fun p hp => ?_⟩ hd' hp ?_⟩
    · rw [List.mem_singleton.mp hp]; exact ⟨ho₂, fresh _ (Nat.le_refl _)⟩
    · exact beq_eq_false_iff_ne.mpr (Nat.ne_of_gt hbig)
end

def dictD (fs : List Fld) : List (PyData × PyData) := fs.map fun p => (PyData.str p.1, PyData.int p.2)
def getF (fs : List Fld) (c : Str) : Int := ((fs.find? fun p => decide (p.1 = c)).map (·.2)).getD 0

theorem flat_of_kv : ∀ {kvs : List (Str × Value)} {fs : List Fld}, Paired kvOf kvs fs → PyProof.V.FlatPairs PyData.str kvs (dictD fs)
  | _, _, .nil => .nil
  | _, _, .cons (a := (k, v)) (b := (c, x)) ⟨h1, u, h2⟩ t => by
    simp only at h1 h2
    subst h1 h2
    exact .cons (PyProof.V.Flat.int _ _) (flat_of_kv t)
theorem strTab_of {prog : Program} {w : World} {h : Heap} {D : Addr} {o : Obj} {kvs : List (Str × Value)} {fs : List Fld} (ho : h.get? D = some o) (hd : o.IsDictOf (PySem.strKind prog w) kvs) (hp : Paired kvOf kvs fs) (hne : (D == sysModules) = false) :
    StrTab prog w h D (dictD fs) := ⟨hne, kvs, Heap.dictOf_iff.mpr ⟨o, ho, hd⟩, flat_of_kv hp⟩
end Mine
end

-- part ForL
section
open PySem PySem.W PySem.Spec PySem.Calls PyProof.Rows PyProof.Rows.LCg
set_option maxRecDepth 100000
namespace Mine

section
variable {prog : Program} {w : World} {A : Around} {E : Value → Shared → Prop} {s : Shared} {R : Result → Shared → Prop}
theorem forLoop_any {target it body env} (I : Nat → Shared → Prop)
    (turn : ∀ n s, I n s → wpAny (model prog w) A (pyNext it) (fun r s₁ => match r with
      | none => R (.ok .next) s₁
      | some v => wpAny (model prog w) A (letOwnedTupleGo target it v) (fun _ s₀ => wpAny (model prog w) A (assign target env v) (fun _ s₂ => wpAny (model prog w) A (execs body env) (fun f s₃ => match f with
          | .next | .cont => ∃ m, m < n ∧ I m s₃
          | .brk => R (.ok .next) s₃
          | .ret v => R (.ok (.ret v)) s₃) (fun _ _ => False) s₂) (fun _ _ => False) s₀) (fun _ _ => False) s₁) (fun _ _ => False) s)
    (n : Nat) (h : I n s) : codeAny (model prog w) A (.forLoop target it body [] env) R s := by
  refine codeAny_loop' rfl I (fun n s hI => ?_) n h
  show wpAny _ _ ((forTurn target it body [] env).onRaise (fun x => do noteFrame x env; theTreesLotGoes x)) _ _ s
  refine wpAny_noted ?_
  simp only [forTurn]
  refine wpAny_bind (wpAny_standAt (wpAny_bind (wpAny_onRaise (wpAny_mono (turn n s hI) (fun r s₁ h₁ => ?_) fun _ _ h' => h'.elim))))
  cases r with
  | none => exact wpAny_pure (.inr ⟨rfl, codeAny_block (wpAny_execs_nil h₁)⟩)
  | some v =>
    refine wpAny_bind (wpAny_mono h₁ (fun _ s₀ h₀ => ?_) fun _ _ h' => h'.elim)
    refine wpAny_bind (wpAny_mono h₀ (fun _ s₂ h₂ => wpAny_bind (wpAny_mono h₂ (fun f s₃ h₃ => ?_) fun _ _ h' => h'.elim)) fun _ _ h' => h'.elim)
    cases f with
    | next => exact wpAny_pure (.inl ⟨rfl, h₃⟩)
    | cont => exact wpAny_pure (.inl ⟨rfl, h₃⟩)
    | brk => exact wpAny_pure h₃
    | ret v => exact wpAny_pure h₃

/-- as Src, with the addresses that the iterator leans on -/
def SrcS (prog : Program) (w : World) (A : Around) (xv : Value) (s : Shared) (n : Nat) (P : Nat → Value → Prop) (G : Addr → Heap → Prop) (sup : List Addr) : Prop :=
  ∀ (Q : Value → Shared → Prop) (E : Value → Shared → Prop),
    (∀ fp St oI, Walks prog w A s.heap.objs.size fp [s.heap.objs.size] n P St → St 0 (s.heap.push oI) → oI.isFreed = false → (∀ b ∈ fp, b = s.heap.objs.size ∨ b ∈ sup) →
      (∀ i h, St i h → G s.heap.objs.size h) → (∀ i h, St i h → ∃ o, h.get? s.heap.objs.size = some o) → Q (.ref s.heap.objs.size) { s with heap := s.heap.push oI }) → wpAny (model prog w) A (pyIter xv) Q E s

theorem SrcS.list {ax : Addr} {its : Array Value} (hh : A.handled = none) (hl : s.heap.IsList ax its) :
    SrcS prog w A (.ref ax) s its.size (fun i v => its[i]? = some v) (fun I h => ∃ l j, h.IsListIter I l j) [ax] := by
  intro Q E hQ
  have hlt : ax < s.heap.objs.size := by obtain ⟨_, e, _⟩ := hl; exact Heap.lt_size e
  refine wpAny_pyIter_list hl (hQ _ _ _ (Walks.list hh s.heap.objs.size ax (Nat.ne_of_lt hlt) its) ⟨⟨_, Heap.get?_push_size _ rfl, rfl, rfl⟩, hl.push _⟩ rfl (fun b hb => ?_) (fun i h st => ⟨_, _, st.1⟩) (fun i h st => by obtain ⟨o, e, _⟩ := st.1; exact ⟨o, e⟩))
  rcases List.mem_cons.mp hb with rfl | hb
  · exact .inl rfl
  · exact .inr hb
theorem SrcS.str {x : Str} {t : Tok} (hh : A.handled = none) : SrcS prog w A (.str x t) s x.cps.size (SignAt x) (fun _ _ => True) [] := by
  intro Q E hQ
  cases ha : x.cps.all (· < 128)
  · exact wpAny_pyIter_wide ha (hQ _ _ _ (Walks.strWide hh _ x t) ⟨_, Heap.get?_push_size _ rfl, rfl, rfl⟩ rfl (fun b hb => .inl (List.mem_singleton.mp hb)) (fun _ _ _ => trivial) (fun i h st => by obtain ⟨o, e, _⟩ := st; exact ⟨o, e⟩))
  · exact wpAny_pyIter_ascii ha (hQ _ _ _ (Walks.strAscii hh _ x t) ⟨_, Heap.get?_push_size _ rfl, rfl, rfl⟩ rfl (fun b hb => .inl (List.mem_singleton.mp hb)) (fun _ _ _ => trivial) (fun i h st => by obtain ⟨o, e, _⟩ := st; exact ⟨o, e⟩))
end

def LEnd (h₀ : Heap) (L I : Addr) (oI : Obj) (s₁ : Shared) (base : Led) (J : (Str → Option Value) → Led → Prop) (Q : Flow → Shared → Prop) (f : Flow) (s₂ : Shared) : Prop := match f with
  | .ret v => Q (.ret v) s₂
  | .brk => Q .next s₂
  | _ => ∃ h' tk m₂ news₂, s₂ = { s₁ with heap := h', toks := tk } ∧ Fr h₀ L h' m₂ ∧ News h₀ L h' ((I, oI) :: news₂) ∧ (∀ p ∈ news₂, p.1 ≠ I) ∧ (∀ p ∈ base, p ∈ news₂) ∧ J m₂ news₂

def FTurn (prog : Program) (w : World) (A : Around) (target : Expr) (body : List Stmt) (env : Env) (I : Addr) (v : Value) (End : Flow → Shared → Prop) (s : Shared) : Prop :=
  wpAny (model prog w) A (letOwnedTupleGo target (.ref I) v) (fun _ s₀ => wpAny (model prog w) A (assign target env v) (fun _ s₂ => wpAny (model prog w) A (execs body env) End (fun _ _ => False) s₂) (fun _ _ => False) s₀) (fun _ _ => False) s

section
variable {prog : Program} {w : World} {A : Around} {E : Value → Shared → Prop} {s : Shared} {R : Result → Shared → Prop}
theorem for_loop {h₀ : Heap} {env : Env} {target iter : Expr} {body : List Stmt} {pos : Pos} {Q : Flow → Shared → Prop} (J : Nat → (Str → Option Value) → Led → Prop)
    (h : wpAny (model prog w) A (eval iter env) (fun xv s₁ => ∃ n P G sup m news base, SrcS prog w A xv s₁ n P G sup ∧ Fr h₀ env.locals s₁.heap m ∧ News h₀ env.locals s₁.heap news ∧ J 0 m news ∧
        (∀ p ∈ base, p ∈ news) ∧ (∀ b ∈ sup, (∃ o, h₀.get? b = some o) ∨ ∃ o, (b, o) ∈ base) ∧
        (∀ i v m₁ news₁ h tk I oI, i < n → P i v → J i m₁ news₁ → Fr h₀ env.locals h m₁ → News h₀ env.locals h ((I, oI) :: news₁) → (∀ p ∈ news₁, p.1 ≠ I) → (∀ p ∈ base, p ∈ news₁) → G I h →
          FTurn prog w A target body env I v (LEnd h₀ env.locals I oI s₁ base (J (i + 1)) Q) { s₁ with heap := h, toks := tk }) ∧
        (∀ h' tk m' news', Fr h₀ env.locals h' m' → News h₀ env.locals h' news' → (∀ p ∈ base, p ∈ news') → J n m' news' → Q .next { s₁ with heap := h', toks := tk })) E s)
    (hs : ∀ x, foldedSetIterable iter env x = pure x := by intro _; rfl) :
    wpAny (model prog w) A (exec (.For target iter body [] pos) env) Q E s := by
  refine wpAny_For (wpAny_mono h (fun xv s₁ h₁ => ?_) fun _ _ e => e) hs
  obtain ⟨n, P, G, sup, m, news, base, src, F, N, hJ, hb, hsup, turn, done⟩ := h₁
  refine src _ _ fun fp St oI W hst hoI hfp hG hIo => ?_
  generalize hI : s₁.heap.objs.size = I at *
  have up : ∀ b o, s₁.heap.get? b = some o → (s₁.heap.push oI).get? b = some o := fun b o e => Heap.get?_push_of_some _ e
  have hIL : I ≠ env.locals := by
    have := F.ns.lt
    rw [hI] at this
    exact Nat.ne_of_gt this
  have fresh : s₁.heap.get? I = none := by
    cases e : s₁.heap.get? I with
    | none => rfl
    | some o' => exact absurd (Heap.lt_size e) (by rw [hI]; exact Nat.lt_irrefl _)
  have hI₀ : h₀.get? I = none := by
    cases e : h₀.get? I with
    | none => rfl
    | some o' => have := F.keep _ _ e; rw [fresh] at this; cases this
  have hIat : (s₁.heap.push oI).get? I = some oI := by rw [← hI]; exact Heap.get?_push_size _ hoI
  have stf : ∀ i h h' oI' (news₁ news₂ : Led) m₁ m₂, St i h → Fr h₀ env.locals h m₁ → Fr h₀ env.locals h' m₂ → News h₀ env.locals h ((I, oI') :: news₁) → News h₀ env.locals h' ((I, oI') :: news₂) → (∀ p ∈ base, p ∈ news₁) → (∀ p ∈ base, p ∈ news₂) → St i h' := fun i h h' oI' news₁ news₂ m₁ m₂ st F₁ F₂ N₁ N₂ b₁ b₂ =>
    W.frame i h h' st fun b hbf o eo => by
      rcases hfp b hbf with rfl | hbs
      · rw [(N₁ _ (.head _)).1] at eo; cases eo; exact (N₂ _ (.head _)).1
      · rcases hsup b hbs with ⟨o', e'⟩ | ⟨o', m'⟩
        · rw [F₁.keep _ _ e'] at eo; cases eo; exact F₂.keep _ _ e'
        · rw [(N₁ _ (.tail _ (b₁ _ m'))).1] at eo; cases eo; exact (N₂ _ (.tail _ (b₂ _ m'))).1
  have loop : codeAny (model prog w) A (.forLoop target (.ref I) body [] env) (fun r s' => match r with | .ok f => Q f s' | .error e => cameBackBy (model prog w) A env E e s') { s₁ with heap := s₁.heap.push oI } := by
    refine forLoop_any (fun k s' => ∃ h' tk i m' news' oI', s' = { s₁ with heap := h', toks := tk } ∧ i ≤ n ∧ k = n + 1 - i ∧ St i h' ∧ Fr h₀ env.locals h' m' ∧ News h₀ env.locals h' ((I, oI') :: news') ∧ (∀ p ∈ news', p.1 ≠ I) ∧ (∀ p ∈ base, p ∈ news') ∧ J i m' news') ?_ (n + 1)
      ⟨_, s₁.toks, 0, m, news, oI, rfl, Nat.zero_le _, rfl, hst, F.push _, ?_, ?_, hb, hJ⟩
    · rintro k s' ⟨h', tk, i, m', news', oI', rfl, hi, rfl, hst', F', N', off', hb', hJ'⟩
      have moved : ∀ h₂, (∀ b o, b ∉ [I] → h'.get? b = some o → h₂.get? b = some o) → Fr h₀ env.locals h₂ m' ∧ News h₀ env.locals h₂ news' := fun h₂ hk =>
        ⟨fr_but F' hk (Ne.symm hIL) hI₀, news_but (fun p hp => N' p (.tail _ hp)) hk off'⟩
      by_cases hlt : i < n
      · refine W.item i _ _ _ hlt hst' fun v h₂ tk₂ hPv hst₂ hk₂ => ?_
        obtain ⟨F₂, N₂⟩ := moved h₂ hk₂
        obtain ⟨oI₂, hI₂⟩ := hIo _ _ hst₂
        have N₂' : News h₀ env.locals h₂ ((I, oI₂) :: news') := fun p hp => by
          rcases List.mem_cons.mp hp with rfl | hp
          · exact ⟨hI₂, hIL, hI₀⟩
          · exact N₂ p hp
        refine wpAny_mono (turn i v m' news' h₂ tk₂ I oI₂ hlt hPv hJ' F₂ N₂' off' hb' (hG _ _ hst₂)) (fun _ s₀ h₀' => ?_) fun _ _ e => e
        refine wpAny_mono h₀' (fun _ s₂' h₂' => ?_) fun _ _ e => e
        refine wpAny_mono h₂' (fun f s₃ h₃ => ?_) fun _ _ e => e
        have fin : (∃ h' tk m₂ news₂, s₃ = { s₁ with heap := h', toks := tk } ∧ Fr h₀ env.locals h' m₂ ∧ News h₀ env.locals h' ((I, oI₂) :: news₂) ∧ (∀ p ∈ news₂, p.1 ≠ I) ∧ (∀ p ∈ base, p ∈ news₂) ∧ J (i + 1) m₂ news₂) →
            ∃ m, m < n + 1 - i ∧ ∃ h' tk i m' news' oI', s₃ = { s₁ with heap := h', toks := tk } ∧ i ≤ n ∧ m = n + 1 - i ∧ St i h' ∧ Fr h₀ env.locals h' m' ∧ News h₀ env.locals h' ((I, oI') :: news') ∧ (∀ p ∈ news', p.1 ≠ I) ∧ (∀ p ∈ base, p ∈ news') ∧ J i m' news' := by
          rintro ⟨h₄, tk₄, m₄, news₄, rfl, F₄, N₄, off₄, hb₄, hJ₄⟩
          exact ⟨n + 1 - (i + 1), by omega, h₄, tk₄, i + 1, m₄, news₄, oI₂, rfl, hlt, rfl, stf _ _ _ _ _ _ _ _ hst₂ F₂ F₄ N₂' N₄ hb' hb₄, F₄, N₄, off₄, hb₄, hJ₄⟩
        cases f with
        | next => exact fin h₃
        | cont => exact fin h₃
        | brk => exact h₃
        | ret v => exact h₃
      · obtain rfl : i = n := Nat.le_antisymm hi (Nat.not_lt.mp hlt)
        refine W.done _ _ _ hst' fun h₂ tk₂ hk₂ => ?_
        obtain ⟨F₂, N₂⟩ := moved h₂ hk₂
        exact done h₂ tk₂ m' news' F₂ N₂ hb' hJ'
    · intro p hp
      rcases List.mem_cons.mp hp with rfl | hp
      · exact ⟨hIat, hIL, hI₀⟩
      · exact ⟨up _ _ (N p hp).1, (N p hp).2⟩
    · intro p hp e
      have := (N p hp).1
      rw [e, fresh] at this; cases this
  exact loop
end
end Mine
end

-- part C4
section
local macro_rules | `(tactic| walk_at "idle 0") => `(tactic| skip)
theorem Mine.off_C4 : True := by w_top off; trivial
open PySem PySem.W PySem.Spec PySem.Calls PyProof.Rows PyProof.Rows.LCg
set_option maxRecDepth 100000
namespace Mine
theorem fill4 : (PySem.Challenge.rw_ey0011_01 = PySem.Challenge.rw_ey0011_01) ∧ hd.heap_39 = hd.heap_39 := by
  k_fill
  exact ⟨rfl, rfl⟩
local macro_rules | `(tactic| walk_at "go") => `(tactic| repeat' ((fail_if_success (with_reducible show wpAny _ _ (eval (PySem.Expr.ListComp _ _ _ _) _) _ _ _)); (fail_if_success (with_reducible show wpAny _ _ (call (Value.type "dict") _ _) _ _ _)); (fail_if_success (with_reducible show wpAny _ _ (exec (PySem.Stmt.For _ _ _ _ _) _) _ _ _)); (first | (k_unfold; (try dsimp only)) | (k_end; wrow_close) | walk1 | (dsimp only; walk1) | (leave1; walk_say "STEP leave1"; try dsimp only))))

def distL (one other : List Fld) (b : Bool) : List Str → Int → Option Int
  | [], t => some t
  | c :: cs, t =>
    if getF one c ≠ getF other c ∧ (getF one c = 0 ∨ getF other c = 0) then (if b = true then distL one other b cs (t + 4096) else none)
    else if (c == Str.ofString "M") = true ∧ (decide (2 < getF one c) != decide (2 < getF other c)) = true then distL one other b cs (t + 256)
    else distL one other b cs (t + (if getF one c - getF other c < 0 then -(getF one c - getF other c) else getF one c - getF other c))
section
variable {one other : List Fld} {b : Bool} {c : Str} {cs : List Str} {t : Int}
theorem dl_let (h1 : getF one c ≠ getF other c) (h2 : getF one c = 0 ∨ getF other c = 0) (hb : b = true) : distL one other b (c :: cs) t = distL one other b cs (t + 4096) := by
  simp only [distL]; rw [if_pos ⟨h1, h2⟩, if_pos hb]
theorem dl_no (h1 : getF one c ≠ getF other c) (h2 : getF one c = 0 ∨ getF other c = 0) (hb : b = false) : distL one other b (c :: cs) t = none := by
  simp only [distL]; rw [if_pos ⟨h1, h2⟩, if_neg (by simp [hb])]
theorem dl_m (h1 : getF one c = getF other c ∨ (getF one c ≠ 0 ∧ getF other c ≠ 0)) (hM : (c == Str.ofString "M") = true) (hx : (decide (2 < getF one c) != decide (2 < getF other c)) = true) : distL one other b (c :: cs) t = distL one other b cs (t + 256) := by
  simp only [distL]
  rw [if_neg (by rintro ⟨a, d⟩; rcases h1 with h | ⟨h, h'⟩; exact a h; rcases d with d | d; exact h d; exact h' d), if_pos ⟨hM, hx⟩]
theorem dl_abs (h1 : getF one c = getF other c ∨ (getF one c ≠ 0 ∧ getF other c ≠ 0)) (hx : (c == Str.ofString "M") = false ∨ (decide (2 < getF one c) != decide (2 < getF other c)) = false) :
    distL one other b (c :: cs) t = distL one other b cs (t + (if getF one c - getF other c < 0 then -(getF one c - getF other c) else getF one c - getF other c)) := by
  simp only [distL]
  rw [if_neg (by rintro ⟨a, d⟩; rcases h1 with h | ⟨h, h'⟩; exact a h; rcases d with d | d; exact h d; exact h' d), if_neg (by rintro ⟨a, d⟩; rcases hx with h | h; rw [h] at a; cases a; rw [h] at d; cases d)]
end
def DRes : Option Int → Value → Prop
  | none, r => r = .none
  | some t, r => ∃ u, r = .int t u
def signs (x : Str) : List Str := x.cps.toList.map fun c => ⟨#[c]⟩

theorem signs_drop {x : Str} {i c : Nat} (h : x.cps[i]? = some c) : (signs x).drop i = ⟨#[c]⟩ :: (signs x).drop (i + 1) := by
  obtain ⟨hlt, he⟩ := Array.getElem?_eq_some_iff.mp h
  have hl : i < (signs x).length := by unfold signs; rw [List.length_map, Array.length_toList]; exact hlt
  have e : (signs x)[i] = ⟨#[c]⟩ := by simp only [signs, List.getElem_map, Array.getElem_toList, he]
  rw [List.drop_eq_getElem_cons hl, e]
theorem LEnd.nextI {h₀ h' : Heap} {L I : Addr} {oI : Obj} {s₁ : Shared} {base : Led} {J : (Str → Option Value) → Led → Prop} {Q : Flow → Shared → Prop} {m₂ : Str → Option Value} {tk : Nat} {news₂ all : Led}
    (F : Fr h₀ L h' m₂) (N : News h₀ L h' all) (sub : ∀ p ∈ (I, oI) :: news₂, p ∈ all) (off : ∀ p ∈ news₂, p.1 ≠ I) (hb : ∀ p ∈ base, p ∈ news₂) (hJ : J m₂ news₂) : LEnd h₀ L I oI s₁ base J Q .next { s₁ with heap := h', toks := tk } :=
  ⟨h', tk, m₂, news₂, rfl, F, fun p hp => N p (sub p hp), off, hb, hJ⟩

theorem flat_int {v : Value} {n : Int} (h : PyProof.V.Flat v (.int n)) : ∃ t, v = .int n t := by
  cases h {} with
  | int i t => exact ⟨t, rfl⟩

theorem lookup_dictD (c : Str) : ∀ fs : List Fld, (PySem.Spec.lookup (.str c) (dictD fs)).getD (.int 0) = .int (getF fs c)
  | [] => rfl
  | (k, x) :: r => by
    have ih := lookup_dictD c r
    have e : PySem.Spec.same (PyData.str k) (PyData.str c) = decide (k = c) := PyProof.V.same_str _ _
    have e' : PySem.Spec.lookup (.str c) (dictD ((k, x) :: r)) = if PySem.Spec.same (PyData.str k) (PyData.str c) = true then some (PyData.int x) else PySem.Spec.lookup (.str c) (dictD r) := rfl
    rw [e', e]
    by_cases h : k = c
    · subst h; simp [getF]
    · rw [if_neg (by simpa using h), ih]
      simp [getF, h]

theorem get_int {prog : Program} {w : World} {A : Around} {E : Value → Shared → Prop} {s : Shared} {h₀ : Heap} {L D : Addr} {news : Led} {o : Obj} {kvs : List (Str × Value)} {fs : List Fld} {c : Str} {t u : Tok} {Q : Value → Shared → Prop}
    (N : News h₀ L s.heap news) (hm : (D, o) ∈ news) (hd : o.IsDictOf (PySem.strKind prog w) kvs) (hp : Paired kvOf kvs fs) (hne : (D == sysModules) = false)
    (h : ∀ t', Q (.int (getF fs c) t') { s with toks := s.toks + 1 }) : wpAny (model prog w) A (call (.builtin "dict.get") [.ref D, .str c t, .int 0 u]) Q E s := by
  refine call_get2_strTab (strTab_of (N _ hm).1 hd hp hne) (PyProof.V.Flat.int _ _) fun v hv => ?_
  rw [lookup_dictD] at hv
  obtain ⟨t', rfl⟩ := flat_int hv
  exact h t'
theorem meth_get {prog : Program} {w : World} {A : Around} {E : Value → Shared → Prop} {s : Shared} {h₀ : Heap} {L D : Addr} {news : Led} {o : Obj} {kvs : List (Str × Value)} {fs : List Fld} {pl : Sem Bool} {Q : Value × List Value → Shared → Prop}
    (N : News h₀ L s.heap news) (hm : (D, o) ∈ news) (hd : o.IsDictOf (PySem.strKind prog w) kvs) (hp : Paired kvOf kvs fs) (hne : (D == sysModules) = false)
    (h : Q (.builtin "dict.get", [.ref D]) s) : wpAny (model prog w) A (getMethod (.ref D) (Str.ofString "get") pl) Q E s :=
  getMethod_strTab_get (strTab_of (N _ hm).1 hd hp hne) h
local macro_rules | `(tactic| k_mem) => `(tactic| first | assumption | exact List.Mem.head _ | (refine' List.Mem.tail _ ?_; k_mem))
local macro_rules | `(tactic| walk_at "call builtin:dict.get") => `(tactic| (k_here; (with_reducible rename News _ _ _ _ => N9); k_dflt (refine' get_int N9 ?m ?d ?p ?e ?_; (case m => k_mem); (case d => k_asm); (case p => k_asm); (case e => k_asm)); intro t9))
local macro_rules | `(tactic| walk_at "getMethod ref") => `(tactic| (k_here; (with_reducible rename News _ _ _ _ => N9); k_dflt (refine' meth_get N9 ?m ?d ?p ?e ?_; (case m => k_mem); (case d => k_asm); (case p => k_asm); (case e => k_asm))))
local macro_rules | `(tactic| walk_at "eval Name") => `(tactic| (k_here; (with_reducible rename Fr _ _ _ _ => F9); k_dflt (refine' ld F9 ?v ?_; (case v => assumption))))

set_option maxHeartbeats 8000000 in
theorem dist_spec {w : World} {A : Around} {p : Program} {loose : List Str} {mean : ExcName → Option Value} {mg mb : Str → Option Value} {s : Shared} {v₁ v₂ : Value} {fs₁ fs₂ : List Fld} {b : Bool}
    (C : Cx w A p loose mean mg mb s.heap) (hd : A.depth + 1 < recursionLimit) (hv₁ : IsPairs (inH s.heap) v₁ fs₁) (hv₂ : IsPairs (inH s.heap) v₂ fs₂) (hn₁ : (fs₁.map (·.1)).Nodup) (hn₂ : (fs₂.map (·.1)).Nodup) (hl₁ : fs₁.length ≤ 16) (hl₂ : fs₂.length ≤ 16) :
    Gives (model prg w) A s (call (.ref 97) [v₁, v₂, .bool b]) (fun _ r => DRes (distL fs₁ fs₂ b (signs (Str.ofString "yMdHkKhmzvabB")) 0) r) := by
  obtain ⟨X, T, hh⟩ := C
  obtain ⟨hdl, dp, frs, gds, un⟩ := A
  obtain rfl : hdl = none := hh
  have hh : ({ handled := none, depth := dp, frames := frs, guards := gds, units := un } : Around).handled = none := rfl
  obtain ⟨a₁, its₁, n₁, rfl, ha₁, hP₁⟩ := hv₁
  obtain ⟨a₂, its₂, n₂, rfl, ha₂, hP₂⟩ := hv₂
  refine Gives.enter X T.nolimit (by k_is) (by k_is) (Nat.lt_of_succ_lt hd) (BindsTo.of_eq rfl) (locs rfl) ?_
  intro L h₁ tk F N
  (try dsimp only); (try k_fold)
  walk_at "go"
  refine call_dict hh (T.nolimit.keeps F.keep) (F.keep _ _ ha₁) (paired_mono (fun _ _ => IsPair.mono F.keep) hP₁) hn₁ (Nat.le_trans hl₁ (by decide)) ?_
  intro h₂ tk₂ D₁ o₁ kvs₁ M₁ hd₁ hp₁ hne₁
  have F₂ := M₁.fr F
  have N₂ : News s.heap L h₂ [(D₁, o₁)] := M₁.news F N
  clear F N
  walk_at "go"
  refine call_dict hh (T.nolimit.keeps F₂.keep) (F₂.keep _ _ ha₂) (paired_mono (fun _ _ => IsPair.mono F₂.keep) hP₂) hn₂ (Nat.le_trans hl₂ (by decide)) ?_
  intro h₃ tk₃ D₂ o₂ kvs₂ M₂ hd₂ hp₂ hne₂
  have F₃ := M₂.fr F₂
  have N₃ : News s.heap L h₃ [(D₂, o₂), (D₁, o₁)] := M₂.news F₂ N₂
  have l21 : @LT.lt Nat _ D₁ D₂ ∨ @LT.lt Nat _ D₂ D₁ := Nat.lt_or_gt_of_ne (M₂.apart N₂ _ (.head _) _ (.head _))
  clear F₂ N₂
  walk_at "go"
  with_reducible rename Fr _ _ _ _ => F₄
  with_reducible rename News _ _ _ _ => N₄
  refine for_loop (h₀ := s.heap) (fun i m _ => m (Str.ofString "first") = some (.ref D₁) ∧ m (Str.ofString "second") = some (.ref D₂) ∧ m (Str.ofString "is_let") = some (.bool b) ∧
    ∃ tot t, m (Str.ofString "total") = some (.int tot t) ∧ distL fs₁ fs₂ b (signs (Str.ofString "yMdHkKhmzvabB")) 0 = distL fs₁ fs₂ b ((signs (Str.ofString "yMdHkKhmzvabB")).drop i) tot) ?_
  walk1
  refine ⟨_, _, _, _, _, _, [(D₂, o₂), (D₁, o₁)], SrcS.str rfl, F₄, N₄, ⟨rfl, rfl, rfl, 0, _, rfl, rfl⟩, fun p hp => .tail _ hp, (fun b hb => nomatch hb), ?_, ?_⟩
  · rintro i v m₁ news₁ h tk I oI hi ⟨c, u, hc, rfl⟩ ⟨j1, j2, j3, tot, t, j4, j5⟩ F N off hbase -
    have hm₁ := hbase (D₁, o₁) (.tail _ (.head _))
    have hm₂ := hbase (D₂, o₂) (.head _)
    refine wpAny_pure ?_
    refine wpAny_assign_Name (stN F N ?_)
    intro h' F' N'
    clear F N F₄ N₄
    have hdrop := signs_drop hc
    rw [hdrop] at j5
    walk_at "go"
    all_goals first
      | (with_reducible rename Fr _ _ _ _ => F9; with_reducible rename News _ _ _ _ => N9
         refine LEnd.nextI F9 N9 (fun p hp => .tail _ hp) off hbase ⟨by assumption, by assumption, by assumption, _, _, rfl, ?_⟩
         rw [j5]
         first
         | exact dl_let (by assumption) (.inl (by assumption)) (by assumption)
         | exact dl_let (by assumption) (.inr (by assumption)) (by assumption)
         | exact dl_m (.inl (by assumption)) (by assumption) (by assumption)
         | exact dl_m (.inr ⟨by assumption, by assumption⟩) (by assumption) (by assumption)
         | exact dl_abs (.inl (by assumption)) (.inl (by assumption))
         | exact dl_abs (.inl (by assumption)) (.inr (by assumption))
         | exact dl_abs (.inr ⟨by assumption, by assumption⟩) (.inl (by assumption))
         | exact dl_abs (.inr ⟨by assumption, by assumption⟩) (.inr (by assumption)))
      | (with_reducible rename Fr _ _ _ _ => F9; with_reducible rename News _ _ _ _ => N9
         refine FnEnd.intro F9 N9 ?_
         rw [j5]
         first
         | (rw [dl_no (by assumption) (.inl (by assumption)) (by assumption)]; rfl)
         | (rw [dl_no (by assumption) (.inr (by assumption)) (by assumption)]; rfl))
  · rintro h' tk m' news' F N hb ⟨j1, j2, j3, tot, t, j4, j5⟩
    clear F₄ N₄
    dsimp only
    walk_at "go"
    dsimp only
    with_reducible rename Fr _ _ _ _ => F9
    with_reducible rename News _ _ _ _ => N9
    refine FnEnd.intro F9 N9 ?_
    rw [j5]
    exact ⟨_, rfl⟩
end Mine
end

-- part Mut
section
local macro_rules | `(tactic| walk_at "idle 0") => `(tactic| skip)
local macro_rules | `(tactic| walk_at "idle 1") => `(tactic| skip)
local macro_rules | `(tactic| walk_at "idle 2") => `(tactic| skip)
local macro_rules | `(tactic| walk_at "idle 3") => `(tactic| skip)
local macro_rules | `(tactic| walk_at "idle 4") => `(tactic| skip)
local macro_rules | `(tactic| walk_at "idle 5") => `(tactic| skip)
local macro_rules | `(tactic| walk_at "idle 6") => `(tactic| skip)
local macro_rules | `(tactic| walk_at "idle 7") => `(tactic| skip)
local macro_rules | `(tactic| walk_at "idle 8") => `(tactic| skip)
local macro_rules | `(tactic| walk_at "idle 9") => `(tactic| skip)
theorem Mine.off_Mut : True := by w_top off; trivial
open PySem PySem.W PySem.Spec PySem.Calls PyProof.Rows PyProof.Rows.LCg
set_option maxRecDepth 100000
namespace Mine
theorem fill5 : (PySem.Challenge.rw_ey0011_01 = PySem.Challenge.rw_ey0011_01) ∧ hd.heap_39 = hd.heap_39 := by
  k_fill
  exact ⟨rfl, rfl⟩

structure CxR (w : World) (A : Around) (p : Program) (loose : List Str) (mg mb : Str → Option Value) (h : Heap) : Prop where
  X : (hd.heap_39 w.params).In h
  T : TopRead p loose mg mb h
  hh : A.handled = none

def MutEnd (g : Heap) (s : Shared) (P : Led → Value → Prop) (fl : Flow) (s' : Shared) : Prop :=
  ∃ L m h' tk mu', s' = { s with heap := h', toks := tk } ∧ Fr g L h' m ∧ News g L h' mu' ∧ P mu' (match fl with | .ret v => v | _ => .none)

section
variable {w : World} {A : Around} {s : Shared} {p : Program} {loose : List Str} {mg mb : Str → Option Value}
theorem call_mut {E : Value → Shared → Prop} {P : Led → Value → Prop} {Q : Value → Shared → Prop} {name qual : Str} {params : Arguments} {body : List Stmt} {scope : Scope} {dV kV doc pm cdv ct oc : Value} {an od : Option Addr} {osl : Array (Option Value)} {f : Addr} {args : List Value} {binds : List (Str × Value)}
    {K : Frag} {prog : Program} {h₀ : Heap} {L : Addr} {m : Str → Option Value} {mu rest : Led}
    (X : K.In h₀) (T : TopRead p loose mg mb h₀) (F : Fr h₀ L s.heap m) (N : News h₀ L s.heap (mu ++ rest)) (hdis : ∀ q ∈ rest, q.1 ∉ mu.map (·.1))
    (ho : K.lookup f = some ⟨oc, od, .func (fnOf name qual params body scope dV kV doc pm an cdv ct), osl⟩) (hcd : codeIn K cdv qual = true) (hroom : A.depth < recursionLimit)
    (hbind : BindsTo s (fnOf name qual params body scope dV kV doc pm an cdv ct) ⟨args, []⟩ binds) (hloc : ∀ y ∈ binds, scope.names.lookup y.1 = some .local)
    (h : ∀ g L' h₁ tk, K.In g → TopRead p loose mg mb g → Fr g L' h₁ (fun y => binds.reverse.lookup y) → News g L' h₁ mu →
      wpAny (model prog w) (A.deeper (envOf qual scope L' f cdv)) (execs body (envOf qual scope L' f cdv)) (MutEnd g s P) (fun _ _ => False) { s with heap := h₁, toks := tk })
    (hQ : ∀ v h' tk mu', P mu' v → Fr h₀ L h' m → News h₀ L h' (mu' ++ rest) → (∀ p ∈ mu', ∀ q ∈ rest, p.1 ≠ q.1) → Q v { s with heap := h', toks := tk })
    (hco : scope.isCoroutine = false := by rfl) (hgen : scope.isGenerator = false := by rfl) (hk : scope.kind = .function := by rfl)
    (hcell : ∀ x ∈ scope.names, x.2 ≠ .cell := by decide) : wpAny (model prog w) A (call (.ref f) args) Q E s := by
  have Xs := X.keeps F.keep
  have nm : ∀ b o, h₀.get? b = some o → b ∉ mu.map (·.1) := fun b o e q => by
    obtain ⟨p, hp, rfl⟩ := List.mem_map.mp q
    rw [(N p (List.mem_append_left _ hp)).2.2] at e; cases e
  have st : ∀ b o, h₀.get? b = some o → (hideAll s.heap (mu.map (·.1))).get? b = some o := fun b o e => hideAll_get _ (F.keep b o e) (nm b o e)
  obtain ⟨oL, es, ep, hL, hLd, hLk, hLf⟩ := id F.ns
  have nL : L ∉ mu.map (·.1) := fun q => by
    obtain ⟨p, hp, e⟩ := List.mem_map.mp q
    exact (N p (List.mem_append_left _ hp)).2.1 e
  have hLg := hideAll_get (mu.map (·.1)) hL nL
  refine wpAny_call (codeAny_call_def (fd := fnOf name qual params body scope dV kV doc pm an cdv ct) (body := body) (binds := binds) hroom (Xs _ _ ho) rfl (T.nolimit.keeps F.keep) (codeRec_of Xs hcd) rfl hbind hcell hloc (fun h₁ hns hk₁ => ?_) hco hgen hk)
  refine wpAny_mono (h (hideAll s.heap (mu.map (·.1))) s.heap.objs.size h₁ _ (X.keeps st) (T.keeps st) ⟨hns, fun b o e => hk₁ b o (of_hideAll _ e), Nat.le_of_eq (hideAll_size _ _)⟩
    (fun p hp => ⟨hk₁ _ _ (N p (List.mem_append_left _ hp)).1, Nat.ne_of_lt (Heap.lt_size (N p (List.mem_append_left _ hp)).1), hideAll_none _ (List.mem_map_of_mem hp)⟩)) (fun fl s' hl => ?_) fun _ _ y => y.elim
  obtain ⟨L', m', h', tk, mu', rfl, F', N', hP⟩ := hl
  have Fn : Fr h₀ L h' m := ⟨⟨oL, es, ep, F'.keep L oL hLg, hLd, hLk, hLf⟩, fun b o e => F'.keep b o (st b o e), F.above⟩
  have dj : ∀ p ∈ mu', ∀ q ∈ rest, p.1 ≠ q.1 := fun p hp q hq e => by
    have z := (N' p hp).2.2
    have z' := hideAll_get (mu.map (·.1)) (N q (List.mem_append_right _ hq)).1 (hdis q hq)
    rw [e, z'] at z; cases z
  refine hQ _ h' tk mu' hP Fn (fun p hp => ?_) dj
  rcases List.mem_append.mp hp with hp | hp
  · refine ⟨(N' p hp).1, fun q => ?_, ?_⟩
    · have := (N' p hp).2.2; rw [q, hLg] at this; cases this
    · cases q : h₀.get? p.1 with
      | none => rfl
      | some o => have := (N' p hp).2.2; rw [st _ _ q] at this; cases this
  · have z := N p (List.mem_append_right _ hp)
    exact ⟨F'.keep _ _ (hideAll_get _ z.1 (hdis p hp)), z.2⟩

local macro_rules | `(tactic| walk_at "go") => `(tactic| repeat' (first | (k_unfold; (try dsimp only)) | (k_end; wrow_close) | walk1 | (dsimp only; walk1) | (leave1; walk_say "STEP leave1"; try dsimp only)))

set_option maxHeartbeats 8000000 in
theorem append_field_call {E : Value → Shared → Prop} {Q : Value → Shared → Prop} {h₀ : Heap} {L : Addr} {m : Str → Option Value} {rest : Led} {r c d : Addr} {rs : Array Value} {ch : Str} {x : Int} {t u : Tok} {n₁ n₂ n₃ : Nat}
    (X : (hd.heap_39 w.params).In h₀) (T : TopRead p loose mg mb h₀) (hh : A.handled = none) (hroom : A.depth < recursionLimit) (F : Fr h₀ L s.heap m) (N : News h₀ L s.heap ((r, listOf rs n₁) :: (c, listOf #[.str ch t] n₂) :: (d, listOf #[.int x u] n₃) :: rest))
    (hdis : ∀ q ∈ rest, q.1 ≠ r ∧ q.1 ≠ c ∧ q.1 ≠ d) (hrc : r ≠ c) (hrd : r ≠ d) (hcd : c ≠ d) (hsz : rs.size ≤ sizeLine)
    (hQ : ∀ h' tk a b n₁' n₂' n₃' t₁ u₁ t₂ u₂ t₃, Fr h₀ L h' m → News h₀ L h' ((r, listOf (rs.push (.ref a)) n₁') :: (c, listOf #[.str (Str.ofString "") t₂] n₂') :: (d, listOf #[.int 0 u₂] n₃') :: (a, tupO #[.str (Str.ofString "field") t₃, .ref b] 0) :: (b, tupO #[.str ch t₁, .int x u₁] 0) :: rest) → (∀ q ∈ rest, a ≠ q.1 ∧ b ≠ q.1) →
      Q .none { s with heap := h', toks := tk }) :
    wpAny (model prg w) A (call (.ref 60) [.ref r, .ref c, .ref d]) Q E s := by
  obtain ⟨hdl, dp, frs, gds, un⟩ := A
  obtain rfl : hdl = none := hh
  refine call_mut (p := p) (loose := loose) (mg := mg) (mb := mb) (mu := [(r, listOf rs n₁), (c, listOf #[.str ch t] n₂), (d, listOf #[.int x u] n₃)]) (rest := rest)
    (P := fun mu' v => v = .none ∧ ∃ a b n₁' n₂' n₃' t₁ u₁ t₂ u₂ t₃, mu' = [(a, tupO #[.str (Str.ofString "field") t₃, .ref b] 0), (b, tupO #[.str ch t₁, .int x u₁] 0), (r, listOf (rs.push (.ref a)) n₁'), (c, listOf #[.str (Str.ofString "") t₂] n₂'), (d, listOf #[.int 0 u₂] n₃')])
    X T F N (fun q hq => by have := hdis q hq; simp [this.1, this.2.1, this.2.2]) (by k_is) (by k_is) hroom (BindsTo.of_eq rfl) (locs rfl) ?_ ?_
  · intro g L' h₁ tk X' T' F' N'
    clear X T F N
    have e1 : @LT.lt Nat _ r c ∨ @LT.lt Nat _ c r := Nat.lt_or_gt_of_ne hrc
    have e2 : @LT.lt Nat _ r d ∨ @LT.lt Nat _ d r := Nat.lt_or_gt_of_ne hrd
    have e3 : @LT.lt Nat _ c d ∨ @LT.lt Nat _ d c := Nat.lt_or_gt_of_ne hcd
    (try dsimp only); (try k_fold)
    walk_at "go"
    with_reducible rename Fr _ _ _ _ => F9
    with_reducible rename News _ _ _ _ => N9
    exact ⟨_, _, _, _, _, rfl, F9, N9, rfl, _, _, _, _, _, _, _, _, _, _, rfl⟩
  · rintro v h' tk mu' ⟨rfl, a, b, n₁', n₂', n₃', t₁, u₁, t₂, u₂, t₃, rfl⟩ F' N' dj
    refine hQ h' tk a b n₁' n₂' n₃' t₁ u₁ t₂ u₂ t₃ F' (fun q hq => N' q ?_) fun q hq => ⟨dj _ (.head _) q hq, dj _ (.tail _ (.head _)) q hq⟩
    rcases List.mem_cons.mp hq with rfl | hq
    · exact .tail _ (.tail _ (.head _))
    rcases List.mem_cons.mp hq with rfl | hq
    · exact .tail _ (.tail _ (.tail _ (.head _)))
    rcases List.mem_cons.mp hq with rfl | hq
    · exact .tail _ (.tail _ (.tail _ (.tail _ (.head _))))
    rcases List.mem_cons.mp hq with rfl | hq
    · exact .head _
    rcases List.mem_cons.mp hq with rfl | hq
    · exact .tail _ (.head _)
    · exact .tail _ (.tail _ (.tail _ (.tail _ (.tail _ hq))))
end
end Mine
end

-- part Pat
section
open PySem PySem.W PySem.Spec PySem.Calls PyProof.Rows PyProof.Rows.LCg
set_option maxRecDepth 100000
namespace Mine

def patKeys : List Str := [Str.ofString "G", Str.ofString "y", Str.ofString "Y", Str.ofString "u", Str.ofString "Q", Str.ofString "q", Str.ofString "M", Str.ofString "L", Str.ofString "w", Str.ofString "W", Str.ofString "d", Str.ofString "D", Str.ofString "F", Str.ofString "g", Str.ofString "E", Str.ofString "e", Str.ofString "c", Str.ofString "a", Str.ofString "b", Str.ofString "B", Str.ofString "h", Str.ofString "H", Str.ofString "K", Str.ofString "k", Str.ofString "m", Str.ofString "s", Str.ofString "S", Str.ofString "A", Str.ofString "z", Str.ofString "Z", Str.ofString "O", Str.ofString "v", Str.ofString "V", Str.ofString "x", Str.ofString "X"]

inductive PatRows (w : World) : List DictEntry → List Str → Prop
  | nil : PatRows w [] []
  | cons {e : DictEntry} {x : Str} {t : Tok} {es : List DictEntry} {ks : List Str} : e.key = .str x t → e.hash = (PySem.strKind prg w).hash x → PatRows w es ks → PatRows w (e :: es) (x :: ks)

theorem PatRows.keys {w : World} {es : List DictEntry} {ks : List Str} (h : PatRows w es ks) : ∀ e ∈ es, ∃ k, (PySem.strKind prg w).is k e.key = true ∧ e.hash = (PySem.strKind prg w).hash k := by
  induction h with
  | nil => intro e he; cases he
  | @cons e x t es ks hk hh _ ih =>
    intro e' he
    rcases List.mem_cons.mp he with rfl | he
    · exact ⟨x, by rw [hk]; exact strKind_is prg w x t, hh⟩
    · exact ih e' he
theorem PatRows.pairs {w : World} {es : List DictEntry} {ks : List Str} (h : PatRows w es ks) : ∃ kvs, Pairs (PySem.strKind prg w) es kvs ∧ kvs.map (·.1) = ks := by
  induction h with
  | nil => exact ⟨[], .nil, rfl⟩
  | @cons e x t es ks hk hh _ ih =>
    obtain ⟨kvs, hp, hm⟩ := ih
    exact ⟨(x, e.val) :: kvs, .cons (by rw [hk]; exact strKind_is prg w x t) rfl hp, by rw [List.map_cons, hm]⟩


theorem PatRows.dictAt {w : World} {h : Heap} {a : Addr} {o : Obj} {es : Array DictEntry} {ep : Nat} {ks : List Str} (ho : h.get? a = some o) (hc : o.ExactDict) (hd : o.data = .dict es ep)
    (r : PatRows w es.toList ks) (nd : ks.Nodup) : ∃ kvs ep, h.DictAt (PySem.strKind prg w) a kvs ep ∧ kvs.map (·.1) = ks := by
  obtain ⟨kvs, hp, hm⟩ := r.pairs
  exact ⟨kvs, ep, ⟨o, es, ho, hc, hd, fun e he => r.keys e (by simpa using he), hp, hm ▸ nd⟩, hm⟩

set_option maxHeartbeats 4000000 in
theorem pat_at {w : World} {h : Heap} (X : (hd.heap_39 w.params).In h) : ∃ kvs ep, h.DictAt (PySem.strKind prg w) 15 kvs ep ∧ kvs.map (·.1) = patKeys := by
  refine PatRows.dictAt (X 15 _ rfl) ⟨rfl, rfl, rfl⟩ rfl ?_ (by unfold patKeys; decide)
  unfold patKeys
  repeat' (first | exact PatRows.nil | refine PatRows.cons rfl rfl ?_)
end Mine
end

-- part C5
section
local macro_rules | `(tactic| walk_at "idle 0") => `(tactic| skip)
theorem Mine.off_C5 : True := by w_top off; trivial
open PySem PySem.W PySem.Spec PySem.Calls PyProof.Rows PyProof.Rows.LCg
set_option maxRecDepth 100000
namespace Mine
theorem fill6 : (PySem.Challenge.rw_ey0011_01 = PySem.Challenge.rw_ey0011_01) ∧ hd.heap_39 = hd.heap_39 := by
  k_fill
  exact ⟨rfl, rfl⟩

def IsTok (lk : Lk) (v : Value) (p : Fld) : Prop := ∃ a b n n' t t₁ u₁, v = .ref a ∧ lk a (tupO #[.str (Str.ofString "field") t, .ref b] n) ∧ lk b (tupO #[.str p.1 t₁, .int p.2 u₁] n')
theorem IsTok.mono {lk lk' : Lk} (h : ∀ a o, lk a o → lk' a o) {v p} (x : IsTok lk v p) : IsTok lk' v p := let ⟨a, b, n, n', t, t₁, u₁, e, z, z'⟩ := x; ⟨a, b, n, n', t, t₁, u₁, e, h _ _ z, h _ _ z'⟩
def IsToks (lk : Lk) (v : Value) (fs : List Fld) : Prop := ∃ a its n, v = .ref a ∧ lk a (listOf its n) ∧ Paired (IsTok lk) its.toList fs
theorem IsToks.mono {lk lk' : Lk} (h : ∀ a o, lk a o → lk' a o) {v fs} (x : IsToks lk v fs) : IsToks lk' v fs := let ⟨a, its, n, e, z, p⟩ := x; ⟨a, its, n, e, h _ _ z, paired_mono (fun _ _ => IsTok.mono h) p⟩

abbrev TSt := List Fld × Str × Int
def tpush (st : TSt) : List Fld := if st.2.1.length = 0 then st.1 else st.1 ++ [(st.2.1, st.2.2)]
def tstep (st : TSt) (c : Str) : TSt := if (c == st.2.1) = true then (st.1, st.2.1, st.2.2 + 1) else (tpush st, c, 1)
def toksOf (x : Str) : List Fld := tpush ((signs x).foldl tstep ([], Str.ofString "", 0))
theorem tstep_eq {done : List Fld} {cur : Str} {num : Int} {c : Str} (h : (c == cur) = true) : tstep (done, cur, num) c = (done, cur, num + 1) := by
  unfold tstep; rw [if_pos h]
theorem tstep_ne {done : List Fld} {cur : Str} {num : Int} {c : Str} (h : (c == cur) = false) (hn : cur.length ≠ 0) : tstep (done, cur, num) c = (done ++ [(cur, num)], c, 1) := by
  unfold tstep tpush; rw [if_neg (by rw [h]; decide), if_neg hn]
theorem tstep_zero {done : List Fld} {cur : Str} {num : Int} {c : Str} (h : (c == cur) = false) (hn : cur.length = 0) : tstep (done, cur, num) c = (done, c, 1) := by
  unfold tstep tpush; rw [if_neg (by rw [h]; decide), if_pos hn]
theorem take_snoc {x : Str} {i c : Nat} (h : x.cps[i]? = some c) : (signs x).take (i + 1) = (signs x).take i ++ [⟨#[c]⟩] := by
  obtain ⟨hl, he⟩ := Array.getElem?_eq_some_iff.mp h
  have hl' : i < (signs x).length := by simpa [signs] using hl
  have e : (signs x)[i] = ⟨#[c]⟩ := by simp only [signs, List.getElem_map, Array.getElem_toList, he]
  rw [List.take_succ_eq_append_getElem hl', e]
/-- the letters that PATTERN_CHARS has and the law uses -/
def letters : List Nat := [121, 77, 100, 72, 107, 75, 104, 109, 122, 118, 97, 98, 66]

section
variable {prog : Program} {w : World} {A : Around} {E : Value → Shared → Prop} {s : Shared} {x y z : Str} {t u v : Tok} {Q : Value → Shared → Prop}
theorem replace_none (ho : (Builtin.Str.occurrences x y 0 x.length (x.length + 1)).isEmpty = true) (h : Q (.str x t) s) :
    wpAny (model prog w) A (call (.builtin "str.replace") [.str x t, .str y u, .str z v]) Q E s := by
  refine call_gives F.slot_str_replace (typeIs_str _ _ _) F.entry_str_replace (F.args_str_replace_3 _ _ _) (gives_str_replace x y z t u v fun hc => by rw [ho] at hc; simp at hc) ?_
  rw [ho]
  exact h
end

theorem kind_ne {h₀ h : Heap} {L a b : Addr} {news : Led} {o o' : Obj} (N : News h₀ L h news) (ha : (a, o) ∈ news) (hb : (b, o') ∈ news) (hne : o ≠ o') : a ≠ b := fun e => by
  have z := (N _ ha).1
  rw [show (a, o).1 = b from e, (N _ hb).1] at z
  exact hne (Option.some.inj z).symm
theorem tup_list {a b : Array Value} {n k : Nat} : tupO a n ≠ listOf b k := fun e => by injection e with e1; injection e1 with e1; revert e1; decide
theorem all_cons {x : Addr × Obj} {r : Led} {d : Addr} (h : x.1 ≠ d) (h' : ∀ p ∈ r, p.1 ≠ d) : ∀ p ∈ x :: r, p.1 ≠ d := fun p hp => by
  rcases List.mem_cons.mp hp with rfl | hp
  · exact h
  · exact h' p hp
theorem tok_perm {h₀ h : Heap} {L : Addr} {x1 x2 x3 x4 x5 x6 x7 : Addr × Obj} {tl : Led} (N : News h₀ L h (x1 :: x2 :: x3 :: x4 :: x5 :: x6 :: x7 :: tl)) : News h₀ L h (x6 :: x3 :: x2 :: x7 :: x1 :: x4 :: x5 :: tl) := fun p hp => N p (by
  simp only [List.mem_cons] at hp ⊢
  rcases hp with hp | hp | hp | hp | hp | hp | hp | hp <;> simp only [hp, true_or, or_true])
local macro_rules | `(tactic| k_ne) => `(tactic| first | (show _ ≠ _; first | assumption | exact Ne.symm (by assumption)) | (refine neN ?_; (try dsimp only); omega))
local macro_rules | `(tactic| k_all) => `(tactic| first | assumption | exact List.forall_mem_nil _ | (refine' all_cons ?a ?b; (case a => k_ne); (case b => k_all)))
local macro_rules | `(tactic| k_upd) => `(tactic| first | (refine' Upd.head ?a; (case a => k_all)) | (refine' Upd.tail ?a ?b; (case a => k_ne); (case b => k_upd)))

open Builtin.Str StrLaws in
theorem occ_no (s sub : Str) (hi limit : Nat) : ∀ (l : List Nat) (free : Nat), (∀ i, subAt s sub i = false) →
    (forIn l ((#[] : Array Nat), free) (occBody s sub hi limit)).run.fst = #[]
  | [], free, _ => rfl
  | a :: l, free, hf => by
    rw [List.forIn_cons]
    unfold occBody
    rw [if_neg (fun h => by rw [hf] at h; exact absurd h.2 (by decide))]
    exact occ_no s sub hi limit l free hf
open Builtin.Str StrLaws in
theorem occ_free {x : Str} (hx : ∀ c ∈ x.cps.toList, c ∈ letters) : (Builtin.Str.occurrences x (Str.ofString "''") 0 x.length (x.length + 1)).isEmpty = true := by
  rw [occ_eq, occ_no]
  · rfl
  · intro i
    rw [StrLaws.subAt_eq]
    show (((x.cps.toList.drop i).take 2) == [39, 39]) = false
    rw [beq_eq_false_iff_ne]
    intro e
    have h39 : (39 : Nat) ∈ x.cps.toList := List.mem_of_mem_drop (List.mem_of_mem_take (i := 2) (by rw [e]; exact .head _))
    exact absurd (hx 39 h39) (by decide)
theorem q39 {c : Nat} (h : c ∈ letters) : ((⟨#[c]⟩ : Str) == Str.ofString "'") = false := by
  have : ∀ c ∈ letters, ((⟨#[c]⟩ : Str) == Str.ofString "'") = false := by decide
  exact this c h
theorem valueAt_some {K : Type} [DecidableEq K] {kvs : List (K × Value)} {k : K} (h : k ∈ kvs.map (·.1)) : (valueAt kvs k).isSome = true := by
  unfold valueAt
  rw [Option.isSome_map]
  obtain ⟨p, hp, rfl⟩ := List.mem_map.mp h
  rw [List.find?_isSome]
  exact ⟨p, hp, by simp⟩
theorem letter_in {c : Nat} (h : c ∈ letters) : (⟨#[c]⟩ : Str) ∈ patKeys := by
  have : ∀ c ∈ letters, (⟨#[c]⟩ : Str) ∈ patKeys := by decide
  exact this c h
theorem in_pat {w : World} {A : Around} {E : Value → Shared → Prop} {s : Shared} {h₀ : Heap} {L : Addr} {m : Str → Option Value} {c : Nat} {u : Tok} {Q : Value → Shared → Prop} (X : (hd.heap_39 w.params).In h₀) (F : Fr h₀ L s.heap m) (hc : c ∈ letters)
    (h : Q (.bool true) { s with toks := s.toks + 1 }) : wpAny (model prg w) A (compareOp .In (.str ⟨#[c]⟩ u) (.ref 15)) Q E s := by
  obtain ⟨kvs, ep, hk, hm⟩ := pat_at X
  refine wpAny_in_of (knd := PySem.strKind prg w) (strKind_is prg w _ _) (by decide) (hk.keep F.keep).dictOf.mapOf ?_
  rw [valueAt_some (hm ▸ letter_in hc)]
  exact h
local macro_rules | `(tactic| walk_at "compareOp In str ref") => `(tactic| (k_here; (with_reducible rename Fr _ _ _ _ => F9); k_dflt (refine' in_pat ?x F9 ?c ?_; (case x => k_asm); (case c => k_asm))))
local macro_rules | `(tactic| walk_at "setItem ref int") => `(tactic| (k_here; k_dflt (refine' ki_set ?F ?N ?a ?b ?e ?U ?_; (case F => k_asm); (case N => k_asm); (case U => k_upd); (case a => decide); (case b => decide); (case e => rfl)); intro h' F' N'))
local macro_rules | `(tactic| walk_at "truthy str") => `(tactic| (k_here; refine' P.truthy_str ?a ?_; (case a => omega)))
local macro_rules | `(tactic| k_mem) => `(tactic| first | assumption | exact List.Mem.head _ | (refine' List.Mem.tail _ ?_; k_mem))
local macro_rules | `(tactic| walk_at "eval Name") => `(tactic| (k_here; (with_reducible rename Fr _ _ _ _ => F9); k_dflt (refine' ld F9 ?v ?_; (case v => assumption))))
local macro_rules | `(tactic| walk_at "go") => `(tactic| repeat' ((fail_if_success (with_reducible show wpAny _ _ (call (Value.ref 60) _ _) _ _ _)); (fail_if_success (with_reducible show wpAny _ _ (call (Value.builtin "str.replace") _ _) _ _ _)); (fail_if_success (with_reducible show wpAny _ _ (exec (PySem.Stmt.For _ _ _ _ _) _) _ _ _)); (first | (k_unfold; (try dsimp only)) | (k_end; wrow_close) | walk1 | (dsimp only; walk1) | (leave1; walk_say "STEP leave1"; try dsimp only))))

set_option maxHeartbeats 8000000 in
theorem tok_spec {w : World} {A : Around} {p : Program} {loose : List Str} {mg mb : Str → Option Value} {s : Shared} {x : Str} {t : Tok}
    (C : CxR w A p loose mg mb s.heap) (hd : A.depth + 2 < recursionLimit) (hx : ∀ c ∈ x.cps.toList, c ∈ letters) (hlen : x.length ≤ 10000) :
    Gives (model prg w) A s (call (.ref 67) [.str x t]) (fun tl v => IsToks (inL tl) v (toksOf x)) := by
  obtain ⟨X, T, hh⟩ := C
  obtain ⟨hdl, dp, frs, gds, un⟩ := A
  obtain rfl : hdl = none := hh
  refine Gives.enter X T.nolimit (by k_is) (by k_is) (Nat.lt_of_succ_lt (Nat.lt_of_succ_lt hd)) (BindsTo.of_eq rfl) (locs rfl) ?_
  intro L h₁ tk F N
  (try dsimp only); (try k_fold)
  walk_at "go"
  rename_i r _ _ _ _ _ cb _ l1c _ _ fc _ l1f _ _ fd _ l1d _ F₄ N₄
  refine for_loop (h₀ := s.heap) (fun i m news => m (Str.ofString "result") = some (.ref r) ∧ m (Str.ofString "charbuf") = some (.ref cb) ∧ m (Str.ofString "fieldchar") = some (.ref fc) ∧ m (Str.ofString "fieldnum") = some (.ref fd) ∧ m (Str.ofString "quotebuf") = some .none ∧
    ∃ rs n₁ n₂ n₃ t u tl, news = (fd, listOf #[.int (((signs x).take i).foldl tstep ([], Str.ofString "", 0)).2.2 u] n₃) :: (fc, listOf #[.str (((signs x).take i).foldl tstep ([], Str.ofString "", 0)).2.1 t] n₂) :: (cb, listOf #[] 0) :: (r, listOf rs n₁) :: tl ∧
      Paired (IsTok (inL tl)) rs.toList (((signs x).take i).foldl tstep ([], Str.ofString "", 0)).1 ∧ (∀ q ∈ tl, q.1 ≠ fd) ∧ (∀ q ∈ tl, q.1 ≠ fc) ∧ (∀ q ∈ tl, q.1 ≠ cb) ∧ (∀ q ∈ tl, q.1 ≠ r) ∧ rs.size ≤ i ∧ (((signs x).take i).foldl tstep ([], Str.ofString "", 0)).2.1.length ≤ 1) ?_
  walk_at "go"
  refine replace_none (occ_free hx) ?_
  refine ⟨_, _, _, _, _, _, [], SrcS.str rfl, F₄, N₄, ⟨rfl, rfl, rfl, rfl, rfl, #[], 0, 0, 0, _, _, [], rfl, .nil, (fun q hq => nomatch hq), (fun q hq => nomatch hq), (fun q hq => nomatch hq), (fun q hq => nomatch hq), Nat.zero_le _, Nat.zero_le _⟩, (fun p hp => nomatch hp), (fun b hb => nomatch hb), ?_, ?_⟩
  · rintro i v m₁ news₁ h tk I oI hi ⟨c, u', hc, rfl⟩ ⟨j1, j2, j3, j4, j5, rs, n₁, n₂, n₃, t', u, tl, rfl, hP, hap1, hap2, hap3, hap4, hsz, hcur⟩ F N off - -
    refine wpAny_pure ?_
    refine wpAny_assign_Name (stN F N ?_)
    intro h' F' N'
    clear F N F₄ N₄
    have hcl : c ∈ letters := hx c (by have := List.mem_of_getElem? (l := x.cps.toList) (i := i) (a := c) (by simpa using hc); exact this)
    rcases hst : ((signs x).take i).foldl tstep ([], Str.ofString "", 0) with ⟨done, cur, num⟩
    rw [hst] at N' hP hcur
    simp only at N' hP hcur
    have iI1 : fd ≠ I := off _ (.head _)
    have iI2 : fc ≠ I := off _ (.tail _ (.head _))
    have iI3 : cb ≠ I := off _ (.tail _ (.tail _ (.head _)))
    have iI4 : r ≠ I := off _ (.tail _ (.tail _ (.tail _ (.head _))))
    have hq39 : ((⟨#[c]⟩ : Str) == Str.ofString "'") = false := q39 hcl
    have offt : ∀ p ∈ tl, p.1 ≠ I := fun p hp => off p (.tail _ (.tail _ (.tail _ (.tail _ hp))))
    have hnext : ((signs x).take (i + 1)).foldl tstep ([], Str.ofString "", 0) = tstep (done, cur, num) ⟨#[c]⟩ := by
      rw [take_snoc hc, List.foldl_append, hst]; rfl
    walk_at "go"
    · with_reducible rename Fr _ _ _ _ => F9
      with_reducible rename News _ _ _ _ => N9
      have e := tstep_eq (done := done) (num := num) (by assumption : ((⟨#[c]⟩ : Str) == cur) = true)
      rw [hnext, e]
      refine LEnd.nextI F9 N9 (fun p hp => hp) ?_ (fun b hb => nomatch hb) ⟨j1, j2, j3, j4, j5, rs, _, _, _, _, _, tl, rfl, hP, hap1, hap2, hap3, hap4, Nat.le_succ_of_le hsz, hcur⟩
      k_all
    · with_reducible rename Fr _ _ _ _ => F9
      with_reducible rename News _ _ _ _ => N9
      have hne : cur.length ≠ 0 := by omega
      have e := tstep_ne (done := done) (num := num) (by assumption : ((⟨#[c]⟩ : Str) == cur) = false) hne
      have hd' : dp + 2 < recursionLimit := hd
      have Np : News s.heap L h' ((r, listOf rs n₁) :: (fc, listOf #[.str cur t'] n₂) :: (fd, listOf #[.int num u] n₃) :: (I, oI) :: (cb, listOf #[] 0) :: tl) := fun p hp => N9 p (by
        simp only [List.mem_cons] at hp ⊢
        rcases hp with hp | hp | hp | hp | hp | hp <;> simp only [hp, true_or, or_true])
      refine append_field_call (rest := (I, oI) :: (cb, listOf #[] 0) :: tl) X T rfl (Nat.lt_of_succ_lt hd') F9 Np (fun q hq => ?_) (by k_ne) (by k_ne) (by k_ne) ?_ ?_
      · rcases List.mem_cons.mp hq with rfl | hq
        · exact ⟨Ne.symm iI4, Ne.symm iI2, Ne.symm iI1⟩
        rcases List.mem_cons.mp hq with rfl | hq
        · exact ⟨by k_ne, by k_ne, by k_ne⟩
        · exact ⟨hap4 q hq, hap2 q hq, hap1 q hq⟩
      · have : x.cps.size = x.length := rfl
        rw [sizeLine_eq]; omega
      · intro h₅ tk₅ a b n₁' n₂' n₃' t₁ u₁ t₂ u₂ t₃ F₅ N₅ hnew
        clear F9 N9 Np
        have q1 : a ≠ fc := kind_ne N₅ (.tail _ (.tail _ (.tail _ (.head _)))) (.tail _ (.head _)) tup_list
        have q2 : a ≠ fd := kind_ne N₅ (.tail _ (.tail _ (.tail _ (.head _)))) (.tail _ (.tail _ (.head _))) tup_list
        have q3 : b ≠ fc := kind_ne N₅ (.tail _ (.tail _ (.tail _ (.tail _ (.head _))))) (.tail _ (.head _)) tup_list
        have q4 : b ≠ fd := kind_ne N₅ (.tail _ (.tail _ (.tail _ (.tail _ (.head _))))) (.tail _ (.tail _ (.head _))) tup_list
        have q5 : a ≠ r := kind_ne N₅ (.tail _ (.tail _ (.tail _ (.head _)))) (.head _) tup_list
        have q6 : b ≠ r := kind_ne N₅ (.tail _ (.tail _ (.tail _ (.tail _ (.head _))))) (.head _) tup_list
        have q7 : a ≠ I ∧ b ≠ I := hnew _ (.head _)
        have q8 : a ≠ cb ∧ b ≠ cb := hnew _ (.tail _ (.head _))
        obtain ⟨q7, q9⟩ := q7
        obtain ⟨q8, q10⟩ := q8
        walk_at "go"
        with_reducible rename Fr _ _ _ _ => F9
        with_reducible rename News _ _ _ _ => N9
        rw [hnext, e]
        refine LEnd.nextI F9 (tok_perm N9) (fun p hp => hp) ?_ (fun b hb => nomatch hb)
          ⟨j1, j2, j3, j4, j5, rs.push (.ref a), _, _, _, _, _, (a, tupO #[.str (Str.ofString "field") t₃, .ref b] 0) :: (b, tupO #[.str cur t₁, .int num u₁] 0) :: tl, rfl, ?_, ?_, ?_, ?_, ?_, ?_, Nat.le_refl 1⟩
        · k_all
        · rw [Array.toList_push]
          refine Paired.snoc (paired_mono (fun _ _ => IsTok.mono (inL_mono fun p hp => .tail _ (.tail _ hp))) hP) ⟨a, b, _, _, _, _, _, rfl, List.Mem.head _, .tail _ (.head _)⟩
        · k_all
        · k_all
        · k_all
        · k_all
        · rw [Array.size_push]; omega
    · with_reducible rename Fr _ _ _ _ => F9
      with_reducible rename News _ _ _ _ => N9
      have hz : cur.length = 0 := by omega
      have e := tstep_zero (done := done) (num := num) (by assumption : ((⟨#[c]⟩ : Str) == cur) = false) hz
      rw [hnext, e]
      refine LEnd.nextI F9 N9 (fun p hp => hp) ?_ (fun b hb => nomatch hb) ⟨j1, j2, j3, j4, j5, rs, _, _, _, _, _, tl, rfl, hP, hap1, hap2, hap3, hap4, Nat.le_succ_of_le hsz, Nat.le_refl 1⟩
      k_all
  · rintro h' tk m₁ news' F N hb ⟨j1, j2, j3, j4, j5, rs, n₁, n₂, n₃, t', u, tl, rfl, hP, hap1, hap2, hap3, hap4, hsz, hcur⟩
    clear F₄ N₄
    have htk : (signs x).take x.cps.size = signs x := List.take_of_length_le (by simp [signs])
    rw [htk] at N hP hcur
    rcases hst : (signs x).foldl tstep ([], Str.ofString "", 0) with ⟨done, cur, num⟩
    rw [hst] at N hP hcur
    simp only at N hP hcur
    dsimp only
    have hto : toksOf x = tpush (done, cur, num) := by unfold toksOf; rw [hst]
    walk_at "go"
    · have hne : cur.length ≠ 0 := by omega
      have hto' : toksOf x = done ++ [(cur, num)] := by rw [hto]; exact if_neg hne
      have hd' : dp + 2 < recursionLimit := hd
      with_reducible rename Fr _ _ _ _ => F9
      with_reducible rename News _ _ _ _ => N9
      have Np : News s.heap L h' ((r, listOf rs n₁) :: (fc, listOf #[.str cur t'] n₂) :: (fd, listOf #[.int num u] n₃) :: (cb, listOf #[] 0) :: tl) := fun p hp => N9 p (by
        simp only [List.mem_cons] at hp ⊢
        rcases hp with hp | hp | hp | hp | hp <;> simp only [hp, true_or, or_true])
      refine append_field_call (rest := (cb, listOf #[] 0) :: tl) X T rfl (Nat.lt_of_succ_lt hd') F9 Np (fun q hq => ?_) (by k_ne) (by k_ne) (by k_ne) ?_ ?_
      · rcases List.mem_cons.mp hq with rfl | hq
        · exact ⟨by k_ne, by k_ne, by k_ne⟩
        · exact ⟨hap4 q hq, hap2 q hq, hap1 q hq⟩
      · have : x.cps.size = x.length := rfl
        rw [sizeLine_eq]; omega
      · intro h₅ tk₅ a b n₁' n₂' n₃' t₁ u₁ t₂ u₂ t₃ F₅ N₅ hnew
        clear F9 N9 Np
        walk_at "go"
        with_reducible rename Fr _ _ _ _ => F9
        with_reducible rename News _ _ _ _ => N9
        refine FnEnd.intro F9 N9 ?_
        rw [hto']
        refine ⟨r, _, _, rfl, List.Mem.head _, ?_⟩
        rw [Array.toList_push]
        exact Paired.snoc (paired_mono (fun _ _ => IsTok.mono (inL_mono fun p hp => .tail _ (.tail _ (.tail _ (.tail _ (.tail _ (.tail _ hp))))))) hP) ⟨a, b, _, _, _, _, _, rfl, .tail _ (.tail _ (.tail _ (.head _))), .tail _ (.tail _ (.tail _ (.tail _ (.head _))))⟩
    · have hz : cur.length = 0 := by omega
      have hto' : toksOf x = done := by rw [hto]; exact if_pos hz
      with_reducible rename Fr _ _ _ _ => F9
      with_reducible rename News _ _ _ _ => N9
      refine FnEnd.intro F9 N9 ?_
      rw [hto']
      exact ⟨r, _, _, rfl, .tail _ (.tail _ (.tail _ (.head _))), paired_mono (fun _ _ => IsTok.mono (inL_mono fun p hp => .tail _ (.tail _ (.tail _ (.tail _ hp))))) hP⟩
end Mine
end

-- part Sg
section
open PySem PySem.W PySem.Spec PySem.Calls PyProof.Rows PyProof.Rows.LCg
set_option maxRecDepth 100000
namespace Mine
theorem strsAre_of : ∀ (vs : List Value) (ss : List Str), vs.length = ss.length → (∀ (j : Nat) (v : Value), vs[j]? = some v → ∃ b, ss[j]? = some b ∧ ∃ t, v = Value.str b t) → StrsAre vs ss
  | [], [], _, _ => .nil
  | [], _ :: _, h, _ => by cases h
  | _ :: _, [], h, _ => by cases h
  | v :: vs, x :: ss, h, hv => by
    obtain ⟨b, hb, t, rfl⟩ := hv 0 v rfl
    cases hb
    exact .cons _ t (strsAre_of vs ss (by simpa using h) fun j v' hj => hv (j + 1) v' (by simpa using hj))

section
variable {prog : Program} {w : World} {A : Around} {E : Value → Shared → Prop} {s : Shared} {h₀ : Heap} {L Kb a : Addr} {m : Str → Option Value}
theorem sorted_genD {as : List Str} {pz : Str → Bool} {Q : Value → Shared → Prop} (Fh : Fr h₀ L s.heap m) (G : AllBare s.gens) (X : GenOnD prog w A Kb a as pz (fun k => .str k) s) (hLK : L ≤ Kb) (h64 : as.length < 64)
    (hQ : ∀ (s' : Shared) (D : Addr) (vs' : List Value) (ss' : List Str) (e : Nat), Fr h₀ L s'.heap m → AllBare s'.gens → s'.os = s.os → (∀ b o, b ≤ Kb → s.heap.get? b = some o → s'.heap.get? b = some o) →
      News h₀ L s'.heap [(D, seqObj "list" vs'.toArray e)] → StrsAre vs' ss' → ss'.Perm (as.filter pz) → sortedS ss' = true → Q (.ref D) s') :
    wpAny (model prog w) A (call (.builtin "sorted") [.ref a]) Q E s := by
  obtain ⟨fp, wr, g, St, W, hst, hT, ha, hfp, hwr⟩ := X
  have W := W.in4_2
  have hlen : (as.filter pz).length ≤ as.length := List.length_filter_le _ _
  refine Calls.call_function_entry kind_sorted plain_sorted entry_sorted (args_sorted1 _) ?_
  unfold Builtin.«sorted»
  refine wpAny_bind (m := checkCount "sorted" 1 1 _) (wpAny_pure ?_)
  refine wpAny_bind (wpAny_collect_gen W hT hst hfp ha (fun s₁ acc hm hacc => ?_) (by rw [sizeLine_eq]; omega))
  have hS : StrsAre acc.toList (as.filter pz) := strsAre_of _ _ (by simpa using hacc.1) fun j v hj => by
    obtain ⟨b, hb, hc⟩ := hacc.2 j v (by simpa using hj)
    cases hc with
    | str _ u => exact ⟨b, hb, u, rfl⟩
  have hn : acc.toList.length < 64 := by rw [hS.length]; omega
  have F₁ : Fr h₀ L s₁.heap m := Fh.moved hm fun b hb => Nat.lt_of_le_of_lt hLK (hwr b hb)
  have G₁ := G.movedS hm
  have k₁ : ∀ b o, b ≤ Kb → s.heap.get? b = some o → s₁.heap.get? b = some o := fun b o hb e => hm.heap b o (fun q => Nat.lt_irrefl _ (Nat.lt_of_lt_of_le (hwr b q) hb)) e
  refine wpAny_bind (wpAny_newList ?_)
  have hoL : (s₁.heap.push (seqObj "list" acc.toList.toArray 0)).get? s₁.heap.objs.size = some (seqObj "list" acc.toList.toArray 0) := Heap.get?_push_size _ rfl
  show wpAny _ _ _ _ _ { s₁ with heap := s₁.heap.push (seqObj "list" acc.toList.toArray 0) }
  refine wpAny_bind (wpAny_holding (wpAny_call_entry slot_list_sort ⟨_, hoL, rfl⟩ entry_list_sort (list_sort_treeK strKind_oneLt hoL hS.keysOf (fun v₁ v₂ rest e => keyKind_strs (by rw [← e]; exact hS)) hn fun st' a1 a2 => ⟨_, rfl, ?_⟩) (args_list_sort _)))
  obtain ⟨ss', b1, b2, b3⟩ := sorted_out_str hS a1 a2
  obtain ⟨e, he⟩ := sortedHeap_at (vs := acc.toList) (out := (arrOf st').map (·.2)) hoL
  have up : ∀ b o, s₁.heap.get? b = some o → (sortedHeap (s₁.heap.push (seqObj "list" acc.toList.toArray 0)) s₁.heap.objs.size acc.toList ((arrOf st').map (·.2))).get? b = some o := fun b o hb => by
    have hlt := Heap.lt_size hb
    rw [sortedHeap_old (Nat.ne_of_lt hlt) (by rw [size_push']; exact Nat.lt_succ_of_lt hlt), Heap.get?_push_ne _ _ _ (Nat.ne_of_lt hlt)]
    exact hb
  refine wpAny_pure ⟨_, rfl, ?_⟩
  refine hQ _ s₁.heap.objs.size ((arrOf st').map (·.2)).toList ss' e (F₁.kept up) G₁ hm.os (fun b o hb q => up b o (k₁ b o hb q)) (News.kept_cons F₁ News.nil up (Nat.le_refl _) ?_) b1 b2 b3
  rw [Array.toArray_toList]; exact he
end
end Mine
end

-- part Gn
section
open PySem PySem.W PySem.Spec PySem.Calls PyProof.Rows PyProof.Rows.LCg
set_option maxRecDepth 100000
namespace Mine
/-- is the text z in y -/
def isIn (z y : Str) : Bool := !(Builtin.Str.occurrences y z 0 y.length 1).isEmpty
section
variable {prog : Program} {w : World} {A : Around} {E : Value → Shared → Prop} {s : Shared} {h₁ h₀ : Heap} {c P L D : Addr} {ps : Array Value} {m mg : Str → Option Value} {bm : Addr} {ob : Obj}
theorem any_gen {z : Str} {k : Nat} {p1 p2 p3 p4 pos : Pos} {env : Env} {iter : Expr} {x : Str} {scope : Scope} {cl : List (Str × Addr)} {vs : List Value} {ss : List Str} {Q : Value → Shared → Prop}
    (B : Based h₁ h₀ c P ps) (M : BMod h₀ env.globals mg bm ob) (hcode : env.code = .ref c) (hnf : codeAmong pos ps.toList = none)
    (hh : A.handled = none) (hclos : closureFor scope env = pure cl) (hroom : A.depth < recursionLimit)
    (hit : ∀ (Q' : Value → Shared → Prop) (E' : Value → Shared → Prop), Q' (.ref D) s → wpAny (model prog w) A (eval iter env) Q' E' s)
    (hl : s.heap.IsList D vs.toArray) (hS : StrsAre vs ss) (F : Fr h₀ L s.heap m) (G : AllBare s.gens) (hlim : s.heap.NoLimit)
    (hQ : ∀ (c' a : Addr) (s₅ : Shared), Based h₁ (regrown h₀ P (ps ++ #[rawInt pos.line, rawInt pos.col, .ref c'])) c P (ps ++ #[rawInt pos.line, rawInt pos.col, .ref c']) →
          Fr (regrown h₀ P (ps ++ #[rawInt pos.line, rawInt pos.col, .ref c'])) L s₅.heap m → AllBare s₅.gens → s₅.os = s.os → (∀ b o, b ≠ P → s.heap.get? b = some o → s₅.heap.get? b = some o) →
          GenOnD prog w A (s.heap.objs.size - 1) a ss (fun _ => true) (fun y => .bool (isIn z y)) s₅ → Q (.ref a) s₅)
    (hco : scope.isCoroutine = false := by rfl) (hcell : ∀ y ∈ scope.names, y.2 ≠ .cell := by decide) (h0 : scope.names.lookup (".0" : Str) = some NameKind.local := by rfl)
    (hx : scope.names.lookup x = some .local := by rfl) (hkind : scope.kind = .function := by rfl)
    (hl' : ∀ C code, (genEnv scope cl C code builtinsNs env).kindOf x = some .local := by intro _ _; rfl) (hd : (x == ("__debug__" : Str)) = false := by decide)
    (hs : ∀ v, genFold iter env v = pure v := by intro _; rfl) :
    wpAny (model prog w) A (eval (.GeneratorExp (.Compare (.Constant (.str z) k p1) [.In] [.Name x p2] p3) [⟨.Name x p4, iter, [], 0⟩] scope pos) env) Q E s := by
  have hLlt := F.ns.lt
  refine GeneratorExp_DF (K := .str) (L := L) (m := m) (pz := fun _ => true) (d := fun y => .bool (isIn z y)) (Q := Q) B M hcode hnf hh hco hclos hcell h0 hx hkind hroom ?_ hs
  refine hit _ _ ⟨D, vs, ss, s.heap.objs.size - 1, rfl, hl, hS.areOf, F, G, hlim, Nat.le_sub_one_of_lt hLlt, Nat.sub_lt (Nat.lt_of_le_of_lt (Nat.zero_le _) hLlt) Nat.one_pos, ?_, ?_, hQ⟩
  · intro c' C A' E' y v u m₂ hA hD hU hy hv F₂ hm hLC hk
    exact wpAny_pure ⟨rfl, u.heap, u.toks, rfl, fun _ _ e => e⟩
  · intro c' C A' E' y v u m₂ hA hD hU hy hv _ F₂ hm hLC hk
    obtain ⟨t, rfl⟩ := ItemKind.str_is hv
    refine wpAny_Compare1 ?_ (by rfl)
    refine wpAny_Constant_str ?_
    refine ldVarG (h₀ := regrown h₀ P (ps ++ #[rawInt pos.line, rawInt pos.col, .ref c'])) F₂ hm ?_ hkind (hl' _ _) hd
    refine PyProof.Rows.in_str ?_
    exact ⟨.bool _, u.heap, _, rfl, fun _ _ e => e⟩

theorem any_gen' {z : Str} {k : Nat} {p1 p2 p3 p4 pos : Pos} {env : Env} {iter : Expr} {x : Str} {scope : Scope} {cl : List (Str × Addr)} {vs : List Value} {ss : List Str} {Q : Value → Shared → Prop}
    (ht : 1 ≤ s.toks) (B : Based h₁ h₀ c P ps) (M : BMod h₀ env.globals mg bm ob) (hcode : env.code = .ref c) (hnf : codeAmong pos ps.toList = none)
    (hh : A.handled = none) (hclos : closureFor scope env = pure cl) (hroom : A.depth < recursionLimit)
    (hit : ∀ (Q' : Value → Shared → Prop) (E' : Value → Shared → Prop), Q' (.ref D) s → wpAny (model prog w) A (eval iter env) Q' E' s)
    (hl : s.heap.IsList D vs.toArray) (hS : StrsAre vs ss) (F : Fr h₀ L s.heap m) (G : AllBare s.gens) (hlim : s.heap.NoLimit)
    (hQ : ∀ (c' a : Addr) (s₅ : Shared), 1 ≤ s₅.toks → Based h₁ (regrown h₀ P (ps ++ #[rawInt pos.line, rawInt pos.col, .ref c'])) c P (ps ++ #[rawInt pos.line, rawInt pos.col, .ref c']) →
          Fr (regrown h₀ P (ps ++ #[rawInt pos.line, rawInt pos.col, .ref c'])) L s₅.heap m → AllBare s₅.gens → s₅.os = s.os → (∀ b o, b ≠ P → s.heap.get? b = some o → s₅.heap.get? b = some o) →
          GenOnD prog w A (s.heap.objs.size - 1) a ss (fun _ => true) (fun y => .bool (isIn z y)) s₅ → Q (.ref a) s₅)
    (hco : scope.isCoroutine = false := by rfl) (hcell : ∀ y ∈ scope.names, y.2 ≠ .cell := by decide) (h0 : scope.names.lookup (".0" : Str) = some NameKind.local := by rfl)
    (hx : scope.names.lookup x = some .local := by rfl) (hkind : scope.kind = .function := by rfl)
    (hl' : ∀ C code, (genEnv scope cl C code builtinsNs env).kindOf x = some .local := by intro _ _; rfl) (hd : (x == ("__debug__" : Str)) = false := by decide)
    (hs : ∀ v, genFold iter env v = pure v := by intro _; rfl) :
    wpAny (model prog w) A (eval (.GeneratorExp (.Compare (.Constant (.str z) k p1) [.In] [.Name x p2] p3) [⟨.Name x p4, iter, [], 0⟩] scope pos) env) Q E s := by
  refine wpAny_mono (wpAny_toks_of ht (any_gen (E := E) (Q := fun v s₅ => ∃ c' a, v = .ref a ∧ Based h₁ (regrown h₀ P (ps ++ #[rawInt pos.line, rawInt pos.col, .ref c'])) c P (ps ++ #[rawInt pos.line, rawInt pos.col, .ref c']) ∧
          Fr (regrown h₀ P (ps ++ #[rawInt pos.line, rawInt pos.col, .ref c'])) L s₅.heap m ∧ AllBare s₅.gens ∧ s₅.os = s.os ∧ (∀ b o, b ≠ P → s.heap.get? b = some o → s₅.heap.get? b = some o) ∧
          GenOnD prog w A (s.heap.objs.size - 1) a ss (fun _ => true) (fun y => .bool (isIn z y)) s₅) B M hcode hnf hh hclos hroom hit hl hS F G hlim (fun c' a s₅ a1 a2 a3 a4 a5 a6 => ⟨c', a, rfl, a1, a2, a3, a4, a5, a6⟩) hco hcell h0 hx hkind hl' hd hs)) (fun v s₅ h5 => ?_) fun _ _ e => e.2
  obtain ⟨ht5, c', a, rfl, a1, a2, a3, a4, a5, a6⟩ := h5
  exact hQ c' a s₅ ht5 a1 a2 a3 a4 a5 a6
theorem any_genD' {α : Type} {Kb a : Addr} {as : List α} {pz : α → Bool} {Q : Value → Shared → Prop} {q : α → Bool} (ht : 1 ≤ s.toks) (Fh : Fr h₀ L s.heap m) (G : AllBare s.gens) (X : GenOnD prog w A Kb a as pz (fun k => .bool (q k)) s) (hLK : L ≤ Kb)
    (hQ : ∀ s', 1 ≤ s'.toks → Fr h₀ L s'.heap m → AllBare s'.gens → s'.os = s.os → (∀ b o, b ≤ Kb → s.heap.get? b = some o → s'.heap.get? b = some o) → Q (.bool ((as.filter pz).any q)) s') : wpAny (model prog w) A (call (.builtin "any") [.ref a]) Q E s := by
  refine wpAny_mono (wpAny_toks_of ht (any_genD (E := E) (Q := fun v s' => v = .bool ((as.filter pz).any q) ∧ Fr h₀ L s'.heap m ∧ AllBare s'.gens ∧ s'.os = s.os ∧ (∀ b o, b ≤ Kb → s.heap.get? b = some o → s'.heap.get? b = some o)) Fh G X hLK fun s' a1 a2 a3 a4 => ⟨rfl, a1, a2, a3, a4⟩)) (fun v s' h5 => ?_) fun _ _ e => e.2
  obtain ⟨ht5, rfl, a1, a2, a3, a4⟩ := h5
  exact hQ s' ht5 a1 a2 a3 a4

theorem some_gen {p1 p2 p4 pos : Pos} {env : Env} {iter : Expr} {x : Str} {scope : Scope} {cl : List (Str × Addr)} {vs : List Value} {ss : List Str} {Q : Value → Shared → Prop}
    (B : Based h₁ h₀ c P ps) (M : BMod h₀ env.globals mg bm ob) (hcode : env.code = .ref c) (hnf : codeAmong pos ps.toList = none)
    (hh : A.handled = none) (hclos : closureFor scope env = pure cl) (hroom : A.depth < recursionLimit)
    (hit : ∀ (Q' : Value → Shared → Prop) (E' : Value → Shared → Prop), Q' (.ref D) s → wpAny (model prog w) A (eval iter env) Q' E' s)
    (hl : s.heap.IsList D vs.toArray) (hS : StrsAre vs ss) (hlen : ∀ y ∈ ss, y.length ≤ 10000) (F : Fr h₀ L s.heap m) (G : AllBare s.gens) (hlim : s.heap.NoLimit)
    (hQ : ∀ (c' a : Addr) (s₅ : Shared), Based h₁ (regrown h₀ P (ps ++ #[rawInt pos.line, rawInt pos.col, .ref c'])) c P (ps ++ #[rawInt pos.line, rawInt pos.col, .ref c']) →
          Fr (regrown h₀ P (ps ++ #[rawInt pos.line, rawInt pos.col, .ref c'])) L s₅.heap m → AllBare s₅.gens → s₅.os = s.os → (∀ b o, b ≠ P → s.heap.get? b = some o → s₅.heap.get? b = some o) →
          GenOnD prog w A (s.heap.objs.size - 1) a ss (fun y => ((y.length : Int) != 0)) (fun y => .str y) s₅ → Q (.ref a) s₅)
    (hco : scope.isCoroutine = false := by rfl) (hcell : ∀ y ∈ scope.names, y.2 ≠ .cell := by decide) (h0 : scope.names.lookup (".0" : Str) = some NameKind.local := by rfl)
    (hx : scope.names.lookup x = some .local := by rfl) (hkind : scope.kind = .function := by rfl)
    (hl' : ∀ C code, (genEnv scope cl C code builtinsNs env).kindOf x = some .local := by intro _ _; rfl) (hd : (x == ("__debug__" : Str)) = false := by decide)
    (hs : ∀ v, genFold iter env v = pure v := by intro _; rfl) :
    wpAny (model prog w) A (eval (.GeneratorExp (.Name x p1) [⟨.Name x p4, iter, [.Name x p2], 0⟩] scope pos) env) Q E s := by
  have hLlt := F.ns.lt
  refine GeneratorExp_DF (K := .str) (L := L) (m := m) (pz := fun y => ((y.length : Int) != 0)) (d := fun y => .str y) (Q := Q) B M hcode hnf hh hco hclos hcell h0 hx hkind hroom ?_ hs
  refine hit _ _ ⟨D, vs, ss, s.heap.objs.size - 1, rfl, hl, hS.areOf, F, G, hlim, Nat.le_sub_one_of_lt hLlt, Nat.sub_lt (Nat.lt_of_le_of_lt (Nat.zero_le _) hLlt) Nat.one_pos, ?_, ?_, hQ⟩
  · intro c' C A' E' y v u m₂ hA hD hU hy hv F₂ hm hLC hk
    obtain ⟨t, rfl⟩ := ItemKind.str_is hv
    have hy' := hlen y hy
    rw [List.forIn_cons, if_pos rfl]
    refine wpAny_bind (wpAny_bind (wpAny_isTrue_value ?_))
    refine ldVarG (h₀ := regrown h₀ P (ps ++ #[rawInt pos.line, rawInt pos.col, .ref c'])) F₂ hm ?_ hkind (hl' _ _) hd
    refine PySem.P.truthy_str (by omega) ?_
    refine wpAny_pure ?_
    dsimp only
    rw [List.forIn_nil]
    exact wpAny_pure ⟨rfl, u.heap, _, rfl, fun _ _ e => e⟩
  · intro c' C A' E' y v u m₂ hA hD hU hy hv _ F₂ hm hLC hk
    obtain ⟨t, rfl⟩ := ItemKind.str_is hv
    refine ldVarG (h₀ := regrown h₀ P (ps ++ #[rawInt pos.line, rawInt pos.col, .ref c'])) F₂ hm ?_ hkind (hl' _ _) hd
    exact ⟨.str _ _, u.heap, _, rfl, fun _ _ e => e⟩
end
end Mine
end

-- part Rp
section
open PySem PySem.W PySem.Spec PySem.Calls PyProof.Rows PyProof.Rows.LCg
namespace Mine
/-- each c of l made z -/
def chg (c : Nat) (z : List Nat) : List Nat → List Nat
  | [] => []
  | k :: r => (if k = c then z else [k]) ++ chg c z r
theorem chg_append (c : Nat) (z : List Nat) : ∀ a b : List Nat, chg c z (a ++ b) = chg c z a ++ chg c z b
  | [], _ => rfl
  | k :: r, b => by
    show (if k = c then z else [k]) ++ chg c z (r ++ b) = ((if k = c then z else [k]) ++ chg c z r) ++ chg c z b
    rw [chg_append c z r b, List.append_assoc]
theorem chg_free (c : Nat) (z : List Nat) : ∀ l : List Nat, c ∉ l → chg c z l = l
  | [], _ => rfl
  | k :: r, h => by
    have h1 : ¬ k = c := fun e => h (e ▸ List.mem_cons_self ..)
    show (if k = c then z else [k]) ++ chg c z r = _
    rw [if_neg h1, chg_free c z r fun m => h (List.mem_cons_of_mem _ m)]; rfl
theorem chg_join (c : Nat) (z : Str) : ∀ parts : List Str, (∀ p ∈ parts, c ∉ p.cps.toList) → chg c z.cps.toList (Str.join ⟨#[c]⟩ parts).cps.toList = (Str.join z parts).cps.toList
  | [], _ => rfl
  | [p], h => chg_free c _ _ (h p (List.mem_singleton.mpr rfl))
  | p :: q :: r, h => by
    have ih := chg_join c z (q :: r) fun a ha => h a (List.mem_cons_of_mem _ ha)
    show chg c z.cps.toList (p ++ ⟨#[c]⟩ ++ Str.join ⟨#[c]⟩ (q :: r)).cps.toList = (p ++ z ++ Str.join z (q :: r)).cps.toList
    simp only [Str.cps_append, Array.toList_append]
    rw [chg_append, chg_append, ih, chg_free c _ _ (h p (List.mem_cons_self ..))]
    show p.cps.toList ++ ((if c = c then z.cps.toList else [c]) ++ []) ++ _ = _
    rw [if_pos rfl, List.append_nil]
theorem replace_chg (x z : Str) (c : Nat) : (Txt.replace x ⟨#[c]⟩ z).cps.toList = chg c z.cps.toList x.cps.toList := by
  rw [StrLaws.replace_one, ← chg_join c z _ (StrLaws.split_free x c), StrLaws.join_split]
theorem chg_len (c : Nat) (z : List Nat) (hz : z.length ≤ 1) : ∀ l : List Nat, (chg c z l).length ≤ l.length
  | [] => Nat.le_refl _
  | k :: r => by
    have ih := chg_len c z hz r
    show ((if k = c then z else [k]) ++ chg c z r).length ≤ _
    rw [List.length_append, List.length_cons]
    split
    · omega
    · simp only [List.length_cons, List.length_nil]; omega
theorem chg_mem (c : Nat) (z : List Nat) : ∀ (l : List Nat) (k : Nat), k ∈ chg c z l → k ∈ z ∨ k ∈ l
  | [], k, h => by cases h
  | a :: r, k, h => by
    rcases List.mem_append.mp (show k ∈ (if a = c then z else [a]) ++ chg c z r from h) with h | h
    · split at h
      · exact .inl h
      · exact .inr (List.mem_cons.mpr (.inl (List.mem_singleton.mp h)))
    · rcases chg_mem c z r k h with h | h
      · exact .inl h
      · exact .inr (List.mem_cons_of_mem _ h)
theorem isIn_one {c : Nat} {y : Str} : isIn ⟨#[c]⟩ y = true ↔ c ∈ y.cps.toList := by
  unfold isIn
  rw [StrLaws.found_iff]
  constructor
  · rintro ⟨i, h1, h2⟩
    exact List.mem_of_getElem? ((StrLaws.subAt_one y c i).mp ⟨h1, h2⟩)
  · intro h
    obtain ⟨i, hi, e⟩ := List.getElem_of_mem h
    exact ⟨i, (StrLaws.subAt_one y c i).mpr (by rw [List.getElem?_eq_getElem hi, e])⟩
end Mine
end

-- part Tc
section
open PySem PySem.W PySem.Spec PySem.Calls PyProof.Rows PyProof.Rows.LCg
set_option maxRecDepth 100000
namespace Mine
section
variable {prog : Program} {w : World} {A : Around} {s : Shared} {E : Value → Shared → Prop} {env : Env} {scope : Scope} {cl : List (Str × Addr)}
theorem tok_comp {iter : Expr} {p1 p2 p3 p4 p5 p6 p7 p8 p9 pos : Pos} {k1 k2 k3 : Nat} {Q : Value → Shared → Prop} (hh : A.handled = none)
    (hclos : closureFor scope env = pure cl) (hcell : ∀ y ∈ scope.names, y.2 ≠ .cell) (hkind : scope.kind = .function)
    (hnames : ∀ y ∈ scope.names, y.2 = .local → scope.names.lookup y.1 = some .local) (hx : scope.names.lookup (Str.ofString "t") = some .local)
    (h : wpAny (model prog w) A (eval iter env) (fun xv s₁ => ∃ fs, IsToks (inH s₁.heap) xv fs ∧ fs.length ≤ 10000 ∧
       ∀ h' tk D its n, Made s₁.heap h' [(D, listOf its n)] → Paired (IsPair (inH s₁.heap)) its.toList fs → Q (.ref D) { s₁ with heap := h', toks := tk }) E s)
    (hs : ∀ x, foldedSetIterable iter env x = pure x := by intro _; rfl) :
    wpAny (model prog w) A (eval (.ListComp (.Subscript (.Name (Str.ofString "t") p1) (.Constant (.int 1) k1 p2) p3)
      [⟨.Name (Str.ofString "t") p4, iter, [.Compare (.Subscript (.Name (Str.ofString "t") p5) (.Constant (.int 0) k2 p6) p7) [.Eq] [.Constant (.str (Str.ofString "field")) k3 p8] p9], 0⟩] scope pos) env) Q E s := by
  refine comp hclos hcell hkind hnames (wpAny_mono h (fun xv s₁ h₁ => ?_) fun _ _ e => e) hs
  obtain ⟨fs, ⟨ax, its, n, rfl, hax, hP⟩, hlen, done⟩ := h₁
  have hl : s₁.heap.IsList ax its := ⟨_, hax, rfl, n, rfl⟩
  have hsz : its.size = fs.length := by rw [← hP.length, Array.length_toList]
  refine ⟨its.size, _, _, fun i ys tl => tl = [] ∧ Paired (IsPair (inH s₁.heap)) ys (fs.take i), by rw [hsz, sizeLine_eq]; omega, Src.list hh hl, ⟨rfl, .nil⟩, ?_, ?_⟩
  · rintro C I D i v ys tl hp tk m₁ oI hi hPv ⟨rfl, hJ⟩ F N hID off hG
    obtain ⟨p, hr, a, b, n₁, n₂, t, t₁, u₁, rfl, ha, hb⟩ := paired_get hP (i := i) (a := v) (by simpa using hPv)
    refine CTurn.nameT hkind hx F N fun h' tk' F' N' => ?_
    have ta : IsTup h' a _ := ⟨_, F'.keep _ _ ha, rfl, n₁, rfl⟩
    refine wpAny_isTrue_Compare1 (Subscript_ (lds hkind hx F' (v := .ref a) (by simp) (wpAny_Constant_int (item_tuple ta (by decide) (by decide) rfl rfl (wpAny_Constant_str (PyProof.Rows.eq_str (wpAny_truthy_bool ?_))))))) (by with_unfolding_all rfl)
    rw [if_pos (by decide)]
    refine Subscript_ (lds hkind hx F' (v := .ref a) (by simp) (wpAny_Constant_int (item_tuple ta (by decide) (by decide) rfl rfl ?_)))
    refine TEnd.intro [] F' N' (fun _ hp => hp) (fun _ hp => nomatch hp) ⟨rfl, ?_⟩
    rw [take_succ_of hr]
    exact hJ.snoc ⟨b, n₂, t₁, u₁, rfl, hb⟩
  · rintro h' tk D ys tl hM ⟨rfl, hJ⟩
    rw [hsz, List.take_length] at hJ
    exact done h' tk D ys.toArray _ hM hJ
end
end Mine
end

-- part Dk
section
open PySem PySem.W PySem.Spec PySem.Calls PyProof.Rows PyProof.Rows.LCg
namespace Mine
section
variable {prog : Program} {w : World} {A : Around} {s : Shared} {K : Type} [DecidableEq K] {knd : KeyKind prog w K}
theorem SrcS.dict {d : Addr} {kvs : List (K × Value)} {ep : Nat} (hh : A.handled = none) (hd : (d == sysModules) = false) (hk : s.heap.DictAt knd d kvs ep) :
    SrcS prog w A (.ref d) s kvs.length (fun i v => ∃ k x, kvs[i]? = some (k, x) ∧ knd.is k v = true) (fun _ _ => True) [d] := by
  intro Q E hQ
  have hlt : d < s.heap.objs.size := hk.lt_size
  refine wpAny_pyIter_dict hd hk (hQ _ _ _ (Walks.dictKeys hh s.heap.objs.size d (Nat.ne_of_lt hlt) kvs ep) ⟨?_, hk.push _⟩ rfl (fun b hb => ?_) (fun _ _ _ => trivial) (fun i h st => by obtain ⟨o, e, _⟩ := st.1; exact ⟨o, e⟩))
  · exact ⟨_, Heap.get?_push_size _ rfl, rfl, rfl⟩
  · rcases List.mem_cons.mp hb with rfl | hb
    · exact .inl rfl
    · exact .inr hb
end
theorem str_of_is {prog : Program} {w : World} {k : Str} {v : Value} (h : (PySem.strKind prog w).is k v = true) : ∃ t, v = .str k t := by
  cases v with
  | str x t =>
    refine ⟨t, ?_⟩
    have : (x == k) = true := h
    rw [eq_of_beq this]
  | _ => cases h
end Mine
end

-- part HD2
section
local macro_rules | `(tactic| walk_at "idle 0") => `(tactic| skip)
local macro_rules | `(tactic| walk_at "idle 1") => `(tactic| skip)
local macro_rules | `(tactic| walk_at "idle 2") => `(tactic| skip)
local macro_rules | `(tactic| walk_at "idle 3") => `(tactic| skip)
local macro_rules | `(tactic| walk_at "idle 4") => `(tactic| skip)
local macro_rules | `(tactic| walk_at "idle 5") => `(tactic| skip)
local macro_rules | `(tactic| walk_at "idle 6") => `(tactic| skip)
local macro_rules | `(tactic| walk_at "idle 7") => `(tactic| skip)
local macro_rules | `(tactic| walk_at "idle 8") => `(tactic| skip)
local macro_rules | `(tactic| walk_at "idle 9") => `(tactic| skip)
open PySem PySem.W PyProof.Rows
set_option maxRecDepth 100000
set_option maxHeartbeats 8000000
namespace Mine
noncomputable def tab0 : Obj := { cls := .none, data := .fields #[] }
noncomputable def K2 (P : Params) : Frag := hd.heap_39 P ++ [(70, tab0)]
def as2 : List Addr := [2,  3,  6,  15,  16,  17,  18,  19,  20,  21,  22,  23,  24,  25,  26,  27,  28,  30,  31,  32,  33,  34,  35,  36,  37,  38,  39,  40,  41,  42,  43,  44,  46,  47,  49,  50,  52,  53,  54,  56,  57,  59,  60,  61,  63,  64,  66,  67,  68,  69,  72,  73,  74,  76,  77,  79,  80,  81,  84,  85,  86,  89,  90,  91,  93,  94,  96,  97,  98,  101,  102, 70]
local macro_rules | `(tactic| k_head) => `(tactic| o_head (kHook K2 as2 (fun _ => by kernel_rfl)))
open_top hd2 for PySem.Challenge.rw_ey0011_01
end Mine
end

-- part C6
section
local macro_rules | `(tactic| walk_at "idle 0") => `(tactic| skip)
theorem Mine.off_C6 : True := by w_top off; trivial
open PySem PySem.W PySem.Spec PySem.Calls PyProof.Rows PyProof.Rows.LCg
set_option maxRecDepth 100000
namespace Mine
theorem fill7 : (PySem.Challenge.rw_ey0011_01 = PySem.Challenge.rw_ey0011_01) ∧ hd.heap_39 = hd.heap_39 := by
  k_fill
  exact ⟨rfl, rfl⟩

theorem based0 {P : Params} {h : Heap} (X : (hd.heap_39 P).In h) (Z : h.get? 70 = some tab0) : Based h h 72 70 #[] := by
  refine .start ⟨_, _, _, _, _, _, _, _, _, _, X 72 _ rfl, rfl, rfl, rfl, rfl, rfl, rfl, Z, rfl, ?_, by decide⟩ ⟨⟨_, _, X 72 _ rfl, rfl, rfl, rfl⟩, Z⟩ (by decide)
  exact trivial

theorem code_none {pos : Pos} {a b : Int} {c : Value} (l : List Value) (h : TriplesOk l) (hn : codeAmong pos l = none) (hne : (a == (pos.line : Int)) = false) : codeAmong pos (l ++ [rawInt a, rawInt b, c]) = none := by
  fun_induction TriplesOk l with
  | case1 => 
    show (if (a == (pos.line : Int) && b == (pos.col : Int)) = true then some c else codeAmong pos []) = none
    rw [hne]; rfl
  | case2 l₁ t₁ l₂ t₂ v rest ih =>
    show (if (l₁ == (pos.line : Int) && l₂ == (pos.col : Int)) = true then some v else codeAmong pos (rest ++ [rawInt a, rawInt b, c])) = none
    have hn' : (if (l₁ == (pos.line : Int) && l₂ == (pos.col : Int)) = true then some v else codeAmong pos rest) = none := hn
    split at hn'
    · cases hn'
    · rename_i q
      rw [if_neg q]; exact ih h hn'
  | case3 => exact h.elim

theorem classed_ok {P : Params} : kb_classed (hd.heap_39 P) = true := by kernel_rfl

def substL (z v : Str) (ss : List Str) (x : Str) : Str := if (isIn z x && !(ss.any (isIn z))) = true then Txt.replace x z v else x

def MsI (w : World) (p : Program) (loose : List Str) (mg mb : Str → Option Value) (bm : Addr) (ob : Obj) (s : Shared) (L : Addr) (ss : List Str) (b : Bool) (n : Nat) (x : Str) (s' : Shared) : Prop :=
  ∃ h₀ ps m t D vs e, Based s.heap h₀ 72 70 ps ∧ (hd.heap_39 w.params).In h₀ ∧ TopRead p loose mg mb h₀ ∧ BMod h₀ mainGlobals mg bm ob ∧ (∀ pos : Pos, n < pos.line → codeAmong pos ps.toList = none) ∧
    Fr h₀ L s'.heap m ∧ News h₀ L s'.heap [(D, listOf vs.toArray e)] ∧ StrsAre vs ss ∧ m (Str.ofString "skeleton") = some (.str x t) ∧ m (Str.ofString "options") = some (.ref D) ∧
    m (Str.ofString "allow_different_fields") = some (.bool b) ∧ AllBare s'.gens ∧ s'.os = s.os

section
variable {w : World} {p : Program} {loose : List Str} {mg mb : Str → Option Value} {bm : Addr} {ob : Obj} {h₁ h₀ h : Heap} {L : Addr} {m : Str → Option Value} {ps : Array Value} {a b : Int} {c : Addr} {n : Nat}
theorem grown (B : Based h₁ h₀ 72 70 ps) (X : (hd.heap_39 w.params).In h₀) (T : TopRead p loose mg mb h₀) (M : BMod h₀ mainGlobals mg bm ob) (hn : ∀ pos : Pos, n < pos.line → codeAmong pos ps.toList = none)
    (_F : Fr (regrown h₀ 70 (ps ++ #[rawInt a, rawInt b, .ref c])) L h m) (B' : Based h₁ (regrown h₀ 70 (ps ++ #[rawInt a, rawInt b, .ref c])) 72 70 (ps ++ #[rawInt a, rawInt b, .ref c])) (n' : Nat) (hle : n ≤ n') (ha : a ≤ (n' : Int)) :
    (hd.heap_39 w.params).In (regrown h₀ 70 (ps ++ #[rawInt a, rawInt b, .ref c])) ∧ TopRead p loose mg mb (regrown h₀ 70 (ps ++ #[rawInt a, rawInt b, .ref c])) ∧
    BMod (regrown h₀ 70 (ps ++ #[rawInt a, rawInt b, .ref c])) mainGlobals mg bm ob ∧ ∀ pos : Pos, n' < pos.line → codeAmong pos (ps ++ #[rawInt a, rawInt b, .ref c]).toList = none := by
  refine ⟨kb_in_regrown B X T.g classed_ok, LGe.top_regrown _F T B, M.regrown B, fun pos hp => ?_⟩
  rw [Array.toList_append]
  obtain ⟨_, _, _, _, _, _, _, _, _, _, _, _, _, _, _, _, _, _, _, tr, _⟩ := B.code
  refine code_none _ tr (hn pos (Nat.lt_of_le_of_lt hle hp)) ?_
  rw [beq_eq_false_iff_ne]; omega
end
theorem exec_via {M : Model} {A : Around} {st : Stmt} {env : Env} {s : Shared} {Q : Flow → Shared → Prop} {E : Value → Shared → Prop} (I : Shared → Prop) (h : wpAny M A (exec st env) (fun f s' => f = .next ∧ I s') (fun _ _ => False) s) (h2 : ∀ s', I s' → Q .next s') : wpAny M A (exec st env) Q E s :=
  wpAny_mono h (fun f s' q => by obtain ⟨rfl, q⟩ := q; exact h2 s' q) fun _ _ e => e.elim

theorem exec_from {α : Type} {M : Model} {A : Around} {t : Sem α} {s : Shared} {Q : α → Shared → Prop} {E : Value → Shared → Prop} (I : Shared → Prop) (h : I s) (h2 : ∀ s', I s' → wpAny M A t Q E s') : wpAny M A t Q E s := h2 s h

theorem substL_no {z v : Str} {ss : List Str} {x : Str} (h : isIn z x = false) : substL z v ss x = x := by unfold substL; rw [h]; rfl
theorem substL_ok {z v : Str} {c : Nat} {ss : List Str} {x : Str} (hz : z = ⟨#[c]⟩) (hv : ∀ k ∈ v.cps.toList, k ∈ letters) (hv1 : v.cps.toList.length ≤ 1) (hx : ∀ k ∈ x.cps.toList, k ∈ letters) (hlen : x.length ≤ 10000) :
    (∀ k ∈ (substL z v ss x).cps.toList, k ∈ letters) ∧ (substL z v ss x).length ≤ 10000 := by
  subst hz
  unfold substL
  split
  · rw [replace_chg]
    refine ⟨fun k hk => ?_, ?_⟩
    · rcases chg_mem _ _ _ _ hk with hk | hk
      · exact hv k hk
      · exact hx k hk
    · have h1 := chg_len c v.cps.toList hv1 x.cps.toList
      have h2 : (Txt.replace x ⟨#[c]⟩ v).length = (Txt.replace x ⟨#[c]⟩ v).cps.toList.length := Array.length_toList.symm
      rw [h2, replace_chg]
      have h3 : x.length = x.cps.toList.length := Array.length_toList.symm
      omega
  · exact ⟨hx, hlen⟩
theorem any_true {ss : List Str} {q : Str → Bool} (h : (ss.filter fun _ => true).any q = true) : ss.any q = true := by simpa using h
theorem any_false {ss : List Str} {q : Str → Bool} (h : (ss.filter fun _ => true).any q = false) : ss.any q = false := by simpa using h
theorem substL_any {z v : Str} {ss : List Str} {x : Str} (h : ss.any (isIn z) = true) : substL z v ss x = x := by unfold substL; rw [h, Bool.not_true, Bool.and_false]; rfl
theorem substL_yes {z v : Str} {ss : List Str} {x : Str} (h : isIn z x = true) (h' : ss.any (isIn z) = false) : substL z v ss x = Txt.replace x z v := by unfold substL; rw [h, h']; rfl
def sub5 (ss : List Str) (x : Str) : Str := substL (Str.ofString "b") (Str.ofString "") ss (substL (Str.ofString "a") (Str.ofString "") ss (substL (Str.ofString "K") (Str.ofString "h") ss (substL (Str.ofString "k") (Str.ofString "H") ss (substL (Str.ofString "z") (Str.ofString "v") ss x))))
def Nice (fs : List Fld) : Prop := (fs.map (·.1)).Nodup ∧ fs.length ≤ 1000
def msStep (st : Option (Str × Int)) (y : Str) (d : Int) : Option (Str × Int) := match st with
  | none => some (y, d)
  | some q => if d < q.2 then some (y, d) else some q
/-- what the loop of match_skeleton keeps -/
def msLoop (f : List Fld) (b : Bool) : List Str → Option (Str × Int) → Option (Str × Int)
  | [], st => st
  | y :: r, st => match distL f (toksOf y) b patKeys 0 with
    | none => msLoop f b r st
    | some d => if d = 0 then msStep st y d else msLoop f b r (msStep st y d)
def BestV (st : Option (Str × Int)) (v : Value) : Prop := match st with
  | none => v = .none
  | some q => ∃ t, v = .str q.1 t
def BestD (st : Option (Str × Int)) (v : Value) : Prop := match st with
  | none => v = .none
  | some q => ∃ t, v = .int q.2 t
theorem strs_get : ∀ {vs : List Value} {ss : List Str}, StrsAre vs ss → ∀ {i : Nat} {v : Value}, vs[i]? = some v → ∃ y u, ss[i]? = some y ∧ v = .str y u
  | _, _, .nil, _, _, h => by cases h
  | _, _, .cons x t _, 0, v, h => by cases h; exact ⟨x, t, rfl, rfl⟩
  | _, _, .cons _ _ r, i + 1, v, h => strs_get r (i := i) (by simpa using h)
theorem drop_of {α : Type} {l : List α} {i : Nat} {a : α} (h : l[i]? = some a) : l.drop i = a :: l.drop (i + 1) := by
  obtain ⟨hl, e⟩ := List.getElem?_eq_some_iff.mp h
  rw [List.drop_eq_getElem_cons hl, e]
theorem drop_keys {kvs : List (Str × Value)} {ks : List Str} {i : Nat} {k : Str} {x : Value} (hm : kvs.map (·.1) = ks) (h : kvs[i]? = some (k, x)) : ks.drop i = k :: ks.drop (i + 1) :=
  drop_of (by rw [← hm, List.getElem?_map, h]; rfl)
theorem dl_same {one other : List Fld} {b : Bool} {c : Str} {cs : List Str} {t : Int} (h : getF one c = getF other c) : distL one other b (c :: cs) t = distL one other b cs t := by
  rw [dl_abs (.inl h) (.inr (by rw [h]; simp)), h]; simp
theorem mx_1 {a b : Int} (h : 2 < a) (h' : b ≤ 2) : (decide (2 < a) != decide (2 < b)) = true := by rw [decide_eq_true h, decide_eq_false (by omega)]; rfl
theorem mx_2 {a b : Int} (h : ¬ 2 < a) (h' : 2 < b) : (decide (2 < a) != decide (2 < b)) = true := by rw [decide_eq_false h, decide_eq_true h']; rfl
theorem mx_3 {a b : Int} (h : 2 < a) (h' : ¬ b ≤ 2) : (decide (2 < a) != decide (2 < b)) = false := by rw [decide_eq_true h, decide_eq_true (by omega)]; rfl
theorem mx_4 {a b : Int} (h : ¬ 2 < a) (h' : ¬ 2 < b) : (decide (2 < a) != decide (2 < b)) = false := by rw [decide_eq_false h, decide_eq_false h']; rfl
theorem msl_none {f : List Fld} {b : Bool} {y : Str} {r : List Str} {st : Option (Str × Int)} (h : distL f (toksOf y) b patKeys 0 = none) : msLoop f b (y :: r) st = msLoop f b r st := by simp only [msLoop, h]
theorem msl_some {f : List Fld} {b : Bool} {y : Str} {r : List Str} {st : Option (Str × Int)} {d : Int} (h : distL f (toksOf y) b patKeys 0 = some d) (hd : d ≠ 0) : msLoop f b (y :: r) st = msLoop f b r (msStep st y d) := by simp only [msLoop, h]; rw [if_neg hd]
theorem msl_stop {f : List Fld} {b : Bool} {y : Str} {r : List Str} {st : Option (Str × Int)} {d : Int} (h : distL f (toksOf y) b patKeys 0 = some d) (hd : d = 0) : msLoop f b (y :: r) st = msStep st y d := by simp only [msLoop, h]; rw [if_pos hd]
theorem LEnd.contI {h₀ h' : Heap} {L I : Addr} {oI : Obj} {s₁ : Shared} {base : Led} {J : (Str → Option Value) → Led → Prop} {Q : Flow → Shared → Prop} {m₂ : Str → Option Value} {tk : Nat} {news₂ all : Led}
    (F : Fr h₀ L h' m₂) (N : News h₀ L h' all) (sub : ∀ p ∈ (I, oI) :: news₂, p ∈ all) (off : ∀ p ∈ news₂, p.1 ≠ I) (hb : ∀ p ∈ base, p ∈ news₂) (hJ : J m₂ news₂) : LEnd h₀ L I oI s₁ base J Q .cont { s₁ with heap := h', toks := tk } :=
  ⟨h', tk, m₂, news₂, rfl, F, fun p hp => N p (sub p hp), off, hb, hJ⟩
theorem LEnd.brkI {h₀ : Heap} {L I : Addr} {oI : Obj} {s₁ s₂ : Shared} {base : Led} {J : (Str → Option Value) → Led → Prop} {Q : Flow → Shared → Prop} (h : Q .next s₂) : LEnd h₀ L I oI s₁ base J Q .brk s₂ := h
theorem led_sub {I I₂ : Addr × Obj} {x : Addr × Obj} {news₁ news₂ : Led} (h : ∀ p ∈ x :: I :: news₁, p ∈ news₂) : ∀ p ∈ I :: news₁, p ∈ I₂ :: news₂ := fun p hp => .tail _ (h p (.tail _ hp))
theorem led_sub' {I : Addr × Obj} {x : Addr × Obj} {news₁ news₂ : Led} (h : ∀ p ∈ x :: I :: news₁, p ∈ news₂) : ∀ p ∈ I :: news₁, p ∈ news₂ := fun p hp => h p (.tail _ hp)
theorem st_none {y : Str} {d : Int} (hy0 : y.length ≠ 0) (hyl : y.length ≤ 10000) : ∀ q, msStep none y d = some q → q.1.length ≠ 0 ∧ q.1.length ≤ 10000 := by
  intro q hq; cases hq; exact ⟨hy0, hyl⟩
theorem step_lt {q : Str × Int} {y : Str} {d : Int} (h : d < q.2) : msStep (some q) y d = some (y, d) := by show (if d < q.2 then some (y, d) else some q) = _; rw [if_pos h]
theorem step_ge {q : Str × Int} {y : Str} {d : Int} (h : ¬ d < q.2) : msStep (some q) y d = some q := by show (if d < q.2 then some (y, d) else some q) = _; rw [if_neg h]
theorem isIn_no {z x : Str} (h : (Builtin.Str.occurrences x z 0 x.length 1).isEmpty = true) : isIn z x = false := by unfold isIn; rw [h]; rfl
theorem isIn_yes {z x : Str} (h : (Builtin.Str.occurrences x z 0 x.length 1).isEmpty = false) : isIn z x = true := by unfold isIn; rw [h]; rfl
theorem isList_of {h₀ h : Heap} {L D : Addr} {news : Led} {its : Array Value} {n : Nat} (N : News h₀ L h news) (hm : (D, listOf its n) ∈ news) : h.IsList D its := ⟨_, (N _ hm).1, rfl, n, rfl⟩
theorem news_re {h₁ h₀ h h₅ h₆ : Heap} {L : Addr} {m : Str → Option Value} {ps ps' : Array Value} {news : Led} (B : Based h₁ h₀ 72 70 ps) (N : News h₀ L h news) (F : Fr h₀ L h m) (F₅ : Fr (regrown h₀ 70 ps') L h₅ m)
    (hk₅ : ∀ b o, b ≠ 70 → h.get? b = some o → h₅.get? b = some o) (hk₆ : ∀ b o, b ≤ h.objs.size - 1 → h₅.get? b = some o → h₆.get? b = some o) : News (regrown h₀ 70 ps') L h₆ news := fun p hp => by
  have z := N p hp
  have hne : p.1 ≠ 70 := fun q => by have := z.2.2; rw [q, B.tab.2] at this; cases this
  refine ⟨hk₆ _ _ (Nat.le_sub_one_of_lt (Heap.lt_size z.1)) (hk₅ _ _ hne z.1), z.2.1, ?_⟩
  exact (Heap.get?_update_other _ _ (Ne.symm hne)).trans z.2.2

def MsEnd (s : Shared) (P : Value → Prop) (fl : Flow) (s' : Shared) : Prop :=
  P (match fl with | .ret v => v | _ => .none) ∧ OldK s.heap s'.heap ∧ (∀ b o, b ≠ 70 → s.heap.get? b = some o → s'.heap.get? b = some o) ∧ s'.os = s.os ∧ AllBare s'.gens

theorem ms_close {s s' : Shared} {P : Value → Prop} {v : Value} {h₀ : Heap} {L : Addr} {m : Str → Option Value} {ps : Array Value} (B : Based s.heap h₀ 72 70 ps) (F : Fr h₀ L s'.heap m) (G : AllBare s'.gens) (hos : s'.os = s.os) (hP : P v) : MsEnd s P (.ret v) s' :=
  ⟨hP, B.finish F, fun b o hb e => F.keep b o ((B.same.2 b hb).trans e), hos, G⟩

section
variable {prog : Program} {w : World} {A : Around} {s : Shared} {K : Frag}
theorem call_enter {Q : Value → Shared → Prop} {E : Value → Shared → Prop} {name qual : Str} {params : Arguments} {body : List Stmt} {scope : Scope} {dV kV doc pm cdv ct oc : Value} {an od : Option Addr} {osl : Array (Option Value)} {f : Addr} {args : List Value} {binds : List (Str × Value)}
    (X : K.In s.heap) (hlim : s.heap.NoLimit)
    (ho : K.lookup f = some ⟨oc, od, .func (fnOf name qual params body scope dV kV doc pm an cdv ct), osl⟩) (hcd : codeIn K cdv qual = true) (hroom : A.depth < recursionLimit)
    (hbind : BindsTo s (fnOf name qual params body scope dV kV doc pm an cdv ct) ⟨args, []⟩ binds) (hloc : ∀ y ∈ binds, scope.names.lookup y.1 = some .local)
    (h : ∀ L h₁ tk, Fr s.heap L h₁ (fun y => binds.reverse.lookup y) → News s.heap L h₁ [] →
      wpAny (model prog w) (A.deeper (envOf qual scope L f cdv)) (execs body (envOf qual scope L f cdv)) (fun fl s' => Q (match fl with | .ret v => v | _ => .none) s') (fun _ _ => False) { s with heap := h₁, toks := tk })
    (hco : scope.isCoroutine = false := by rfl) (hgen : scope.isGenerator = false := by rfl) (hk : scope.kind = .function := by rfl)
    (hcell : ∀ x ∈ scope.names, x.2 ≠ .cell := by decide) : wpAny (model prog w) A (call (.ref f) args) Q E s := by
  refine wpAny_call (codeAny_call_def (fd := fnOf name qual params body scope dV kV doc pm an cdv ct) (body := body) (binds := binds) hroom (X _ _ ho) rfl hlim (codeRec_of X hcd) rfl hbind hcell hloc (fun h₁ hns hk₁ => ?_) hco hgen hk)
  exact wpAny_mono (h s.heap.objs.size h₁ _ ⟨hns, hk₁, Nat.le_refl _⟩ News.nil) (fun fl s' hl => hl) fun _ _ y => y.elim
end
local macro_rules | `(tactic| k_mem) => `(tactic| first | assumption | exact List.Mem.head _ | (refine' List.Mem.tail _ ?_; k_mem))
local macro_rules | `(tactic| walk_at "call builtin:dict.get") => `(tactic| (k_here; (with_reducible rename News _ _ _ _ => N9); k_dflt (refine' get_int N9 ?m ?d ?p ?e ?_; (case m => k_mem); (case d => k_asm); (case p => k_asm); (case e => k_asm)); intro t9))
local macro_rules | `(tactic| walk_at "getMethod ref") => `(tactic| (k_here; (with_reducible rename News _ _ _ _ => N9); k_dflt (refine' meth_get N9 ?m ?d ?p ?e ?_; (case m => k_mem); (case d => k_asm); (case p => k_asm); (case e => k_asm))))
local macro_rules | `(tactic| walk_at "truthy str") => `(tactic| (k_here; refine' PySem.P.truthy_str ?a ?_; (case a => omega)))
local macro_rules | `(tactic| walk_at "loadName") => `(tactic| (k_here; (with_reducible rename Fr _ _ _ _ => F9); k_dflt (refine' ldn F9 ?v ?_; (case v => assumption))))
local macro_rules | `(tactic| walk_at "eval Name") => `(tactic| (k_here; (with_reducible rename Fr _ _ _ _ => F9); k_dflt (refine' ld F9 ?v ?_; (case v => assumption))))
local macro_rules | `(tactic| walk_at "go") => `(tactic| repeat' ((fail_if_success (with_reducible show wpAny _ _ (eval (PySem.Expr.GeneratorExp _ _ _ _) _) _ _ _)); (fail_if_success (with_reducible show wpAny _ _ (eval (PySem.Expr.ListComp _ _ _ _) _) _ _ _)); (fail_if_success (with_reducible show wpAny _ _ (call (Value.type "dict") _ _) _ _ _)); (fail_if_success (with_reducible show wpAny _ _ (call (Value.ref 67) _ _) _ _ _)); (fail_if_success (with_reducible show wpAny _ _ (call (Value.builtin "sorted") _) _ _ _)); (fail_if_success (with_reducible show wpAny _ _ (call (Value.builtin "any") _) _ _ _)); (fail_if_success (with_reducible show wpAny _ _ (call (Value.builtin "str.replace") _) _ _ _)); (fail_if_success (with_reducible show wpAny _ _ (exec (PySem.Stmt.If (PySem.Expr.BoolOp PySem.BoolOp.And [(PySem.Expr.Compare (PySem.Expr.Constant _ _ _) _ _ _), _] _) _ _ _) _) _ _ _)); (fail_if_success (with_reducible show wpAny _ _ (exec (PySem.Stmt.For _ _ _ _ _) _) _ _ _)); (first | (k_unfold; (try dsimp only)) | (k_end; wrow_close) | walk1 | (dsimp only; walk1) | (leave1; walk_say "STEP leave1"; try dsimp only))))

set_option maxHeartbeats 8000000 in
theorem ms_spec {w : World} {A : Around} {p : Program} {loose : List Str} {mg mb : Str → Option Value} {s : Shared} {x : Str} {t : Tok} {o : Addr} {vs : List Value} {ss : List Str} {b : Bool} {bm : Addr} {ob : Obj} {P : Value → Prop} {Q : Value → Shared → Prop} {E : Value → Shared → Prop}
    (C : CxR w A p loose mg mb s.heap) (Z : s.heap.get? 70 = some tab0) (M : BMod s.heap mainGlobals mg bm ob) (G : AllBare s.gens) (hd : A.depth + 8 < recursionLimit) (hx : ∀ c ∈ x.cps.toList, c ∈ letters) (hlen : x.length ≤ 10000)
    (ho : s.heap.IsList o vs.toArray) (hS : StrsAre vs ss) (hss : ss.length ≤ 4) (hok : ∀ y ∈ ss, y.length ≤ 10000 ∧ ∀ c ∈ y.cps.toList, c ∈ letters)
    (hsk : ∀ ss', ss'.Perm (ss.filter fun y => ((y.length : Int) != 0)) → Nice (toksOf (sub5 ss' x))) (hso : ∀ y ∈ ss, Nice (toksOf y))
    (hP : ∀ ss' v, ss'.Perm (ss.filter fun y => ((y.length : Int) != 0)) → sortedS ss' = true → BestV (msLoop (toksOf (sub5 ss' x)) b ss' none) v → P v)
    (hQ : ∀ v s', MsEnd s P (.ret v) s' → Q v s') :
    wpAny (model prg w) A (call (.ref 73) [.str x t, .ref o, .bool b]) Q E s := by
  obtain ⟨X, T, hh⟩ := C
  obtain ⟨hdl, dp, frs, gds, un⟩ := A
  obtain rfl : hdl = none := hh
  have B := based0 X Z
  refine call_enter (binds := [(Str.ofString "skeleton", .str x t), (Str.ofString "options", .ref o), (Str.ofString "allow_different_fields", .bool b)]) X T.nolimit (by k_is) (by k_is) (Nat.lt_of_le_of_lt (Nat.le_add_right _ 8) hd) (binds_K X rfl (by k_is) rfl rfl rfl) (locs rfl) ?_
  intro L h₁ tk F N
  obtain ⟨m₀, hm₀, f1, f2, f3⟩ : ∃ m₀, Fr s.heap L h₁ m₀ ∧ m₀ (Str.ofString "skeleton") = some (.str x t) ∧ m₀ (Str.ofString "options") = some (.ref o) ∧ m₀ (Str.ofString "allow_different_fields") = some (.bool b) := ⟨_, F, rfl, rfl, rfl⟩
  clear F
  (try dsimp only); (try k_fold)
  walk_at "go"
  have hd' : dp + 8 < recursionLimit := hd
  have hsz := hm₀.ns.lt
  refine some_gen B M rfl rfl rfl rfl (Nat.lt_of_le_of_lt (Nat.le_add_right (dp + 1) 7) hd') (fun Q' E' h => ld hm₀ f2 h) (let ⟨o', e, c, d⟩ := ho; ⟨o', hm₀.keep _ _ e, c, d⟩) hS (fun y hy => (hok y hy).1) hm₀ G (T.nolimit.keeps hm₀.keep) ?_
  intro c₅ a₅ s₅ B₅ F₅ G₅ hos₅ hk₅ X₅
  walk_at "go"
  refine sorted_genD F₅ G₅ X₅ (Nat.le_sub_one_of_lt hsz) (by omega) ?_
  intro s₆ D vs' ss' e F₆ G₆ hos₆ hk₆ N₆ hS₆ hp₆ hs₆
  walk_at "go"
  with_reducible rename Fr _ _ _ _ => F₇
  with_reducible rename News _ _ _ _ => N₇
  obtain ⟨X₇, T₇, M₇, hn₇⟩ := grown (n := 0) B X T M (fun _ _ => rfl) F₇ B₅ 50 (Nat.zero_le _) (by decide)
  refine exec_from (MsI w p loose mg mb bm ob s L ss' b 50 x) ⟨_, _, _, _, _, _, _, B₅, X₇, T₇, M₇, hn₇, F₇, N₇, hS₆, f1, rfl, f3, G₆, hos₆.trans hos₅⟩ ?_
  clear X₇ T₇ M₇ hn₇ F₇ N₇ B₅ X₅ hk₅ hk₆ hos₅ hos₆ G₅ G₆ hsz f1 f2 f3 hm₀ N hS₆ B X T M
  rintro s₁ ⟨h₀, ps, m, t, D, vs, e, B, X, T, M, hn, F, N, hS, f1, f2, f3, G, hos⟩
  have T9 := T.nolimit
  have hlt := F.ns.lt
  obtain ⟨hx1, hlen1⟩ := substL_ok (z := Str.ofString "z") (v := Str.ofString "v") (c := 122) (ss := ss') rfl (by decide) (by decide) hx hlen
  walk_at "go"
  refine exec_via (MsI w p loose mg mb bm ob s L ss' b 51 (substL (Str.ofString "z") (Str.ofString "v") ss' x)) ?_ ?_
  · clear hx1 hlen1
    walk1
    walk_at "go"
    · rename_i hno _ _
      refine ⟨h₀, ps, m, t, D, vs, e, B, X, T, M, fun pos hp => hn pos (Nat.lt_of_le_of_lt (by decide) hp), by assumption, N, hS, ?_, f2, f3, G, hos⟩
      rw [substL_no (isIn_no (by assumption))]; exact f1
    · rename_i hyes
      with_reducible rename Fr _ _ _ _ => F'
      refine any_gen' (Nat.le_add_left 1 _) B M rfl (hn _ (by decide)) rfl rfl (Nat.lt_of_le_of_lt (Nat.le_add_right (dp + 1) 7) hd') (fun Q' E' h => ld F' f2 h) (isList_of N (.head _)) hS F' G (T9.keeps F'.keep) ?_
      intro c₅ a₅ s₅ ht₅ B₅ F₅ G₅ hos₅ hk₅ X₅
      walk_at "go"
      refine any_genD' ht₅ F₅ G₅ X₅ (Nat.le_sub_one_of_lt hlt) ?_
      intro s₆ ht₆ F₆ G₆ hos₆ hk₆
      have N₆ := news_re B N F' F₅ hk₅ hk₆
      obtain ⟨X₇, T₇, M₇, hn₇⟩ := grown B X T M hn F₅ B₅ 51 (by decide) (by decide)
      clear X T M hn F₅ B X₅ hk₅ hk₆ G₅ T9 N F' hlt
      walk_at "go"
      · have hany := any_true (by assumption)
        with_reducible rename Fr _ _ _ _ => F'
        refine ⟨_, _, m, t, D, vs, e, B₅, X₇, T₇, M₇, hn₇, F', N₆, hS, ?_, f2, f3, G₆, hos₆.trans (hos₅.trans hos)⟩
        rw [substL_any hany]; exact f1
      · have hany := any_false (by assumption)
        refine SC.replaceW (Nat.ne_of_gt ht₆) (Nat.ne_of_gt (Nat.lt_succ_of_lt ht₆)) (Nat.ne_of_lt (Nat.lt_succ_self _)) (by decide) (by have := hlen; omega) (by decide) ?_
        intro t' k'
        walk_at "go"
        with_reducible rename Fr _ _ _ _ => F'
        with_reducible rename News _ _ _ _ => N'
        refine ⟨_, _, _, t', D, vs, e, B₅, X₇, T₇, M₇, hn₇, F', N', hS, ?_, f2, f3, G₆, hos₆.trans (hos₅.trans hos)⟩
        rw [substL_yes (isIn_yes hyes) hany]
        rfl
  clear B X T M hn N hS f1 f2 f3 G hos T9 hlt
  rintro s₁ ⟨h₀, ps, m, t, D, vs, e, B, X, T, M, hn, F, N, hS, f1, f2, f3, G, hos⟩
  have T9 := T.nolimit
  have hlt := F.ns.lt
  obtain ⟨hx2, hlen2⟩ := substL_ok (z := Str.ofString "k") (v := Str.ofString "H") (c := 107) (ss := ss') rfl (by decide) (by decide) hx1 hlen1
  walk_at "go"
  refine exec_via (MsI w p loose mg mb bm ob s L ss' b 53 (substL (Str.ofString "k") (Str.ofString "H") ss' (substL (Str.ofString "z") (Str.ofString "v") ss' x))) ?_ ?_
  · clear hx2 hlen2
    walk1
    walk_at "go"
    · rename_i hno _ _
      refine ⟨h₀, ps, m, t, D, vs, e, B, X, T, M, fun pos hp => hn pos (Nat.lt_of_le_of_lt (by decide) hp), by assumption, N, hS, ?_, f2, f3, G, hos⟩
      rw [substL_no (isIn_no (by assumption))]; exact f1
    · rename_i hyes
      with_reducible rename Fr _ _ _ _ => F'
      refine any_gen' (Nat.le_add_left 1 _) B M rfl (hn _ (by decide)) rfl rfl (Nat.lt_of_le_of_lt (Nat.le_add_right (dp + 1) 7) hd') (fun Q' E' h => ld F' f2 h) (isList_of N (.head _)) hS F' G (T9.keeps F'.keep) ?_
      intro c₅ a₅ s₅ ht₅ B₅ F₅ G₅ hos₅ hk₅ X₅
      walk_at "go"
      refine any_genD' ht₅ F₅ G₅ X₅ (Nat.le_sub_one_of_lt hlt) ?_
      intro s₆ ht₆ F₆ G₆ hos₆ hk₆
      have N₆ := news_re B N F' F₅ hk₅ hk₆
      obtain ⟨X₇, T₇, M₇, hn₇⟩ := grown B X T M hn F₅ B₅ 53 (by decide) (by decide)
      clear X T M hn F₅ B X₅ hk₅ hk₆ G₅ T9 N F' hlt
      walk_at "go"
      · have hany := any_true (by assumption)
        with_reducible rename Fr _ _ _ _ => F'
        refine ⟨_, _, m, t, D, vs, e, B₅, X₇, T₇, M₇, hn₇, F', N₆, hS, ?_, f2, f3, G₆, hos₆.trans (hos₅.trans hos)⟩
        rw [substL_any hany]; exact f1
      · have hany := any_false (by assumption)
        refine SC.replaceW (Nat.ne_of_gt ht₆) (Nat.ne_of_gt (Nat.lt_succ_of_lt ht₆)) (Nat.ne_of_lt (Nat.lt_succ_self _)) (by decide) (by have := hlen1; omega) (by decide) ?_
        intro t' k'
        walk_at "go"
        with_reducible rename Fr _ _ _ _ => F'
        with_reducible rename News _ _ _ _ => N'
        refine ⟨_, _, _, t', D, vs, e, B₅, X₇, T₇, M₇, hn₇, F', N', hS, ?_, f2, f3, G₆, hos₆.trans (hos₅.trans hos)⟩
        rw [substL_yes (isIn_yes hyes) hany]
        rfl
  clear B X T M hn N hS f1 f2 f3 G hos T9 hlt
  rintro s₁ ⟨h₀, ps, m, t, D, vs, e, B, X, T, M, hn, F, N, hS, f1, f2, f3, G, hos⟩
  have T9 := T.nolimit
  have hlt := F.ns.lt
  obtain ⟨hx3, hlen3⟩ := substL_ok (z := Str.ofString "K") (v := Str.ofString "h") (c := 75) (ss := ss') rfl (by decide) (by decide) hx2 hlen2
  walk_at "go"
  refine exec_via (MsI w p loose mg mb bm ob s L ss' b 55 (substL (Str.ofString "K") (Str.ofString "h") ss' (substL (Str.ofString "k") (Str.ofString "H") ss' (substL (Str.ofString "z") (Str.ofString "v") ss' x)))) ?_ ?_
  · clear hx3 hlen3
    walk1
    walk_at "go"
    · rename_i hno _ _
      refine ⟨h₀, ps, m, t, D, vs, e, B, X, T, M, fun pos hp => hn pos (Nat.lt_of_le_of_lt (by decide) hp), by assumption, N, hS, ?_, f2, f3, G, hos⟩
      rw [substL_no (isIn_no (by assumption))]; exact f1
    · rename_i hyes
      with_reducible rename Fr _ _ _ _ => F'
      refine any_gen' (Nat.le_add_left 1 _) B M rfl (hn _ (by decide)) rfl rfl (Nat.lt_of_le_of_lt (Nat.le_add_right (dp + 1) 7) hd') (fun Q' E' h => ld F' f2 h) (isList_of N (.head _)) hS F' G (T9.keeps F'.keep) ?_
      intro c₅ a₅ s₅ ht₅ B₅ F₅ G₅ hos₅ hk₅ X₅
      walk_at "go"
      refine any_genD' ht₅ F₅ G₅ X₅ (Nat.le_sub_one_of_lt hlt) ?_
      intro s₆ ht₆ F₆ G₆ hos₆ hk₆
      have N₆ := news_re B N F' F₅ hk₅ hk₆
      obtain ⟨X₇, T₇, M₇, hn₇⟩ := grown B X T M hn F₅ B₅ 55 (by decide) (by decide)
      clear X T M hn F₅ B X₅ hk₅ hk₆ G₅ T9 N F' hlt
      walk_at "go"
      · have hany := any_true (by assumption)
        with_reducible rename Fr _ _ _ _ => F'
        refine ⟨_, _, m, t, D, vs, e, B₅, X₇, T₇, M₇, hn₇, F', N₆, hS, ?_, f2, f3, G₆, hos₆.trans (hos₅.trans hos)⟩
        rw [substL_any hany]; exact f1
      · have hany := any_false (by assumption)
        refine SC.replaceW (Nat.ne_of_gt ht₆) (Nat.ne_of_gt (Nat.lt_succ_of_lt ht₆)) (Nat.ne_of_lt (Nat.lt_succ_self _)) (by decide) (by have := hlen2; omega) (by decide) ?_
        intro t' k'
        walk_at "go"
        with_reducible rename Fr _ _ _ _ => F'
        with_reducible rename News _ _ _ _ => N'
        refine ⟨_, _, _, t', D, vs, e, B₅, X₇, T₇, M₇, hn₇, F', N', hS, ?_, f2, f3, G₆, hos₆.trans (hos₅.trans hos)⟩
        rw [substL_yes (isIn_yes hyes) hany]
        rfl
  clear B X T M hn N hS f1 f2 f3 G hos T9 hlt
  rintro s₁ ⟨h₀, ps, m, t, D, vs, e, B, X, T, M, hn, F, N, hS, f1, f2, f3, G, hos⟩
  have T9 := T.nolimit
  have hlt := F.ns.lt
  obtain ⟨hx4, hlen4⟩ := substL_ok (z := Str.ofString "a") (v := Str.ofString "") (c := 97) (ss := ss') rfl (by decide) (by decide) hx3 hlen3
  walk_at "go"
  refine exec_via (MsI w p loose mg mb bm ob s L ss' b 57 (substL (Str.ofString "a") (Str.ofString "") ss' (substL (Str.ofString "K") (Str.ofString "h") ss' (substL (Str.ofString "k") (Str.ofString "H") ss' (substL (Str.ofString "z") (Str.ofString "v") ss' x))))) ?_ ?_
  · clear hx4 hlen4
    walk1
    walk_at "go"
    · rename_i hno _ _
      refine ⟨h₀, ps, m, t, D, vs, e, B, X, T, M, fun pos hp => hn pos (Nat.lt_of_le_of_lt (by decide) hp), by assumption, N, hS, ?_, f2, f3, G, hos⟩
      rw [substL_no (isIn_no (by assumption))]; exact f1
    · rename_i hyes
      with_reducible rename Fr _ _ _ _ => F'
      refine any_gen' (Nat.le_add_left 1 _) B M rfl (hn _ (by decide)) rfl rfl (Nat.lt_of_le_of_lt (Nat.le_add_right (dp + 1) 7) hd') (fun Q' E' h => ld F' f2 h) (isList_of N (.head _)) hS F' G (T9.keeps F'.keep) ?_
      intro c₅ a₅ s₅ ht₅ B₅ F₅ G₅ hos₅ hk₅ X₅
      walk_at "go"
      refine any_genD' ht₅ F₅ G₅ X₅ (Nat.le_sub_one_of_lt hlt) ?_
      intro s₆ ht₆ F₆ G₆ hos₆ hk₆
      have N₆ := news_re B N F' F₅ hk₅ hk₆
      obtain ⟨X₇, T₇, M₇, hn₇⟩ := grown B X T M hn F₅ B₅ 57 (by decide) (by decide)
      clear X T M hn F₅ B X₅ hk₅ hk₆ G₅ T9 N F' hlt
      walk_at "go"
      · have hany := any_true (by assumption)
        with_reducible rename Fr _ _ _ _ => F'
        refine ⟨_, _, m, t, D, vs, e, B₅, X₇, T₇, M₇, hn₇, F', N₆, hS, ?_, f2, f3, G₆, hos₆.trans (hos₅.trans hos)⟩
        rw [substL_any hany]; exact f1
      · have hany := any_false (by assumption)
        refine SC.replaceW (Nat.ne_of_gt ht₆) (Nat.ne_of_gt (Nat.lt_succ_of_lt ht₆)) (Nat.ne_of_lt (Nat.lt_succ_self _)) (by decide) (by have := hlen3; omega) (by decide) ?_
        intro t' k'
        walk_at "go"
        with_reducible rename Fr _ _ _ _ => F'
        with_reducible rename News _ _ _ _ => N'
        refine ⟨_, _, _, t', D, vs, e, B₅, X₇, T₇, M₇, hn₇, F', N', hS, ?_, f2, f3, G₆, hos₆.trans (hos₅.trans hos)⟩
        rw [substL_yes (isIn_yes hyes) hany]
        rfl
  clear B X T M hn N hS f1 f2 f3 G hos T9 hlt
  rintro s₁ ⟨h₀, ps, m, t, D, vs, e, B, X, T, M, hn, F, N, hS, f1, f2, f3, G, hos⟩
  have T9 := T.nolimit
  have hlt := F.ns.lt
  obtain ⟨hx5, hlen5⟩ := substL_ok (z := Str.ofString "b") (v := Str.ofString "") (c := 98) (ss := ss') rfl (by decide) (by decide) hx4 hlen4
  walk_at "go"
  refine exec_via (MsI w p loose mg mb bm ob s L ss' b 59 (substL (Str.ofString "b") (Str.ofString "") ss' (substL (Str.ofString "a") (Str.ofString "") ss' (substL (Str.ofString "K") (Str.ofString "h") ss' (substL (Str.ofString "k") (Str.ofString "H") ss' (substL (Str.ofString "z") (Str.ofString "v") ss' x)))))) ?_ ?_
  · clear hx5 hlen5
    walk1
    walk_at "go"
    · rename_i hno _ _
      refine ⟨h₀, ps, m, t, D, vs, e, B, X, T, M, fun pos hp => hn pos (Nat.lt_of_le_of_lt (by decide) hp), by assumption, N, hS, ?_, f2, f3, G, hos⟩
      rw [substL_no (isIn_no (by assumption))]; exact f1
    · rename_i hyes
      with_reducible rename Fr _ _ _ _ => F'
      refine any_gen' (Nat.le_add_left 1 _) B M rfl (hn _ (by decide)) rfl rfl (Nat.lt_of_le_of_lt (Nat.le_add_right (dp + 1) 7) hd') (fun Q' E' h => ld F' f2 h) (isList_of N (.head _)) hS F' G (T9.keeps F'.keep) ?_
      intro c₅ a₅ s₅ ht₅ B₅ F₅ G₅ hos₅ hk₅ X₅
      walk_at "go"
      refine any_genD' ht₅ F₅ G₅ X₅ (Nat.le_sub_one_of_lt hlt) ?_
      intro s₆ ht₆ F₆ G₆ hos₆ hk₆
      have N₆ := news_re B N F' F₅ hk₅ hk₆
      obtain ⟨X₇, T₇, M₇, hn₇⟩ := grown B X T M hn F₅ B₅ 59 (by decide) (by decide)
      clear X T M hn F₅ B X₅ hk₅ hk₆ G₅ T9 N F' hlt
      walk_at "go"
      · have hany := any_true (by assumption)
        with_reducible rename Fr _ _ _ _ => F'
        refine ⟨_, _, m, t, D, vs, e, B₅, X₇, T₇, M₇, hn₇, F', N₆, hS, ?_, f2, f3, G₆, hos₆.trans (hos₅.trans hos)⟩
        rw [substL_any hany]; exact f1
      · have hany := any_false (by assumption)
        refine SC.replaceW (Nat.ne_of_gt ht₆) (Nat.ne_of_gt (Nat.lt_succ_of_lt ht₆)) (Nat.ne_of_lt (Nat.lt_succ_self _)) (by decide) (by have := hlen4; omega) (by decide) ?_
        intro t' k'
        walk_at "go"
        with_reducible rename Fr _ _ _ _ => F'
        with_reducible rename News _ _ _ _ => N'
        refine ⟨_, _, _, t', D, vs, e, B₅, X₇, T₇, M₇, hn₇, F', N', hS, ?_, f2, f3, G₆, hos₆.trans (hos₅.trans hos)⟩
        rw [substL_yes (isIn_yes hyes) hany]
        rfl
  clear B X T M hn N hS f1 f2 f3 G hos T9 hlt
  rintro s₁ ⟨h₀, ps, m, t, D, vs, e, B, X, T, M, hn, F, N, hS, f1, f2, f3, G, hos⟩
  have T9 := T.nolimit
  have hk := hsk ss' hp₆
  have hP' := fun v => hP ss' v hp₆ hs₆
  have f1 : m (Str.ofString "skeleton") = some (.str (sub5 ss' x) t) := f1
  have hx5 : ∀ k ∈ (sub5 ss' x).cps.toList, k ∈ letters := hx5
  have hlen5 : (sub5 ss' x).length ≤ 10000 := hlen5
  have hss' : ∀ y ∈ ss', y.length ≠ 0 ∧ y.length ≤ 10000 ∧ (∀ c ∈ y.cps.toList, c ∈ letters) ∧ Nice (toksOf y) := fun y hy => by
    have := List.mem_filter.mp (hp₆.mem_iff.mp hy)
    exact ⟨by have := this.2; simpa using this, (hok y this.1).1, (hok y this.1).2, hso y this.1⟩
  have hlss : ss'.length ≤ 4 := by rw [hp₆.length_eq]; exact Nat.le_trans (List.length_filter_le _ _) hss
  clear hx1 hlen1 hx2 hlen2 hx3 hlen3 hx4 hlen4 hsk hP hso hx hlen hok hp₆ hs₆
  generalize sub5 ss' x = sk at *
  walk_at "go"
  refine tok_comp (cl := []) rfl (closureFor_none (by decide)) (by decide) rfl (by decide) (by decide) ?_
  walk_at "go"
  with_reducible rename Fr _ _ _ _ => F'
  refine tok_spec ⟨X.keeps F'.keep, T.keeps F'.keep, rfl⟩ (show dp + 1 + 2 < recursionLimit by omega) hx5 hlen5 _ _ ?_
  intro v₂ h₂ tk₂ tl₂ M₂ hT₂
  refine ⟨toksOf sk, hT₂.mono M₂.lk, Nat.le_trans hk.2 (by decide), ?_⟩
  intro h₃ tk₃ D₃ its n M₃ hP₃
  have F₃ := M₃.fr (M₂.fr F')
  have N₃ : News h₀ L h₃ [(D, listOf vs.toArray e)] := fun p hp => ⟨M₃.keep _ _ (M₂.keep _ _ (N p hp).1), (N p hp).2⟩
  clear F'
  walk_at "go"
  refine call_dict rfl (T9.keeps F₃.keep) (M₃.new _ (.head _)).1 (paired_mono (fun _ _ => IsPair.mono M₃.keep) hP₃) hk.1 hk.2 ?_
  intro h₄ tk₄ D₄ o₄ kvs₄ M₄ hd₄ hp₄ hne₄
  have F₄ := M₄.fr F₃
  have N₄ : News h₀ L h₄ [(D₄, o₄), (D, listOf vs.toArray e)] := M₄.news F₃ N₃
  have l₄ : D ≠ D₄ := M₄.apart N₃ _ (.head _) _ (.head _)
  clear F₃ N₃ M₄ M₃ M₂ N hP₃ hT₂
  walk_at "go"
  refine for_loop (h₀ := h₀) (fun i m _ => m (Str.ofString "input_widths") = some (.ref D₄) ∧ m (Str.ofString "allow_different_fields") = some (.bool b) ∧
    ∃ st v₁ v₂, m (Str.ofString "best_skeleton") = some v₁ ∧ m (Str.ofString "best_distance") = some v₂ ∧ BestV st v₁ ∧ BestD st v₂ ∧ (∀ q, st = some q → q.1.length ≠ 0 ∧ q.1.length ≤ 10000) ∧
      msLoop (toksOf sk) b ss' none = msLoop (toksOf sk) b (ss'.drop i) st) ?_
  walk1
  with_reducible rename Fr _ _ _ _ => F₄
  with_reducible rename News _ _ _ _ => N₄
  refine ⟨_, _, _, [D], _, _, [(D₄, o₄), (D, listOf vs.toArray e)], SrcS.list rfl (isList_of N₄ (.tail _ (.head _))), F₄, N₄, ⟨rfl, f3, none, .none, .none, rfl, rfl, rfl, rfl, (fun q hq => nomatch hq), rfl⟩, (fun p hp => hp), ?_, ?_, ?_⟩
  · intro q hq
    rw [List.mem_singleton.mp hq]
    exact .inr ⟨_, .tail _ (.head _)⟩
  · rintro i v m₁ news₁ h tk I oI hi hv ⟨j1, j2, st, v₁, v₂, j3, j4, hv₁, hv₂, hst, hj⟩ F₇ N₇ off hbase hG
    obtain ⟨y, u, hy, rfl⟩ := strs_get hS (by simpa using hv)
    obtain ⟨hy0, hyl, hyc, hyn⟩ := hss' y (List.mem_of_getElem? hy)
    refine wpAny_pure ?_
    refine wpAny_assign_Name (stN F₇ N₇ ?_)
    intro h' F' N'
    have hD₄ := hbase (D₄, o₄) (.head _)
    have hdrop := drop_of hy
    rw [hdrop] at hj
    clear F₇ N₇ F₄ N₄ f1 f2 f3 hdrop hG hv hi
    walk_at "go"
    refine tok_comp (cl := []) rfl (closureFor_none (by decide)) (by decide) rfl (by decide) (by decide) ?_
    walk_at "go"
    with_reducible rename Fr _ _ _ _ => F'
    refine tok_spec ⟨X.keeps F'.keep, T.keeps F'.keep, rfl⟩ (show dp + 1 + 2 < recursionLimit by omega) hyc hyl _ _ ?_
    intro v₂' h₂ tk₂ tl₂ M₂ hT₂
    refine ⟨toksOf y, hT₂.mono M₂.lk, Nat.le_trans hyn.2 (by decide), ?_⟩
    intro h₃ tk₃ D₃ its n M₃ hP₃
    have F₃ := M₃.fr (M₂.fr F')
    have N₃ : News h₀ L h₃ ((I, oI) :: news₁) := fun p hp => ⟨M₃.keep _ _ (M₂.keep _ _ (N' p hp).1), (N' p hp).2⟩
    clear F'
    walk_at "go"
    refine call_dict rfl (T9.keeps F₃.keep) (M₃.new _ (.head _)).1 (paired_mono (fun _ _ => IsPair.mono M₃.keep) hP₃) hyn.1 hyn.2 ?_
    intro h₅ tk₅ D₅ o₅ kvs₅ M₅ hd₅ hp₅ hne₅
    have F₅ := M₅.fr F₃
    have N₅ : News h₀ L h₅ ((D₅, o₅) :: (I, oI) :: news₁) := M₅.news F₃ N₃
    clear F₃ N₃ M₅ M₃ M₂ N' hP₃ hT₂
    walk_at "go"
    obtain ⟨kvs, ep, hkk, hmk⟩ := pat_at X
    refine for_loop (h₀ := h₀) (fun i m _ => m (Str.ofString "input_widths") = some (.ref D₄) ∧ m (Str.ofString "opt_widths") = some (.ref D₅) ∧ m (Str.ofString "allow_different_fields") = some (.bool b) ∧
      m (Str.ofString "option") = some (.str y u) ∧ m (Str.ofString "best_skeleton") = some v₁ ∧ m (Str.ofString "best_distance") = some v₂ ∧
      ∃ tot t, m (Str.ofString "distance") = some (.int tot t) ∧ distL (toksOf sk) (toksOf y) b patKeys 0 = distL (toksOf sk) (toksOf y) b (patKeys.drop i) tot) ?_
    walk1
    with_reducible rename Fr _ _ _ _ => F₆
    with_reducible rename News _ _ _ _ => N₆
    refine ⟨_, _, _, [15], _, _, (D₅, o₅) :: (I, oI) :: news₁, SrcS.dict rfl (by decide) (hkk.keep F₆.keep), F₆, N₆, ⟨j1, rfl, j2, rfl, j3, j4, 0, _, rfl, rfl⟩, (fun p hp => hp), ?_, ?_, ?_⟩
    · intro q hq
      rw [List.mem_singleton.mp hq]
      obtain ⟨o', es, ho', _⟩ := hkk
      exact .inl ⟨o', ho'⟩
    · rintro i' v m₂ news₂ h tk I₂ oI₂ hi hv ⟨g1, g2, g3, g4, g5, g6, tot, t, g7, g8⟩ F₇ N₇ off₂ hbase₂ -
      obtain ⟨k, xv, hk', hkv⟩ := hv
      obtain ⟨tk', rfl⟩ := str_of_is hkv
      refine wpAny_pure ?_
      refine wpAny_assign_Name (stN F₇ N₇ ?_)
      intro h'' F'' N''
      have hb₄ := hbase₂ (D₄, o₄) (.tail _ (.tail _ hD₄))
      have hb₅ := hbase₂ (D₅, o₅) (.head _)
      have hdrop := drop_keys hmk hk'
      rw [hdrop] at g8
      clear F₇ N₇ F₆ N₆
      walk_at "go"
      all_goals dsimp only
      all_goals first
        | (with_reducible rename Fr _ _ _ _ => F9; with_reducible rename News _ _ _ _ => N9
           refine LEnd.nextI F9 N9 (fun p hp => hp) off₂ hbase₂ ⟨g1, g2, g3, g4, g5, g6, _, _, (by first | exact g7 | rfl), ?_⟩
           rw [g8]
           first
           | exact dl_same (by assumption)
           | exact dl_let (by assumption) (.inr (by assumption)) (by assumption)
           | exact dl_let (by assumption) (.inl (by assumption)) (by assumption)
           | exact dl_m (.inr ⟨by assumption, by assumption⟩) (by assumption) (mx_1 (by assumption) (by assumption))
           | exact dl_m (.inr ⟨by assumption, by assumption⟩) (by assumption) (mx_2 (by assumption) (by assumption))
           | exact dl_abs (.inr ⟨by assumption, by assumption⟩) (.inr (mx_3 (by assumption) (by assumption)))
           | exact dl_abs (.inr ⟨by assumption, by assumption⟩) (.inr (mx_4 (by assumption) (by assumption)))
           | exact dl_abs (.inr ⟨by assumption, by assumption⟩) (.inl (by assumption)))
        | (with_reducible rename Fr _ _ _ _ => F9; with_reducible rename News _ _ _ _ => N9
           refine LEnd.contI F9 N9 (fun p hp => hp) off₂ hbase₂ ⟨g1, g2, g3, g4, g5, g6, _, _, g7, ?_⟩
           rw [g8]
           exact dl_same (by assumption))
        | (refine LEnd.brkI ?_
           have hno : distL (toksOf sk) (toksOf y) b patKeys 0 = none := by
             rw [g8]
             first | exact dl_no (by assumption) (.inr (by assumption)) (by assumption) | exact dl_no (by assumption) (.inl (by assumption)) (by assumption)
           clear g8
           dsimp only
           walk_at "go"
           dsimp only
           with_reducible rename Fr _ _ _ _ => F9
           with_reducible rename News _ _ _ _ => N9
           refine LEnd.contI F9 N9 (led_sub hbase₂) off hbase ⟨g1, g3, st, v₁, v₂, g5, g6, hv₁, hv₂, hst, ?_⟩
           rw [hj]
           exact msl_none hno)
    · rintro h' tk m' news' F₇ N₇ hb₂ ⟨g1, g2, g3, g4, g5, g6, tot, t, g7, g8⟩
      have hend : patKeys.drop kvs.length = [] := List.drop_of_length_le (by rw [← hmk, List.length_map]; exact Nat.le_refl _)
      rw [hend] at g8
      have g8 : distL (toksOf sk) (toksOf y) b patKeys 0 = some tot := g8
      clear F₆ N₆
      dsimp only
      rcases st with _ | q
      · obtain rfl := hv₁
        obtain rfl := hv₂
        walk_at "go"
        all_goals dsimp only
        · with_reducible rename Fr _ _ _ _ => F9
          refine LEnd.brkI ?_
          have hres := msl_stop (r := ss'.drop (i + 1)) (st := none) g8 (by assumption)
          rw [← hj] at hres
          dsimp only
          walk_at "go"
          dsimp only
          with_reducible rename Fr _ _ _ _ => F9
          exact hQ _ _ (ms_close B F9 G hos (hP' _ (by rw [hres]; exact ⟨_, rfl⟩)))
        · with_reducible rename Fr _ _ _ _ => F9
          with_reducible rename News _ _ _ _ => N9
          refine LEnd.nextI F9 N9 (led_sub' hb₂) off hbase ⟨g1, g3, msStep none y tot, _, _, rfl, rfl, ⟨_, rfl⟩, ⟨_, rfl⟩, st_none hy0 hyl, ?_⟩
          rw [hj]
          exact msl_some g8 (by assumption)
        · exact absurd (by assumption : (y.length : Int) = 0) (by omega)
      · obtain ⟨q1, rfl⟩ := hv₁
        obtain ⟨q2, rfl⟩ := hv₂
        obtain ⟨hq0, hql⟩ := hst q rfl
        walk_at "go"
        all_goals dsimp only
        · with_reducible rename Fr _ _ _ _ => F9
          refine LEnd.brkI ?_
          have hres := msl_stop (r := ss'.drop (i + 1)) (st := some q) g8 (by assumption)
          rw [← hj, step_lt (by assumption)] at hres
          dsimp only
          walk_at "go"
          dsimp only
          with_reducible rename Fr _ _ _ _ => F9
          exact hQ _ _ (ms_close B F9 G hos (hP' _ (by rw [hres]; exact ⟨_, rfl⟩)))
        · with_reducible rename Fr _ _ _ _ => F9
          with_reducible rename News _ _ _ _ => N9
          refine LEnd.nextI F9 N9 (led_sub' hb₂) off hbase ⟨g1, g3, some (y, tot), _, _, rfl, rfl, ⟨_, rfl⟩, ⟨_, rfl⟩, st_none hy0 hyl, ?_⟩
          rw [hj]
          refine (msl_some g8 (by assumption)).trans ?_
          rw [step_lt (by assumption)]
        · with_reducible rename Fr _ _ _ _ => F9
          refine LEnd.brkI ?_
          have hres := msl_stop (r := ss'.drop (i + 1)) (st := some q) g8 (by assumption)
          rw [← hj, step_ge (by assumption)] at hres
          dsimp only
          walk_at "go"
          dsimp only
          with_reducible rename Fr _ _ _ _ => F9
          exact hQ _ _ (ms_close B F9 G hos (hP' _ (by rw [hres]; exact ⟨_, rfl⟩)))
        · with_reducible rename Fr _ _ _ _ => F9
          with_reducible rename News _ _ _ _ => N9
          refine LEnd.nextI F9 N9 (led_sub' hb₂) off hbase ⟨g1, g3, some q, _, _, g5, g6, ⟨_, rfl⟩, ⟨_, rfl⟩, hst, ?_⟩
          rw [hj]
          refine (msl_some g8 (by assumption)).trans ?_
          rw [step_ge (by assumption)]
        · exact absurd (by assumption : (q.1.length : Int) = 0) (by omega)
        · exact absurd (by assumption : (y.length : Int) = 0) (by omega)
  · rintro h' tk m' news' F₇ N₇ hb ⟨j1, j2, st, v₁, v₂, j3, j4, hv₁, hv₂, hst, hj⟩
    have hend : ss'.drop vs.toArray.size = [] := List.drop_of_length_le (by rw [List.size_toArray, hS.length]; exact Nat.le_refl _)
    rw [hend] at hj
    have hj : msLoop (toksOf sk) b ss' none = st := hj
    clear F₄ N₄
    dsimp only
    walk_at "go"
    dsimp only
    with_reducible rename Fr _ _ _ _ => F9
    exact hQ _ _ (ms_close B F9 G hos (hP' _ (by rw [hj]; exact hv₁)))
end Mine
end

-- part Cell
section
local macro_rules | `(tactic| walk_at "idle 0") => `(tactic| skip)
local macro_rules | `(tactic| walk_at "idle 1") => `(tactic| skip)
local macro_rules | `(tactic| walk_at "idle 2") => `(tactic| skip)
local macro_rules | `(tactic| walk_at "idle 3") => `(tactic| skip)
local macro_rules | `(tactic| walk_at "idle 4") => `(tactic| skip)
local macro_rules | `(tactic| walk_at "idle 5") => `(tactic| skip)
local macro_rules | `(tactic| walk_at "idle 6") => `(tactic| skip)
local macro_rules | `(tactic| walk_at "idle 7") => `(tactic| skip)
local macro_rules | `(tactic| walk_at "idle 8") => `(tactic| skip)
local macro_rules | `(tactic| walk_at "idle 9") => `(tactic| skip)
theorem Mine.off_Cell : True := by w_top off; trivial
open PySem PySem.W PySem.Spec PySem.Calls PyProof.Rows
set_option maxRecDepth 100000
namespace Mine
theorem fill9 : (PySem.Challenge.rw_ey0011_01 = PySem.Challenge.rw_ey0011_01) ∧ hd.heap_39 = hd.heap_39 := by
  k_fill
  exact ⟨rfl, rfl⟩

def cellv (ns : List Int) (i : Int) : Int := if i < ns.length then (if ns.getD i.toNat 0 < 0 then -(ns.getD i.toNat 0) else ns.getD i.toNat 0) else 7 * i + 3
theorem cellv_nonneg {ns : List Int} {i : Int} (h0 : 0 ≤ i) : 0 ≤ cellv ns i := by
  unfold cellv
  split
  · split <;> omega
  · omega

theorem cell_lt {ns : List Int} {i : Int} {u : Tok} (h : i < ns.length) : ∃ u', Value.int (if ns.getD i.toNat 0 < 0 then -(ns.getD i.toNat 0) else ns.getD i.toNat 0) u = .int (cellv ns i) u' := ⟨u, by unfold cellv; rw [if_pos h]⟩
theorem cell_ge {ns : List Int} {i : Int} {u : Tok} (h : ¬ i < ns.length) : ∃ u', Value.int (7 * i + 3) u = .int (cellv ns i) u' := ⟨u, by unfold cellv; rw [if_neg h]⟩
set_option maxHeartbeats 4000000 in
theorem cell_spec {w : World} {A : Around} {p : Program} {loose : List Str} {mean : ExcName → Option Value} {mg mb : Str → Option Value} {s : Shared} {l : Addr} {vs : List Value} {ns : List Int} {i : Int} {t : Tok}
    (C : Cx w A p loose mean mg mb s.heap) (hd : A.depth + 1 < recursionLimit) (hu : A.units + 8 < cLine) (hl : s.heap.IsList l vs.toArray) (hi : IntsAre vs ns) (hlen : ns.length < 2 ^ 62) (h0 : 0 ≤ i) (h9 : i < 1000) :
    Gives (model prg w) A s (call (.ref 80) [.ref l, .int i t]) (fun _ v => ∃ u, v = .int (cellv ns i) u) := by
  obtain ⟨X, T, hh⟩ := C
  refine Gives.enter X T.nolimit (by k_is) (by k_is) (Nat.lt_of_succ_lt hd) (BindsTo.of_eq rfl) (locs rfl) ?_
  intro L h₁ tk F N
  (try dsimp only); (try k_fold)
  k_steps
  all_goals (
    with_reducible rename Fr _ _ _ _ => F9
    with_reducible rename News _ _ _ _ => N9
    first | exact FnEnd.intro F9 N9 (cell_lt (by omega)) | exact FnEnd.intro F9 N9 (cell_ge (by omega)))
end Mine
end

-- part Pu1
section
open PySem PySem.W PySem.Spec PySem.Calls PyProof.Rows PyProof.Rows.LCg
set_option maxRecDepth 100000
namespace Mine
structure Good (fs : List Fld) : Prop where
  len : fs.length ≤ 7
  nd : (fs.map (·.1)).Nodup
  each : ∀ p ∈ fs, (∃ c ∈ letters, p.1 = ⟨#[c]⟩) ∧ 1 ≤ p.2 ∧ p.2 ≤ 5

theorem fmod_cases {a b : Int} (hb : 0 < b) : ∃ k : Nat, a.fmod b = (k : Int) ∧ (k : Int) < b := ⟨(a.fmod b).toNat, by have := fmod_b a hb; omega, by have := fmod_b a hb; omega⟩
def hourN : Nat → Str
  | 0 => Str.ofString "H" | 1 => Str.ofString "k" | 2 => Str.ofString "K" | _ => Str.ofString "h"
def zoneN : Nat → Str
  | 0 => Str.ofString "z" | _ => Str.ofString "v"
def partN : Nat → Str
  | 0 => Str.ofString "a" | 1 => Str.ofString "b" | _ => Str.ofString "B"
theorem item_hour : ∀ k : Nat, k < 4 → Txt.item (Str.ofString "HkKh") (k : Int) = hourN k := by decide
theorem item_zone : ∀ k : Nat, k < 2 → Txt.item (Str.ofString "zv") (k : Int) = zoneN k := by decide
theorem item_part : ∀ k : Nat, k < 3 → Txt.item (Str.ofString "abB") (k : Int) = partN k := by decide
theorem menu_y : ∀ k : Nat, k < 4 → 0 ≤ menuI [0, 1, 2, 4] (k : Int) ∧ menuI [0, 1, 2, 4] (k : Int) ≤ 5 := by decide
theorem menu_z : ∀ k : Nat, k < 3 → 0 ≤ menuI [0, 1, 4] (k : Int) ∧ menuI [0, 1, 4] (k : Int) ≤ 5 := by decide
theorem names_ok : ∀ a < 4, ∀ b < 2, ∀ c < 3, ([Str.ofString "y", Str.ofString "M", Str.ofString "d", hourN a, Str.ofString "m", zoneN b, partN c] : List Str).Nodup ∧
    ([Str.ofString "y", Str.ofString "M", Str.ofString "d", Str.ofString "m", zoneN b, partN c] : List Str).Nodup := by decide
theorem one_let : (∀ a < 4, ∃ c ∈ letters, hourN a = ⟨#[c]⟩) ∧ (∀ a < 2, ∃ c ∈ letters, zoneN a = ⟨#[c]⟩) ∧ (∀ a < 3, ∃ c ∈ letters, partN a = ⟨#[c]⟩) := by decide
theorem one_let' : (∃ c ∈ letters, Str.ofString "y" = ⟨#[c]⟩) ∧ (∃ c ∈ letters, Str.ofString "M" = ⟨#[c]⟩) ∧ (∃ c ∈ letters, Str.ofString "d" = ⟨#[c]⟩) ∧ (∃ c ∈ letters, Str.ofString "m" = ⟨#[c]⟩) := by decide

theorem good_filter {rows : List Fld} (h1 : rows.length ≤ 7) (h2 : (rows.map (·.1)).Nodup) (h3 : ∀ p ∈ rows, (∃ c ∈ letters, p.1 = ⟨#[c]⟩) ∧ p.2 ≤ 5) : Good (rows.filter fun p => decide (0 < p.2)) := by
  refine ⟨Nat.le_trans (List.length_filter_le _ _) h1, (List.filter_sublist.map _).nodup h2, fun p hp => ?_⟩
  have h := List.mem_filter.mp hp
  have := h3 p h.1
  exact ⟨this.1, by have := h.2; simp at this; omega, this.2⟩

theorem good_fields {n : Int} (h0 : 0 ≤ n) : Good (fieldsOf n) := by
  obtain ⟨a1, e1, b1⟩ := fmod_cases (a := n) (b := 4) (by decide)
  have b2 := fmod_b (n.fdiv 4) (b := 6) (by decide)
  have b3 := fmod_b (n.fdiv 24) (b := 3) (by decide)
  have b4 := fmod_b (n.fdiv 72) (b := 9) (by decide)
  have b5 := fmod_b (n.fdiv 648) (b := 3) (by decide)
  obtain ⟨a6, e6, b6⟩ := fmod_cases (a := n.fdiv 1944) (b := 2) (by decide)
  obtain ⟨a7, e7, b7⟩ := fmod_cases (a := n.fdiv 3888) (b := 3) (by decide)
  obtain ⟨a8, e8, b8⟩ := fmod_cases (a := n.fdiv 11664) (b := 3) (by decide)
  obtain ⟨a9, e9, b9⟩ := fmod_cases (a := (n.fdiv 72).fmod 9 - 1) (b := 4) (by decide)
  have b10 := (fmod_b (n.fdiv 34992) (b := 3) (by decide)).2
  have b11 : ((n.fdiv 72).fmod 9 - 1).fdiv 4 ≤ 1 := by
    generalize (n.fdiv 72).fmod 9 = x at *
    rw [Int.fdiv_eq_ediv_of_nonneg _ (by decide)]
    omega
  have hy := menu_y a1 (by omega)
  have hz := menu_z a7 (by omega)
  have nm := names_ok a9 (by omega) a6 (by omega) a8 (by omega)
  have l1 := one_let.1 a9 (by omega)
  have l2 := one_let.2.1 a6 (by omega)
  have l3 := one_let.2.2 a8 (by omega)
  obtain ⟨k1, k2, k3, k4⟩ := one_let'
  unfold fieldsOf rowsOf
  rw [e1, e6, e7, e8, e9, item_hour a9 (by omega), item_zone a6 (by omega), item_part a8 (by omega)]
  split
  · refine good_filter (by simp) (by simpa using nm.1) ?_
    simp only [List.forall_mem_append, List.forall_mem_cons, List.not_mem_nil, false_implies, implies_true, and_true]
    and_intros <;> first | assumption | omega | exact hy.2 | exact hz.2
  · refine good_filter (by simp) (by simpa using nm.2) ?_
    simp only [List.forall_mem_append, List.forall_mem_cons, List.not_mem_nil, false_implies, implies_true, and_true]
    and_intros <;> first | assumption | omega | exact hy.2 | exact hz.2
theorem good_small {fs : List Fld} (h : Good fs) : Small fs := by
  refine ⟨Nat.le_trans h.len (by decide), fun p hp => ?_⟩
  obtain ⟨⟨c, _, e⟩, h1, h2⟩ := h.each p hp
  refine ⟨by rw [e]; exact Nat.le_of_ble_eq_true rfl, by omega, by omega⟩
end Mine
end

-- part Ca
section
open PySem PySem.W PySem.Spec PySem.Calls PyProof.Rows PyProof.Rows.LCg
set_option maxRecDepth 100000
namespace Mine
section
variable {prog : Program} {w : World} {A : Around} {E : Value → Shared → Prop} {s : Shared}
theorem comp_core (use : Option (Value → Sem Unit)) {env : Env} {elt target iter : Expr} {ifs : List Expr} {scope : Scope} {cl : List (Str × Addr)} {pos cpos : Pos} {Q : Value → Shared → Prop}
    (hclos : closureFor scope env = pure cl) (hcell : ∀ y ∈ scope.names, y.2 ≠ .cell) (hkind : scope.kind = .function)
    (hnames : ∀ y ∈ scope.names, y.2 = .local → scope.names.lookup y.1 = some .local)
    (h : wpAny (model prog w) A (eval iter env) (fun xv s₁ => ∃ n P G J, n ≤ sizeLine ∧ Src prog w A xv s₁ n P G ∧ J 0 [] [] ∧
        (∀ C I D i v ys tl h tk m₁ oI, i < n → P i v → J i ys tl → Fr s₁.heap C h m₁ → News s₁.heap C h ((I, oI) :: (D, lst ys) :: tl) → I ≠ D → (∀ p ∈ tl, p.1 ≠ I ∧ p.1 ≠ D) → G I h →
          CTurn prog w A target elt ifs (compEnvC scope cl C env) I v (TEnd s₁ s₁.heap C I D oI ys J i) { s₁ with heap := h, toks := tk }) ∧
        (∀ h' tk D C m' ys tl, s₁.heap.get? C = none → Fr s₁.heap C h' m' → News s₁.heap C h' ((D, lst ys) :: tl) → J n ys tl → compPost (model prog w) A E use Q (.ref D) C (.ok .next) { s₁ with heap := h', toks := tk })) E s)
    (hs : ∀ x, foldedSetIterable iter env x = pure x := by intro _; rfl) :
    wpAny (model prog w) A (comprehension (.ListComp elt [⟨target, iter, ifs, 0⟩] scope pos) scope env cpos (newList []) false (eval iter env) use) Q E s := by
  refine wpAny_comprehension_free (use := use) rfl hs hclos hkind hnames (wpAny_mono h (fun xv s₁ h₁ => ?_) fun _ _ e => e)
  obtain ⟨n, P, G, J, hsz, src, hJ0, turn, done⟩ := h₁
  refine src _ _ fun fp St oI W hst hoI hfp hG hIo => ?_
  generalize hI : s₁.heap.objs.size = I at *
  refine wpAny_newObj_type (wpAny_newFunctionEnv hcell (by intro y hy; simp at hy) (fun h₁ hns₁ hsb₁ => ?_) hkind)
  dsimp only at hns₁ hsb₁ ⊢
  generalize hH2 : (s₁.heap.push oI).push { cls := .type "list", dict := none, data := .seq ([] : List Value).toArray } = H2 at hns₁ hsb₁ ⊢
  have hD : (s₁.heap.push oI).objs.size = I + 1 := by rw [Heap.size_push, hI]
  have hC : H2.objs.size = I + 2 := by rw [← hH2, Heap.size_push, hD]
  rw [hD]
  rw [hC] at hns₁ hsb₁ ⊢
  have up : ∀ (b : Nat) o, s₁.heap.get? b = some o → b < I := fun b o e => hI ▸ Heap.lt_size e
  have old : ∀ b o, s₁.heap.get? b = some o → h₁.get? b = some o := fun b o e =>
    hsb₁.extBut b o (neN (by have := up b o e; omega)) (Heap.get?_push_of_some _ (hH2 ▸ Heap.get?_push_of_some _ (Heap.get?_push_of_some _ e)))
  have hIat : (s₁.heap.push oI).get? I = some oI := by rw [← hI]; exact Heap.get?_push_size _ hoI
  have hI₁ : h₁.get? I = some oI := hsb₁.extBut _ _ (neN (by omega)) (Heap.get?_push_of_some _ (hH2 ▸ Heap.get?_push_of_some _ hIat))
  have hD₁ : h₁.get? (I + 1) = some (lst []) := hsb₁.extBut _ _ (neN (by omega)) (Heap.get?_push_of_some _ (hH2 ▸ (by rw [← hD]; exact Heap.get?_push_size _ rfl)))
  have fresh : ∀ (a : Nat), I ≤ a → s₁.heap.get? a = none := fun a ha => by
    cases e : s₁.heap.get? a with
    | none => rfl
    | some o' => exact absurd (up _ _ e) (by omega)
  have stf : ∀ i h h', St i h → (∀ o, h.get? I = some o → h'.get? I = some o) → (∀ b o, s₁.heap.get? b = some o → h.get? b = some o) → (∀ b o, s₁.heap.get? b = some o → h'.get? b = some o) → St i h' := fun i h h' st e k k' =>
    W.frame i h h' st fun b hb o eo => by
      rcases hfp b hb with rfl | ⟨o', e'⟩
      · exact e o eo
      · rw [k _ _ e'] at eo; cases eo; exact k' _ _ e'
  have hst₁ : St 0 h₁ := stf _ _ _ hst (fun o e => by rw [hIat] at e; cases e; exact hI₁) (fun b o e => Heap.get?_push_of_some _ e) old
  have F₁ : Fr s₁.heap (I + 2) h₁ (fun x => (([] : List (Str × Value)).reverse.lookup x)) := ⟨hns₁, old, by omega⟩
  have loop : ∀ s₃ : Shared, s₃ = { s₁ with heap := h₁, toks := s₁.toks + ([] : List (Str × Value)).length } →
      codeAny (model prog w) A (.compLoop (.ListComp elt [⟨target, iter, ifs, 0⟩] scope pos) 0 (.ref I) (.ref (I + 1)) (compEnvC scope cl (I + 2) env)) (compPost (model prog w) A E use Q (.ref (I + 1)) (I + 2)) s₃ := by
    rintro s₃ rfl
    refine compLoop_any
      (fun k s' => ∃ h' tk i ys m' tl oI', s' = { s₁ with heap := h', toks := tk } ∧ i ≤ n ∧ k = n + 1 - i ∧ ys.length ≤ i ∧ St i h' ∧ Fr s₁.heap (I + 2) h' m' ∧ News s₁.heap (I + 2) h' ((I, oI') :: (I + 1, lst ys) :: tl) ∧ (∀ p ∈ tl, p.1 ≠ I ∧ p.1 ≠ I + 1) ∧ J i ys tl) ?_ (n + 1)
      ⟨h₁, _, 0, [], _, [], oI, rfl, Nat.zero_le _, rfl, Nat.le_refl _, hst₁, F₁, ?_, (fun p hp => nomatch hp), hJ0⟩
    · rintro k s' ⟨h', tk, i, ys, m', tl, oI', rfl, hi, rfl, hyl, hst', F', N', off', hJ⟩
      have zD' := N' (I + 1, lst ys) (.tail _ (.head _))
      have moved : ∀ h₂, (∀ b o, b ∉ [I] → h'.get? b = some o → h₂.get? b = some o) → Fr s₁.heap (I + 2) h₂ m' ∧ h₂.get? (I + 1) = some (lst ys) ∧ ∀ p ∈ tl, h₂.get? p.1 = some p.2 := fun h₂ hk => by
        refine ⟨⟨F'.ns.at' fun o e => hk _ o (by rw [List.mem_singleton]; exact neN (show I + 2 ≠ I by omega)) e, fun b o e => hk b o (by have := up _ _ e; rw [List.mem_singleton]; exact neN (by omega)) (F'.keep b o e), F'.above⟩, hk _ _ (by rw [List.mem_singleton]; exact neN (show I + 1 ≠ I by omega)) zD'.1, fun p hp => hk _ _ (by simpa using (off' p hp).1) (N' p (.tail _ (.tail _ hp))).1⟩
      by_cases hlt : i < n
      · refine W.item i _ _ _ hlt hst' fun v h₂ tk₂ hPv hst₂ hk₂ => ?_
        obtain ⟨F₂, hD₂, htl₂⟩ := moved h₂ hk₂
        obtain ⟨oI₂, hI₂⟩ := hIo _ _ hst₂
        have N₂ : News s₁.heap (I + 2) h₂ ((I, oI₂) :: (I + 1, lst ys) :: tl) := fun p hp => by
          rcases List.mem_cons.mp hp with rfl | hp
          · exact ⟨hI₂, neN (show I ≠ I + 2 by omega), fresh _ (Nat.le_refl _)⟩
          rcases List.mem_cons.mp hp with rfl | hp
          · exact ⟨hD₂, zD'.2⟩
          · exact ⟨htl₂ p hp, (N' p (.tail _ (.tail _ hp))).2⟩
        have fin : ∀ yo s₄, TEnd s₁ s₁.heap (I + 2) I (I + 1) oI₂ ys J i yo s₄ → match yo with
            | some y => wpAny (model prog w) A (call (.builtin "list.append") [.ref (I + 1), y]) (fun _ s₅ => ∃ m, m < n + 1 - i ∧ ∃ h' tk i ys m' tl oI', s₅ = { s₁ with heap := h', toks := tk } ∧ i ≤ n ∧ m = n + 1 - i ∧ ys.length ≤ i ∧ St i h' ∧ Fr s₁.heap (I + 2) h' m' ∧ News s₁.heap (I + 2) h' ((I, oI') :: (I + 1, lst ys) :: tl) ∧ (∀ p ∈ tl, p.1 ≠ I ∧ p.1 ≠ I + 1) ∧ J i ys tl) (fun _ _ => False) s₄
            | none => ∃ m, m < n + 1 - i ∧ ∃ h' tk i ys m' tl oI', s₄ = { s₁ with heap := h', toks := tk } ∧ i ≤ n ∧ m = n + 1 - i ∧ ys.length ≤ i ∧ St i h' ∧ Fr s₁.heap (I + 2) h' m' ∧ News s₁.heap (I + 2) h' ((I, oI') :: (I + 1, lst ys) :: tl) ∧ (∀ p ∈ tl, p.1 ≠ I ∧ p.1 ≠ I + 1) ∧ J i ys tl := by
          rintro yo s₄ ⟨h₄, tk₄, m₄, tl₄, rfl, F₄, N₄, off₄, hJ₄⟩
          have zI := N₄ (I, oI₂) (.head _)
          have zD := N₄ (I + 1, lst ys) (.tail _ (.head _))
          have hst₄ : St (i + 1) h₄ := stf _ _ _ hst₂ (fun o e => by rw [hI₂] at e; cases e; exact zI.1) F₂.keep F₄.keep
          cases yo with
          | none => exact ⟨n + 1 - (i + 1), by omega, h₄, tk₄, i + 1, ys, m₄, tl₄, oI₂, rfl, hlt, rfl, Nat.le_succ_of_le hyl, hst₄, F₄, N₄, off₄, by simpa using hJ₄⟩
          | some y =>
            refine append_at (hsz := by show ys.toArray.size ≤ sizeLine; rw [List.size_toArray]; exact Nat.le_trans hyl (Nat.le_trans hi hsz)) zD.1 fun h₅ hs₅ hD₅ => ?_
            have F₅ : Fr s₁.heap (I + 2) h₅ m₄ := F₄.change hs₅ zD.2.1 zD.2.2
            refine ⟨n + 1 - (i + 1), by omega, h₅, tk₄, i + 1, ys ++ [y], m₄, tl₄, oI₂, rfl, hlt, rfl, by rw [List.length_append, List.length_singleton]; exact Nat.succ_le_succ hyl,
              stf _ _ _ hst₄ (fun o e => hs₅.extBut _ _ (neN (show I ≠ I + 1 by omega)) e) F₄.keep F₅.keep, F₅, fun p hp => ?_, off₄, by simpa using hJ₄⟩
            rcases List.mem_cons.mp hp with rfl | hp
            · exact ⟨hs₅.extBut _ _ (neN (show I ≠ I + 1 by omega)) zI.1, zI.2⟩
            rcases List.mem_cons.mp hp with rfl | hp
            · exact ⟨hD₅.trans (congrArg some (lst_snoc ys y)), zD.2⟩
            · exact ⟨hs₅.extBut _ _ (off₄ p hp).2 (N₄ p (.tail _ (.tail _ hp))).1, (N₄ p (.tail _ (.tail _ hp))).2⟩
        refine wpAny_mono (turn (I + 2) I (I + 1) i v ys tl h₂ tk₂ m' oI₂ hlt hPv hJ F₂ N₂ (neN (show I ≠ I + 1 by omega)) off' (hG _ _ hst₂)) (fun _ s₀ h₀ => ?_) fun _ _ e => e
        refine wpAny_mono h₀ (fun _ s₂' h₂' => ?_) fun _ _ e => e
        refine wpAny_mono h₂' (fun ok s₃ h₃ => ?_) fun _ _ e => e
        cases ok with
        | false => simp only [Bool.false_eq_true, if_false] at h₃ ⊢; exact fin none s₃ h₃
        | true => simp only [if_true] at h₃ ⊢; exact wpAny_mono h₃ (fun y s₄ h₄ => fin (some y) s₄ h₄) fun _ _ e => e
      · obtain rfl : i = n := Nat.le_antisymm hi (Nat.not_lt.mp hlt)
        refine W.done _ _ _ hst' fun h₂ tk₂ hk₂ => ?_
        obtain ⟨F₂, hD₂, htl₂⟩ := moved h₂ hk₂
        refine done h₂ tk₂ (I + 1) (I + 2) m' ys tl (fresh _ (by omega)) F₂ (fun p hp => ?_) hJ
        rcases List.mem_cons.mp hp with rfl | hp
        · exact ⟨hD₂, zD'.2⟩
        · exact ⟨htl₂ p hp, (N' p (.tail _ (.tail _ hp))).2⟩
    · intro p hp
      rcases List.mem_cons.mp hp with rfl | hp
      · exact ⟨hI₁, neN (show I ≠ I + 2 by omega), fresh _ (Nat.le_refl _)⟩
      rcases List.mem_cons.mp hp with rfl | hp
      · exact ⟨hD₁, neN (show I + 1 ≠ I + 2 by omega), fresh _ (Nat.le_succ _)⟩
      · cases hp
  exact codeAny_compStart_list (loop _ rfl) (W.self 0 _ _ _ hst₁ (loop _ rfl))

theorem comp_assign {env : Env} {elt target iter : Expr} {ifs : List Expr} {scope : Scope} {cl : List (Str × Addr)} {pos py spos : Pos} {y : Str} {Q : Flow → Shared → Prop} {h₀ : Heap}
    (hsw : swapsWith (.ListComp elt [⟨target, iter, ifs, 0⟩] scope pos) (some (.Name y py)) spos.line env = pure true)
    (hclos : closureFor scope env = pure cl) (hcell : ∀ y ∈ scope.names, y.2 ≠ .cell) (hkind : scope.kind = .function)
    (hnames : ∀ y ∈ scope.names, y.2 = .local → scope.names.lookup y.1 = some .local)
    (hy : env.kindOf y = some .local) (hp : (env.scope.kind == .class || (env.scope.kind == .module && env.locals != env.globals)) = false)
    (h : wpAny (model prog w) A (eval iter env) (fun xv s₁ => ∃ n P G J m K, n ≤ sizeLine ∧ Src prog w A xv s₁ n P G ∧ Fr h₀ env.locals s₁.heap m ∧ News h₀ env.locals s₁.heap K ∧ J 0 [] [] ∧
        (∀ C I D i v ys tl h tk m₁ oI, i < n → P i v → J i ys tl → Fr s₁.heap C h m₁ → News s₁.heap C h ((I, oI) :: (D, lst ys) :: tl) → I ≠ D → (∀ p ∈ tl, p.1 ≠ I ∧ p.1 ≠ D) → G I h →
          CTurn prog w A target elt ifs (compEnvC scope cl C env) I v (TEnd s₁ s₁.heap C I D oI ys J i) { s₁ with heap := h, toks := tk }) ∧
        (∀ h' tk D ys tl, Fr h₀ env.locals h' (fun z => if z = y then some (.ref D) else m z) → News h₀ env.locals h' ((D, lst ys) :: tl ++ K) → J n ys tl → Q .next { s₁ with heap := h', toks := tk })) E s)
    (hs : ∀ x, foldedSetIterable iter env x = pure x := by intro _; rfl) :
    wpAny (model prog w) A (exec (.Assign [.Name y py] (.ListComp elt [⟨target, iter, ifs, 0⟩] scope pos) spos) env) Q E s := by
  rw [exec_Assign_Name_used _ _ _ _ hsw]
  refine wpAny_bind (wpAny_standAt (wpAny_bind ?_))
  show wpAny _ A (do let _ ← comprehension (.ListComp elt [⟨target, iter, ifs, 0⟩] scope pos) scope env _ (newList []) false (eval iter env) (some (assign (.Name y py) env))) _ _ s
  refine wpAny_bind (wpAny_mono (comp_core (some (assign (.Name y py) env)) (Q := fun _ s' => Q .next s') hclos hcell hkind hnames (wpAny_mono h (fun xv s₁ h₁ => ?_) fun _ _ e => e) hs) (fun _ s' hq => wpAny_pure (wpAny_pure hq)) fun _ _ e => e)
  obtain ⟨n, P, G, J, m, K, hsz, src, F, N, hJ0, turn, done⟩ := h₁
  refine ⟨n, P, G, J, hsz, src, hJ0, turn, ?_⟩
  intro h' tk D C m' ys tl hC FC NC hJ
  have hLC : env.locals ≠ C := by rintro rfl; obtain ⟨o, _, _, ho, _⟩ := F.ns; rw [hC] at ho; cases ho
  have M : Made s₁.heap h' ((D, lst ys) :: tl) := ⟨FC.keep, fun p hp => ⟨(NC p hp).1, (NC p hp).2.2⟩⟩
  have F₂ := M.fr F
  have N₂ := M.news F N
  show wpAny _ A (assign (.Name y py) env (.ref D)) _ _ _
  refine wpAny_assign_Name (wpAny_storeName_local hy F₂.ns (fun h₃ hn₃ hs₃ => ?_) hp)
  have F₃ := F₂.set hn₃ hs₃
  have N₃ := N₂.set hs₃
  refine ⟨m', FC.ns.sameBut hs₃ (Ne.symm hLC), fun h₄ hs₄ => done h₄ _ D ys tl (F₃.change hs₄ (Ne.symm hLC) ?_) (fun p hp => ?_) hJ⟩
  · cases q : h₀.get? C with
    | none => rfl
    | some o => rw [F.keep _ _ q] at hC; cases hC
  · have hne : p.1 ≠ C := by
      rcases List.mem_append.mp hp with hp | hp
      · exact (NC p hp).2.1
      · intro q; have := (N p hp).1; rw [q, hC] at this; cases this
    exact ⟨(hs₄.2 _ hne).trans (N₃ p hp).1, (N₃ p hp).2⟩
end
end Mine
end

-- part Ft
section
open PySem PySem.W PySem.Spec PySem.Calls PyProof.Rows PyProof.Rows.LCg
set_option maxRecDepth 100000
namespace Mine
theorem FTurn.pair {prog : Program} {w : World} {A : Around} {s : Shared} {H : Heap} {env : Env} {m : Str → Option Value} {news : Led} {x x₂ : Str} {I : Addr} {px px₂ tp : Pos} {tk t : Addr} {body : List Stmt} {v₁ v₂ : Value} {End : Flow → Shared → Prop}
    (hh : A.handled = none) (hx : env.kindOf x = some .local) (hx₂ : env.kindOf x₂ = some .local) (hp : (env.scope.kind == .class || (env.scope.kind == .module && env.locals != env.globals)) = false)
    (F : Fr H env.locals s.heap m) (N : News H env.locals s.heap news) (hG : ∃ l j, s.heap.IsListIter I l j) (ht : IsTup s.heap t #[v₁, v₂])
    (k : ∀ h' tk, Fr H env.locals h' (fun y => if y = x₂ then some v₂ else if y = x then some v₁ else m y) → News H env.locals h' news → wpAny (model prog w) A (execs body env) End (fun _ _ => False) { s with heap := h', toks := tk }) :
    FTurn prog w A (.Tuple [.Name x px, .Name x₂ px₂] tk tp) body env I (.ref t) End s := by
  obtain ⟨l, j, hit⟩ := hG
  refine wpAny_letOwnedTupleGo_listiter hit ?_
  exact pair_assign hh rfl hx hx₂ hp F N ht fun h' tk F' N' => k h' tk F' N'

theorem textOf_len {fs : List Fld} (h : Good fs) : (textOf fs).length ≤ 1792 := by
  have h1 := small_sum (good_small h).2
  have h2 := h.len
  have h3 := StrLaws.join_length_le (Str.ofString "") (fs.map mulF)
  have e : (Str.ofString "").length = 0 := by decide
  rw [e] at h3
  have : textOf fs = Str.join (Str.ofString "") (fs.map mulF) := StrLaws.glued_eq_join _ _
  rw [this]
  omega
theorem texts_sum : ∀ {OL : List (List Fld)}, (∀ fs ∈ OL, Good fs) → ((OL.map textOf).map (·.length)).sum ≤ OL.length * 1792
  | [], _ => by simp
  | fs :: r, h => by
    have a := textOf_len (h fs (.head _))
    have b := texts_sum (OL := r) fun q hq => h q (.tail _ hq)
    simp only [List.map_cons, List.sum_cons, List.length_cons] at *
    omega
/-- what the law reads one field of the skeleton as -/
def readStep (L : Str) (p : Fld) : Option Fld :=
  let into := if (!isIn p.1 L && isIn p.1 (Str.ofString "zkKab")) = true then (if p.1 = Str.ofString "z" then Str.ofString "v" else if p.1 = Str.ofString "k" then Str.ofString "H" else if p.1 = Str.ofString "K" then Str.ofString "h" else Str.ofString "") else p.1
  if into = Str.ofString "" then none else some (into, p.2)
def readF (L : Str) (fs : List Fld) : List Fld := fs.filterMap (readStep L)
theorem readF_take {L : Str} {fs : List Fld} {i : Nat} {p : Fld} (h : fs[i]? = some p) : readF L (fs.take (i + 1)) = readF L (fs.take i) ++ (readStep L p).toList := by
  unfold readF
  rw [take_succ_of h, List.filterMap_append]
  cases e : readStep L p <;> simp [e]
theorem one_ne {k : Nat} : ¬ ((⟨#[k]⟩ : Str) = Str.ofString "") := fun e => by
  have := congrArg Str.length e
  exact absurd this (by show ¬ (1 = (Str.ofString "").length); decide)
theorem step_in {L : Str} {k : Nat} {x : Int} (h : (Builtin.Str.occurrences L ⟨#[k]⟩ 0 L.length 1).isEmpty = false) : readStep L (⟨#[k]⟩, x) = some (⟨#[k]⟩, x) := by
  have e : isIn ⟨#[k]⟩ L = true := by unfold isIn; rw [h]; rfl
  simp only [readStep, e, Bool.not_true, Bool.false_and, Bool.false_eq_true, if_false]
  rw [if_neg one_ne]
theorem step_not {L : Str} {k : Nat} {x : Int} (h : (Builtin.Str.occurrences (Str.ofString "zkKab") ⟨#[k]⟩ 0 (Str.ofString "zkKab").length 1).isEmpty = true) : readStep L (⟨#[k]⟩, x) = some (⟨#[k]⟩, x) := by
  have e : isIn ⟨#[k]⟩ (Str.ofString "zkKab") = false := by unfold isIn; rw [h]; rfl
  simp only [readStep, e, Bool.and_false, Bool.false_eq_true, if_false]
  rw [if_neg one_ne]
theorem step_sub {L c v : Str} {x : Int} (h : (Builtin.Str.occurrences L c 0 L.length 1).isEmpty = true) (hc : isIn c (Str.ofString "zkKab") = true)
    (hv : (if c = Str.ofString "z" then Str.ofString "v" else if c = Str.ofString "k" then Str.ofString "H" else if c = Str.ofString "K" then Str.ofString "h" else Str.ofString "") = v) : readStep L (c, x) = if v = Str.ofString "" then none else some (v, x) := by
  have e : isIn c L = false := by unfold isIn; rw [h]; rfl
  simp only [readStep, e, hc, Bool.not_false, Bool.and_self, if_true, hv]
theorem five {k : Nat} (h : (Builtin.Str.occurrences (Str.ofString "zkKab") ⟨#[k]⟩ 0 (Str.ofString "zkKab").length 1).isEmpty = false) : k = 122 ∨ k = 107 ∨ k = 75 ∨ k = 97 ∨ k = 98 := by
  have e : isIn ⟨#[k]⟩ (Str.ofString "zkKab") = true := by unfold isIn; rw [h]; rfl
  have := isIn_one.mp e
  have e2 : (Str.ofString "zkKab").cps.toList = [122, 107, 75, 97, 98] := by decide
  rw [e2] at this
  simpa using this
theorem led_perm3 {h₀ h : Heap} {L : Addr} {x1 x2 x3 : Addr × Obj} {r : Led} (N : News h₀ L h (x1 :: x2 :: x3 :: r)) : News h₀ L h (x2 :: x3 :: x1 :: r) := fun p hp => N p (by
  simp only [List.mem_cons] at hp ⊢
  rcases hp with hp | hp | hp | hp <;> simp only [hp, true_or, or_true])
theorem led_perm4 {h₀ h : Heap} {L : Addr} {x1 x2 x3 x4 : Addr × Obj} {r : Led} (N : News h₀ L h (x1 :: x2 :: x3 :: x4 :: r)) : News h₀ L h (x3 :: x4 :: x1 :: x2 :: r) := fun p hp => N p (by
  simp only [List.mem_cons] at hp ⊢
  rcases hp with hp | hp | hp | hp | hp <;> simp only [hp, true_or, or_true])
theorem pr_up {L : Str} {onef : List Fld} {i : Nat} {its : Array Value} {rest : Led} {q : Addr × Obj} (hP : Paired (IsPair (inL rest)) its.toList (readF L (onef.take i))) : Paired (IsPair (inL (q :: rest))) its.toList (readF L (onef.take i)) :=
  paired_mono (fun _ _ => IsPair.mono (inL_mono fun _ q => .tail _ q)) hP
theorem step_z {L : Str} {x : Int} (h : (Builtin.Str.occurrences L ⟨#[122]⟩ 0 L.length 1).isEmpty = true) : readStep L (⟨#[122]⟩, x) = some (Str.ofString "v", x) := (step_sub h (isIn_one.mpr (by decide)) (by decide)).trans (if_neg (by decide))
theorem step_k {L : Str} {x : Int} (h : (Builtin.Str.occurrences L ⟨#[107]⟩ 0 L.length 1).isEmpty = true) : readStep L (⟨#[107]⟩, x) = some (Str.ofString "H", x) := (step_sub h (isIn_one.mpr (by decide)) (by decide)).trans (if_neg (by decide))
theorem step_K {L : Str} {x : Int} (h : (Builtin.Str.occurrences L ⟨#[75]⟩ 0 L.length 1).isEmpty = true) : readStep L (⟨#[75]⟩, x) = some (Str.ofString "h", x) := (step_sub h (isIn_one.mpr (by decide)) (by decide)).trans (if_neg (by decide))
theorem step_a {L : Str} {x : Int} (h : (Builtin.Str.occurrences L ⟨#[97]⟩ 0 L.length 1).isEmpty = true) : readStep L (⟨#[97]⟩, x) = none := (step_sub (v := Str.ofString "") h (isIn_one.mpr (by decide)) (by decide)).trans (if_pos rfl)
theorem step_b {L : Str} {x : Int} (h : (Builtin.Str.occurrences L ⟨#[98]⟩ 0 L.length 1).isEmpty = true) : readStep L (⟨#[98]⟩, x) = none := (step_sub (v := Str.ofString "") h (isIn_one.mpr (by decide)) (by decide)).trans (if_pos rfl)
theorem pr_push {L : Str} {onef : List Fld} {i : Nat} {c : Str} {x : Int} {q : Fld} {its : Array Value} {rest : Led} {D : Addr} {n : Nat} {u u' : Tok} (hr : onef[i]? = some (c, x)) (hs : readStep L (c, x) = some q) (hP : Paired (IsPair (inL rest)) its.toList (readF L (onef.take i))) :
    Paired (IsPair (inL ((D, tupO #[.str q.1 u, .int q.2 u'] n) :: rest))) (its.push (.ref D)).toList (readF L (onef.take (i + 1))) := by
  rw [readF_take hr, hs, Array.toList_push]
  exact (paired_mono (fun _ _ => IsPair.mono (inL_mono fun _ q => .tail _ q)) hP).snoc ⟨D, n, u, u', rfl, .head _⟩
theorem pr_none {L : Str} {onef : List Fld} {i : Nat} {c : Str} {x : Int} {its : Array Value} {rest : Led} (hr : onef[i]? = some (c, x)) (hs : readStep L (c, x) = none) (hP : Paired (IsPair (inL rest)) its.toList (readF L (onef.take i))) :
    Paired (IsPair (inL rest)) its.toList (readF L (onef.take (i + 1))) := by
  rw [readF_take hr, hs]
  simpa using hP
end Mine
end

-- part Pv
section
open PySem PySem.W PySem.Spec PySem.Calls PyProof.Rows PyProof.Rows.LCg
set_option maxRecDepth 100000
namespace Mine
theorem str_ext {x y : Str} (h : x.cps.toList = y.cps.toList) : x = y := by
  obtain ⟨⟨x⟩⟩ := x
  obtain ⟨⟨y⟩⟩ := y
  obtain rfl : x = y := h
  rfl
theorem join_cps : ∀ l : List Str, (Str.join (Str.ofString "") l).cps.toList = (l.map fun x => x.cps.toList).flatten
  | [] => rfl
  | [x] => by show x.cps.toList = _; simp
  | x :: y :: r => by
    show (x ++ Str.ofString "" ++ Str.join (Str.ofString "") (y :: r)).cps.toList = _
    simp only [Str.cps_append, Array.toList_append]
    rw [join_cps (y :: r)]
    have e : (Str.ofString "").cps.toList = [] := by decide
    rw [e]
    simp
theorem tjoin_cps (l : List Str) : (Txt.join (Str.ofString "") l).cps.toList = (l.map fun x => x.cps.toList).flatten := by
  have e : Txt.join (Str.ofString "") l = Str.join (Str.ofString "") l := StrLaws.glued_eq_join _ _
  rw [e, join_cps]
theorem foldl_app (c : Nat) : ∀ (n : Nat) (a : Array Nat), ((List.replicate n #[c]).foldl (· ++ ·) a).toList = a.toList ++ List.replicate n c
  | 0, a => by simp
  | n + 1, a => by
    rw [List.replicate_succ, List.foldl_cons, foldl_app c n, Array.toList_append, List.replicate_succ]
    simp
theorem mul_cps (c : Nat) (x : Int) : (Txt.mul ⟨#[c]⟩ x).cps.toList = List.replicate x.toNat c := by
  unfold Txt.mul
  by_cases h1 : x < 1
  · rw [if_pos h1]
    have : x.toNat = 0 := by omega
    rw [this]; rfl
  · rw [if_neg h1]
    by_cases h2 : x = 1
    · subst h2; rfl
    · rw [if_neg]
      · show ((List.replicate x.toNat #[c]).foldl (· ++ ·) #[]).toList = _
        rw [foldl_app]; rfl
      · have : (⟨#[c]⟩ : Str).length = 1 := rfl
        rw [this]; simp [h2]
/-- the number of the sign -/
def sgn (x : Str) : Nat := x.cps.toList.headD 0
/-- the signs that one field writes -/
def fcps (p : Fld) : List Nat := List.replicate p.2.toNat (sgn p.1)
theorem good_sgn {fs : List Fld} (h : Good fs) : ∀ p ∈ fs, p.1 = ⟨#[sgn p.1]⟩ ∧ sgn p.1 ∈ letters ∧ 1 ≤ p.2 := fun p hp => by
  obtain ⟨⟨c, hc, e⟩, h1, _⟩ := h.each p hp
  have : sgn p.1 = c := by rw [e]; rfl
  rw [this]
  exact ⟨e, hc, h1⟩
theorem textOf_cps {fs : List Fld} (h : ∀ p ∈ fs, p.1 = ⟨#[sgn p.1]⟩) : (textOf fs).cps.toList = fs.flatMap fcps := by
  unfold textOf
  rw [tjoin_cps, List.map_map, List.flatMap_def]
  congr 1
  refine List.map_congr_left fun p hp => ?_
  show (Txt.mul p.1 p.2).cps.toList = fcps p
  have e := h p hp
  unfold fcps
  generalize sgn p.1 = c at *
  rw [e, mul_cps]
theorem text_chars {fs : List Fld} (h : Good fs) : ∀ c ∈ (textOf fs).cps.toList, c ∈ letters := fun c hc => by
  rw [textOf_cps fun p hp => (good_sgn h p hp).1] at hc
  obtain ⟨p, hp, hc⟩ := List.mem_flatMap.mp hc
  rw [(List.mem_replicate.mp hc).2]
  exact (good_sgn h p hp).2.1

-- the tokens of a text
theorem signs_cps (x : Str) : signs x = x.cps.toList.map fun c => ⟨#[c]⟩ := rfl
theorem fold_same {done : List Fld} {c : Str} : ∀ (n : Nat) (k : Int), (List.replicate n c).foldl tstep (done, c, k) = (done, c, k + n)
  | 0, k => by simp
  | n + 1, k => by
    rw [List.replicate_succ, List.foldl_cons, tstep_eq (by simp), fold_same n]
    congr 2
    omega
theorem fold_field {st : TSt} {c : Str} {n : Nat} (h : c ≠ st.2.1) (hn : 1 ≤ n) : (List.replicate n c).foldl tstep st = (tpush st, c, (n : Int)) := by
  obtain ⟨k, rfl⟩ : ∃ k, n = k + 1 := ⟨n - 1, by omega⟩
  rw [List.replicate_succ, List.foldl_cons]
  have : tstep st c = (tpush st, c, 1) := by
    unfold tstep; rw [if_neg (by simpa using h)]
  rw [this, fold_same]
  congr 2
  omega
theorem fold_fields : ∀ (fs : List Fld) (st : TSt), (∀ p ∈ fs, p.1 = ⟨#[sgn p.1]⟩ ∧ 1 ≤ p.2) → (st.2.1 :: fs.map (·.1)).Nodup →
    tpush (((fs.flatMap fcps).map fun c => (⟨#[c]⟩ : Str)).foldl tstep st) = tpush st ++ fs
  | [], st, _, _ => by simp
  | (x, n) :: r, st, h, nd => by
    obtain ⟨hx, hn⟩ := h (x, n) (.head _)
    simp only at hx hn
    have nd' := List.nodup_cons.mp nd
    have hne : x ≠ st.2.1 := fun e => nd'.1 (by rw [← e]; exact .head _)
    rw [List.flatMap_cons, List.map_append, List.foldl_append]
    have e : (fcps (x, n)).map (fun c => (⟨#[c]⟩ : Str)) = List.replicate n.toNat x := by
      unfold fcps
      rw [List.map_replicate, ← hx]
    rw [e, fold_field hne (by omega)]
    rw [fold_fields r _ (fun p hp => h p (.tail _ hp)) (by simpa using nd'.2)]
    have e2 : tpush (tpush st, x, (n.toNat : Int)) = tpush st ++ [(x, n)] := by
      unfold tpush
      rw [if_neg (show ¬ x.length = 0 by rw [hx]; exact Nat.one_ne_zero)]
      have : (n.toNat : Int) = n := by omega
      rw [this]
    rw [e2, List.append_assoc]; rfl
theorem toks_text {fs : List Fld} (h : Good fs) : toksOf (textOf fs) = fs := by
  unfold toksOf
  rw [signs_cps, textOf_cps fun p hp => (good_sgn h p hp).1]
  rw [fold_fields fs _ (fun p hp => ⟨(good_sgn h p hp).1, (good_sgn h p hp).2.2⟩)]
  · rfl
  · refine List.nodup_cons.mpr ⟨fun q => ?_, h.nd⟩
    obtain ⟨p, hp, e⟩ := List.mem_map.mp q
    have := (good_sgn h p hp).1
    rw [e] at this
    exact one_ne this.symm
end Mine
end

-- part Pv2
section
open PySem PySem.W PySem.Spec PySem.Calls PyProof.Rows PyProof.Rows.LCg
set_option maxRecDepth 100000
namespace Mine
def clsN : Nat → Nat
  | 121 => 0 | 77 => 1 | 100 => 2 | 72 => 3 | 107 => 3 | 75 => 3 | 104 => 3 | 109 => 4 | 122 => 5 | 118 => 5 | _ => 6
def cls (x : Str) : Nat := clsN (sgn x)
def Before (p q : Fld) : Prop := cls p.1 < cls q.1
theorem names_cls : ∀ a < 4, ∀ b < 2, ∀ c < 3, ([Str.ofString "y", Str.ofString "M", Str.ofString "d", hourN a, Str.ofString "m", zoneN b, partN c] : List Str).Pairwise (fun x y => cls x < cls y) ∧
    ([Str.ofString "y", Str.ofString "M", Str.ofString "d", Str.ofString "m", zoneN b, partN c] : List Str).Pairwise (fun x y => cls x < cls y) := by decide
theorem rows_ord {n : Int} : (rowsOf n).Pairwise Before := by
  obtain ⟨a6, e6, b6⟩ := fmod_cases (a := n.fdiv 1944) (b := 2) (by decide)
  obtain ⟨a8, e8, b8⟩ := fmod_cases (a := n.fdiv 11664) (b := 3) (by decide)
  obtain ⟨a9, e9, b9⟩ := fmod_cases (a := (n.fdiv 72).fmod 9 - 1) (b := 4) (by decide)
  have nm := names_cls a9 (by omega) a6 (by omega) a8 (by omega)
  unfold rowsOf
  rw [e6, e8, e9, item_hour a9 (by omega), item_zone a6 (by omega), item_part a8 (by omega)]
  split
  · exact (List.pairwise_map (f := fun p : Fld => p.1) (R := fun x y => cls x < cls y)).mp (by simpa using nm.1)
  · exact (List.pairwise_map (f := fun p : Fld => p.1) (R := fun x y => cls x < cls y)).mp (by simpa using nm.2)
theorem fields_ord {n : Int} : (fieldsOf n).Pairwise Before := rows_ord.sublist List.filter_sublist

theorem occ_of {c : Nat} {L : Str} (h : c ∈ L.cps.toList) : (Builtin.Str.occurrences L ⟨#[c]⟩ 0 L.length 1).isEmpty = false := by
  have := isIn_one.mpr h
  unfold isIn at this
  simpa using this
theorem occ_not {c : Nat} {L : Str} (h : c ∉ L.cps.toList) : (Builtin.Str.occurrences L ⟨#[c]⟩ 0 L.length 1).isEmpty = true := by
  cases e : (Builtin.Str.occurrences L ⟨#[c]⟩ 0 L.length 1).isEmpty with
  | true => rfl
  | false => exact absurd (isIn_one.mp (by unfold isIn; rw [e]; rfl)) h
/-- what the law makes of one sign -/
def gsub (l : List Nat) (k : Nat) : List Nat := if k ∈ l then [k] else if k = 122 then [118] else if k = 107 then [72] else if k = 75 then [104] else if k = 97 then [] else if k = 98 then [] else [k]
def optF (o : Option Fld) : List Nat := match o with | none => [] | some q => fcps q
theorem rep_map (c : Nat) (n : Nat) (f : Nat → List Nat) (k : Nat) (h : f c = [k]) : (List.replicate n c).flatMap f = List.replicate n k := by
  induction n with
  | zero => rfl
  | succ n ih => rw [List.replicate_succ, List.flatMap_cons, ih, h, List.replicate_succ]; rfl
theorem rep_nil (c : Nat) (n : Nat) (f : Nat → List Nat) (h : f c = []) : (List.replicate n c).flatMap f = [] := by
  induction n with
  | zero => rfl
  | succ n ih => rw [List.replicate_succ, List.flatMap_cons, ih, h]; rfl
theorem step_cases (L : Str) (c : Nat) (x : Int) :
    (readStep L (⟨#[c]⟩, x) = some (⟨#[c]⟩, x) ∧ gsub L.cps.toList c = [c]) ∨
    (∃ k, readStep L (⟨#[c]⟩, x) = some (⟨#[k]⟩, x) ∧ gsub L.cps.toList c = [k] ∧ k ∈ letters ∧ clsN k = clsN c) ∨
    (readStep L (⟨#[c]⟩, x) = none ∧ gsub L.cps.toList c = []) := by
  by_cases hL : c ∈ L.cps.toList
  · exact .inl ⟨step_in (occ_of hL), if_pos hL⟩
  · by_cases h5 : c ∈ (Str.ofString "zkKab").cps.toList
    · rcases five (occ_of h5) with rfl | rfl | rfl | rfl | rfl
      · exact .inr (.inl ⟨118, step_z (occ_not hL), by unfold gsub; rw [if_neg hL]; rfl, by decide, by decide⟩)
      · exact .inr (.inl ⟨72, step_k (occ_not hL), by unfold gsub; rw [if_neg hL]; rfl, by decide, by decide⟩)
      · exact .inr (.inl ⟨104, step_K (occ_not hL), by unfold gsub; rw [if_neg hL]; rfl, by decide, by decide⟩)
      · exact .inr (.inr ⟨step_a (occ_not hL), by unfold gsub; rw [if_neg hL]; rfl⟩)
      · exact .inr (.inr ⟨step_b (occ_not hL), by unfold gsub; rw [if_neg hL]; rfl⟩)
    · refine .inl ⟨step_not (occ_not h5), ?_⟩
      have e2 : (Str.ofString "zkKab").cps.toList = [122, 107, 75, 97, 98] := by decide
      rw [e2] at h5
      simp only [List.mem_cons, List.not_mem_nil, or_false, not_or] at h5
      unfold gsub
      rw [if_neg hL, if_neg h5.1, if_neg h5.2.1, if_neg h5.2.2.1, if_neg h5.2.2.2.1, if_neg h5.2.2.2.2]
theorem step_fcps (L : Str) (c : Nat) (x : Int) : optF (readStep L (⟨#[c]⟩, x)) = (fcps (⟨#[c]⟩, x)).flatMap (gsub L.cps.toList) := by
  rcases step_cases L c x with ⟨e, g⟩ | ⟨k, e, g, _⟩ | ⟨e, g⟩
  · rw [e]; exact (rep_map c _ _ c g).symm
  · rw [e]; exact (rep_map c _ _ k g).symm
  · rw [e]; exact (rep_nil c _ _ g).symm
theorem step_ok {L : Str} {p q : Fld} (h : readStep L p = some q) (hp : ∃ c ∈ letters, p.1 = ⟨#[c]⟩) : (∃ c ∈ letters, q.1 = ⟨#[c]⟩) ∧ cls q.1 = cls p.1 ∧ q.2 = p.2 := by
  obtain ⟨x, n⟩ := p
  obtain ⟨c, hc, rfl⟩ := hp
  rcases step_cases L c n with ⟨e, g⟩ | ⟨k, e, g, hk, hk'⟩ | ⟨e, g⟩
  · rw [e] at h; cases h; exact ⟨⟨c, hc, rfl⟩, rfl, rfl⟩
  · rw [e] at h; cases h; exact ⟨⟨k, hk, rfl⟩, hk', rfl⟩
  · rw [e] at h; cases h
theorem read_ord {L : Str} : ∀ {fs : List Fld}, (∀ p ∈ fs, ∃ c ∈ letters, p.1 = ⟨#[c]⟩) → fs.Pairwise Before → (readF L fs).Pairwise Before := by
  intro fs h ho
  unfold readF
  refine List.pairwise_filterMap.mpr (ho.imp_of_mem fun {p q} hp hq hb p' hp' q' hq' => ?_)
  have a := (step_ok hp' (h p hp)).2.1
  have b := (step_ok hq' (h q hq)).2.1
  unfold Before at *
  omega
theorem read_good {L : Str} {n : Int} (h0 : 0 ≤ n) : Good (readF L (fieldsOf n)) := by
  have g := good_fields h0
  refine ⟨Nat.le_trans (List.length_filterMap_le _ _) g.len, ?_, fun q hq => ?_⟩
  · have := read_ord (L := L) (fun p hp => (g.each p hp).1) fields_ord
    refine List.pairwise_map.mpr (this.imp fun {p q} hb e => ?_)
    unfold Before at hb
    rw [e] at hb
    exact Nat.lt_irrefl _ hb
  · obtain ⟨p, hp, e⟩ := List.mem_filterMap.mp hq
    have s := step_ok e (g.each p hp).1
    exact ⟨s.1, by rw [s.2.2]; exact (g.each p hp).2⟩

-- the five readings
theorem chg_flat (c : Nat) (z : List Nat) : ∀ l, chg c z l = l.flatMap fun k => if k = c then z else [k]
  | [] => rfl
  | k :: r => by
    rw [List.flatMap_cons, ← chg_flat c z r]; rfl
theorem flat_id : ∀ {l : List Nat} {f : Nat → List Nat}, (∀ k ∈ l, f k = [k]) → l.flatMap f = l
  | [], _, _ => rfl
  | k :: r, f, h => by
    rw [List.flatMap_cons, h k (.head _), flat_id fun k hk => h k (.tail _ hk)]; rfl
theorem substL_cps {c : Nat} {v : Str} {ss : List Str} {x : Str} {l : List Nat} (ha : ss.any (isIn ⟨#[c]⟩) = decide (c ∈ l)) :
    (substL ⟨#[c]⟩ v ss x).cps.toList = x.cps.toList.flatMap fun k => if k = c ∧ c ∉ l then v.cps.toList else [k] := by
  unfold substL
  rw [ha]
  by_cases h1 : c ∈ l
  · rw [decide_eq_true h1, Bool.not_true, Bool.and_false, if_neg (by decide)]
    exact (flat_id fun k _ => if_neg fun q => q.2 h1).symm
  · rw [decide_eq_false h1, Bool.not_false, Bool.and_true]
    by_cases h2 : isIn ⟨#[c]⟩ x = true
    · rw [if_pos h2, replace_chg, chg_flat]
      congr 1
      funext k
      by_cases hk : k = c
      · rw [if_pos hk, if_pos ⟨hk, h1⟩]
      · rw [if_neg hk, if_neg fun q => hk q.1]
    · rw [if_neg h2]
      exact (flat_id fun k hk => if_neg fun (q : k = c ∧ c ∉ l) => h2 (isIn_one.mpr (q.1 ▸ hk))).symm
theorem sub5_cps {ss : List Str} {x : Str} {l : List Nat} (ha : ∀ c, ss.any (isIn ⟨#[c]⟩) = decide (c ∈ l)) : (sub5 ss x).cps.toList = x.cps.toList.flatMap (gsub l) := by
  unfold sub5
  have e1 := substL_cps (v := Str.ofString "v") (x := x) (ha 122)
  have e2 := substL_cps (v := Str.ofString "H") (x := substL (Str.ofString "z") (Str.ofString "v") ss x) (ha 107)
  have e3 := substL_cps (v := Str.ofString "h") (x := substL (Str.ofString "k") (Str.ofString "H") ss (substL (Str.ofString "z") (Str.ofString "v") ss x)) (ha 75)
  have e4 := substL_cps (v := Str.ofString "") (x := substL (Str.ofString "K") (Str.ofString "h") ss (substL (Str.ofString "k") (Str.ofString "H") ss (substL (Str.ofString "z") (Str.ofString "v") ss x))) (ha 97)
  have e5 := substL_cps (v := Str.ofString "") (x := substL (Str.ofString "a") (Str.ofString "") ss (substL (Str.ofString "K") (Str.ofString "h") ss (substL (Str.ofString "k") (Str.ofString "H") ss (substL (Str.ofString "z") (Str.ofString "v") ss x)))) (ha 98)
  refine e5.trans ?_
  refine (congrArg (List.flatMap _) e4).trans ?_
  refine (congrArg (fun y => List.flatMap _ (List.flatMap _ y)) e3).trans ?_
  refine (congrArg (fun y => List.flatMap _ (List.flatMap _ (List.flatMap _ y))) e2).trans ?_
  refine (congrArg (fun y => List.flatMap _ (List.flatMap _ (List.flatMap _ (List.flatMap _ y)))) e1).trans ?_
  rw [List.flatMap_assoc, List.flatMap_assoc, List.flatMap_assoc, List.flatMap_assoc]
  congr 1
  funext k
  have v1 : (Str.ofString "v").cps.toList = [118] := by decide
  have v2 : (Str.ofString "H").cps.toList = [72] := by decide
  have v3 : (Str.ofString "h").cps.toList = [104] := by decide
  have v4 : (Str.ofString "").cps.toList = [] := by decide
  rw [v1, v2, v3, v4]
  unfold gsub
  by_cases hl : k ∈ l
  · have n : ∀ c, ¬ (k = c ∧ c ∉ l) := fun c q => q.2 (q.1 ▸ hl)
    simp [n, hl]
  · by_cases k1 : k = 122
    · subst k1; simp [hl]
    by_cases k2 : k = 107
    · subst k2; simp [hl]
    by_cases k3 : k = 75
    · subst k3; simp [hl]
    by_cases k4 : k = 97
    · subst k4; simp [hl]
    by_cases k5 : k = 98
    · subst k5; simp [hl]
    simp [hl, k1, k2, k3, k4, k5]
theorem flat_filterMap {f : Fld → Option Fld} : ∀ l : List Fld, (l.filterMap f).flatMap fcps = l.flatMap fun p => optF (f p)
  | [] => rfl
  | p :: r => by
    rw [List.flatMap_cons, ← flat_filterMap r]
    cases e : f p with
    | none => rw [List.filterMap_cons_none e]; rfl
    | some q => rw [List.filterMap_cons_some e, List.flatMap_cons]; rfl
theorem read_cps {L : Str} {fs : List Fld} (h : Good fs) : (readF L fs).flatMap fcps = (fs.flatMap fcps).flatMap (gsub L.cps.toList) := by
  unfold readF
  rw [flat_filterMap, List.flatMap_assoc]
  rw [List.flatMap_def, List.flatMap_def]
  congr 1
  refine List.map_congr_left fun p hp => ?_
  obtain ⟨x, n⟩ := p
  have := (good_sgn h _ hp).1
  simp only at this
  rw [this]
  exact step_fcps L _ n
theorem sub5_text {n : Int} (h0 : 0 ≤ n) {OL : List (List Fld)} {ss' : List Str} (hp : ss'.Perm ((OL.map textOf).filter fun y => ((y.length : Int) != 0))) :
    sub5 ss' (textOf (fieldsOf n)) = textOf (readF (Txt.join (Str.ofString "") (OL.map textOf)) (fieldsOf n)) := by
  have g := good_fields h0
  have gr := read_good (L := Txt.join (Str.ofString "") (OL.map textOf)) h0
  apply str_ext
  rw [sub5_cps (l := (Txt.join (Str.ofString "") (OL.map textOf)).cps.toList), textOf_cps fun p hp => (good_sgn g p hp).1, textOf_cps fun p hp => (good_sgn gr p hp).1, read_cps g]
  intro c
  rw [tjoin_cps]
  rw [Bool.eq_iff_iff, List.any_eq_true, decide_eq_true_iff, List.mem_flatten]
  constructor
  · rintro ⟨y, hy, hc⟩
    exact ⟨_, List.mem_map.mpr ⟨y, (List.mem_filter.mp (hp.mem_iff.mp hy)).1, rfl⟩, isIn_one.mp hc⟩
  · rintro ⟨_, hy, hc⟩
    obtain ⟨y, hy', rfl⟩ := List.mem_map.mp hy
    refine ⟨y, hp.mem_iff.mpr (List.mem_filter.mpr ⟨hy', ?_⟩), isIn_one.mpr hc⟩
    have : y.length = y.cps.toList.length := Array.length_toList.symm
    have := List.length_pos_of_mem hc
    simp only [bne_iff_ne, ne_eq]
    omega
end Mine
end

-- part Pv3
section
open PySem PySem.W PySem.Spec PySem.Calls PyProof.Rows PyProof.Rows.LCg
set_option maxRecDepth 100000
namespace Mine
def lawStep (RD : List Fld) (b : Bool) (st : Option (Str × Int)) (fs : List Fld) : Option (Str × Int) :=
  match distL RD fs b (signs (Str.ofString "yMdHkKhmzvabB")) 0 with
  | none => st
  | some d => if (textOf fs).length = 0 then st else msStep st (textOf fs) d
def badF (f g : List Fld) (c : Str) : Bool := decide (getF f c ≠ getF g c ∧ (getF f c = 0 ∨ getF g c = 0))
def costF (f g : List Fld) (c : Str) : Int :=
  if badF f g c = true then 4096 else if (c == Str.ofString "M") = true ∧ (decide (2 < getF f c) != decide (2 < getF g c)) = true then 256
  else (if getF f c - getF g c < 0 then -(getF f c - getF g c) else getF f c - getF g c)
theorem cost_nonneg (f g : List Fld) (c : Str) : 0 ≤ costF f g c := by
  unfold costF
  split
  · decide
  split
  · decide
  split <;> omega
theorem dist_sum {f g : List Fld} {b : Bool} : ∀ (ks : List Str) (t : Int), distL f g b ks t = if b = false ∧ ks.any (badF f g) = true then none else some (t + (ks.map (costF f g)).sum)
  | [], t => by simp [distL]
  | c :: r, t => by
    unfold distL
    by_cases h1 : getF f c ≠ getF g c ∧ (getF f c = 0 ∨ getF g c = 0)
    · rw [if_pos h1]
      have hb : badF f g c = true := decide_eq_true h1
      cases b with
      | false => simp [hb]
      | true =>
        rw [if_pos rfl, dist_sum r]
        have : costF f g c = 4096 := if_pos hb
        simp [this, Int.add_assoc]
    · rw [if_neg h1]
      have hb : badF f g c = false := decide_eq_false h1
      by_cases h2 : (c == Str.ofString "M") = true ∧ (decide (2 < getF f c) != decide (2 < getF g c)) = true
      · rw [if_pos h2, dist_sum r]
        have : costF f g c = 256 := by unfold costF; rw [hb, if_neg (by decide), if_pos h2]
        simp only [List.any_cons, hb, Bool.false_or, List.map_cons, List.sum_cons, this, Int.add_assoc]
      · rw [if_neg h2, dist_sum r]
        have : costF f g c = (if getF f c - getF g c < 0 then -(getF f c - getF g c) else getF f c - getF g c) := by unfold costF; rw [hb, if_neg (by decide), if_neg h2]
        simp only [List.any_cons, hb, Bool.false_or, List.map_cons, List.sum_cons, this, Int.add_assoc]
theorem getF_out {f : List Fld} {c : Str} (h : c ∉ f.map (·.1)) : getF f c = 0 := by
  unfold getF
  rw [List.find?_eq_none.mpr]
  · rfl
  · intro p hp q
    exact h (List.mem_map.mpr ⟨p, hp, by simpa using q⟩)
abbrev lawKeys : List Str := signs (Str.ofString "yMdHkKhmzvabB")
theorem law_keys : lawKeys = letters.map fun c => (⟨#[c]⟩ : Str) := by decide
theorem good_out {f : List Fld} (h : Good f) {c : Str} (hc : c ∉ lawKeys) : getF f c = 0 := getF_out fun q => hc (by
  obtain ⟨p, hp, rfl⟩ := List.mem_map.mp q
  obtain ⟨⟨k, hk, e⟩, _⟩ := h.each p hp
  rw [law_keys, e]
  exact List.mem_map.mpr ⟨k, hk, rfl⟩)
theorem keys_perm : (patKeys.filter fun k => decide (k ∈ lawKeys)).Perm lawKeys := by decide
theorem sum_perm {l l' : List Int} (h : l.Perm l') : l.sum = l'.sum := by
  induction h with
  | nil => rfl
  | cons x _ ih => simp only [List.sum_cons, ih]
  | swap x y l => simp only [List.sum_cons]; omega
  | trans _ _ a b => exact a.trans b
theorem sum_filter {p : Str → Bool} {c : Str → Int} : ∀ l : List Str, (∀ k, p k = false → c k = 0) → (l.map c).sum = ((l.filter p).map c).sum
  | [], _ => rfl
  | k :: r, h => by
    have ih := sum_filter r h
    cases e : p k with
    | true => rw [List.filter_cons_of_pos e, List.map_cons, List.map_cons, List.sum_cons, List.sum_cons, ih]
    | false => rw [List.filter_cons_of_neg (by rw [e]; decide), List.map_cons, List.sum_cons, h k e, ih]; omega
theorem any_filter {p q : Str → Bool} : ∀ l : List Str, (∀ k, p k = false → q k = false) → l.any q = (l.filter p).any q
  | [], _ => rfl
  | k :: r, h => by
    have ih := any_filter r h
    cases e : p k with
    | true => rw [List.filter_cons_of_pos e, List.any_cons, List.any_cons, ih]
    | false => rw [List.filter_cons_of_neg (by rw [e]; decide), List.any_cons, h k e, ih]; rfl
theorem any_perm {q : Str → Bool} {l l' : List Str} (h : l.Perm l') : l.any q = l'.any q := by
  rw [Bool.eq_iff_iff, List.any_eq_true, List.any_eq_true]
  exact ⟨fun ⟨x, hx, e⟩ => ⟨x, h.mem_iff.mp hx, e⟩, fun ⟨x, hx, e⟩ => ⟨x, h.mem_iff.mpr hx, e⟩⟩
theorem dist_keys {f g : List Fld} {b : Bool} (hf : Good f) (hg : Good g) : distL f g b patKeys 0 = distL f g b (signs (Str.ofString "yMdHkKhmzvabB")) 0 := by
  have hz : ∀ k, decide (k ∈ lawKeys) = false → getF f k = 0 ∧ getF g k = 0 := fun k hk => ⟨good_out hf (by simpa using hk), good_out hg (by simpa using hk)⟩
  have hb : ∀ k, decide (k ∈ lawKeys) = false → badF f g k = false := fun k hk => by
    unfold badF; rw [(hz k hk).1, (hz k hk).2]; rfl
  have hc : ∀ k, decide (k ∈ lawKeys) = false → costF f g k = 0 := fun k hk => by
    unfold costF
    rw [hb k hk, (hz k hk).1, (hz k hk).2, if_neg (by decide), if_neg (by simp)]; rfl
  rw [dist_sum, dist_sum, any_filter _ hb, sum_filter _ hc, any_perm keys_perm, sum_perm (keys_perm.map _)]
theorem dist_nonneg {f g : List Fld} {b : Bool} {ks : List Str} {d : Int} (h : distL f g b ks 0 = some d) : 0 ≤ d := by
  rw [dist_sum] at h
  split at h
  · cases h
  · cases h
    have : ∀ l : List Str, 0 ≤ (l.map (costF f g)).sum := fun l => by
      induction l with
      | nil => simp
      | cons c r ih => have := cost_nonneg f g c; simp only [List.map_cons, List.sum_cons]; omega
    have := this ks
    omega
theorem law_zero {RD : List Fld} {b : Bool} {q : Str × Int} (hq : q.2 = 0) : ∀ l : List (List Fld), l.foldl (lawStep RD b) (some q) = some q
  | [] => rfl
  | fs :: r => by
    rw [List.foldl_cons]
    have : lawStep RD b (some q) fs = some q := by
      unfold lawStep
      split
      · rfl
      · rename_i d hd
        have := dist_nonneg hd
        split
        · rfl
        · exact step_ge (by omega)
    rw [this]
    exact law_zero hq r
theorem loop_go {RD : List Fld} (hR : Good RD) {b : Bool} : ∀ (l : List (List Fld)) (st : Option (Str × Int)), (∀ fs ∈ l, Good fs) → (∀ q, st = some q → 0 ≤ q.2) →
    msLoop RD b ((l.map textOf).filter fun y => ((y.length : Int) != 0)) st = l.foldl (lawStep RD b) st
  | [], _, _, _ => rfl
  | fs :: r, st, hg, hst => by
    have g := hg fs (.head _)
    have gr := fun q hq => hg q (.tail _ hq)
    rw [List.foldl_cons, List.map_cons]
    by_cases h0 : (textOf fs).length = 0
    · have e : lawStep RD b st fs = st := by
        unfold lawStep; split
        · rfl
        · rw [if_pos h0]
      rw [e, List.filter_cons_of_neg (by simp [h0])]
      exact loop_go hR r st gr hst
    · rw [List.filter_cons_of_pos (by simp only [bne_iff_ne, ne_eq]; omega)]
      rcases hd : distL RD fs b (signs (Str.ofString "yMdHkKhmzvabB")) 0 with _ | d
      · have e : lawStep RD b st fs = st := by unfold lawStep; rw [hd]
        rw [e, msl_none (by rw [toks_text g, dist_keys hR g]; exact hd)]
        exact loop_go hR r st gr hst
      · have e : lawStep RD b st fs = msStep st (textOf fs) d := by unfold lawStep; rw [hd]; exact if_neg h0
        have hd' : distL RD (toksOf (textOf fs)) b patKeys 0 = some d := by rw [toks_text g, dist_keys hR g]; exact hd
        have hn := dist_nonneg hd
        rw [e]
        by_cases hz : d = 0
        · rw [msl_stop hd' hz]
          subst hz
          have : ∃ q, msStep st (textOf fs) 0 = some q ∧ q.2 = 0 := by
            rcases st with _ | q
            · exact ⟨_, rfl, rfl⟩
            · have := hst q rfl
              by_cases hq : 0 < q.2
              · exact ⟨_, step_lt hq, rfl⟩
              · exact ⟨q, step_ge hq, by omega⟩
          obtain ⟨q, e1, e2⟩ := this
          rw [e1, law_zero e2]
        · rw [msl_some hd' hz]
          refine loop_go hR r _ gr fun q hq => ?_
          rcases st with _ | q'
          · cases hq; exact hn
          · have := hst q' rfl
            by_cases hl : d < q'.2
            · rw [step_lt hl] at hq; cases hq; exact hn
            · rw [step_ge hl] at hq; cases hq; exact this
-- sorted lists
def leS (a b : Str) : Prop := ltCps b.cps.toList a.cps.toList = false
theorem leS_iff {a b : Str} : leS a b ↔ a.cps.toList ≤ b.cps.toList := by
  unfold leS; rw [ltCps_eq, decide_eq_false_iff_not]; exact Iff.rfl
theorem leS_trans {a b c : Str} (h : leS a b) (h' : leS b c) : leS a c := leS_iff.mpr (List.le_trans (leS_iff.mp h) (leS_iff.mp h'))
theorem leS_antisymm {a b : Str} (h : leS a b) (h' : leS b a) : a = b := str_ext (List.le_antisymm (leS_iff.mp h) (leS_iff.mp h'))
theorem rising_pairwise : ∀ (r : List Str) (p : Str), risingS p r = true → (p :: r).Pairwise leS
  | [], p, _ => by simp
  | x :: r, p, h => by
    have h' : (!ltCps x.cps.toList p.cps.toList) = true ∧ risingS x r = true := by simpa [risingS] using h
    have ih := rising_pairwise r x h'.2
    have hx : leS p x := by simpa [leS] using h'.1
    refine List.pairwise_cons.mpr ⟨fun y hy => ?_, ih⟩
    rcases List.mem_cons.mp hy with rfl | hy
    · exact hx
    · exact leS_trans hx (List.rel_of_pairwise_cons ih hy)
theorem sorted_pairwise : ∀ {l : List Str}, sortedS l = true → l.Pairwise leS
  | [], _ => .nil
  | x :: r, h => rising_pairwise r x h
theorem loop_eq {RD : List Fld} (hR : Good RD) {b : Bool} {OL OL' : List (List Fld)} (hg : ∀ fs ∈ OL, Good fs) {ss' : List Str} (hp : ss'.Perm ((OL.map textOf).filter fun y => ((y.length : Int) != 0))) (hs : sortedS ss' = true)
    (hp' : OL'.Perm OL) (hs' : sortedS (OL'.map textOf) = true) : msLoop RD b ss' none = OL'.foldl (lawStep RD b) none := by
  have e : ss' = (OL'.map textOf).filter fun y => ((y.length : Int) != 0) := by
    have h1 := sorted_pairwise hs
    have h2 : ((OL'.map textOf).filter fun y => ((y.length : Int) != 0)).Pairwise leS := (sorted_pairwise hs').sublist List.filter_sublist
    have h3 : ss'.Perm ((OL'.map textOf).filter fun y => ((y.length : Int) != 0)) := hp.trans ((hp'.map textOf).filter _).symm
    exact h3.eq_of_pairwise (fun a b _ _ x y => leS_antisymm x y) h1 h2
  rw [e]
  exact loop_go hR OL' none (fun fs hfs => hg fs (hp'.mem_iff.mp hfs)) (fun q hq => by cases hq)
end Mine
end

-- part Tree
section
open PySem PySem.W PySem.Spec PySem.Calls PyProof.Rows PyProof.Rows.LCg
set_option maxRecDepth 100000
namespace Mine
/-- the sort's tree of questions, answered by lt -/
def runK {α : Type} (lt : Nat → Nat → Bool) : KasT α → α
  | .ret a => a
  | .ask i j k => runK lt (k (lt i j))
def okK {α : Type} (n : Nat) (lt : Nat → Nat → Bool) : KasT α → Bool
  | .ret _ => true
  | .ask i j k => (decide (i < n) && decide (j < n)) && okK n lt (k (lt i j))
theorem kas_const {α : Type} {cmp : Nat → Nat → (Bool → Shared → Prop) → Shared → Prop} {n : Nat} {lt : Nat → Nat → Bool} {Q : α → Shared → Prop} {s : Shared}
    (hc : ∀ i j (C : Bool → Shared → Prop), i < n → j < n → C (lt i j) s → cmp i j C s) : ∀ t : KasT α, okK n lt t = true → Q (runK lt t) s → t.kasWp cmp Q s
  | .ret _, _, h => h
  | .ask i j k, ho, h => by
    have ho' : (i < n ∧ j < n) ∧ okK n lt (k (lt i j)) = true := by simpa [okK] using ho
    exact hc i j _ ho'.1.1 ho'.1.2 (kas_const hc (k (lt i j)) ho'.2 h)
def rk (l : List Nat) (i j : Nat) : Bool := decide (l.getD i 0 < l.getD j 0)
def treeOk (n : Nat) (l : List Nat) : Bool :=
  okK n (rk l) (kas_sort n) && (decide ((runK (rk l) (kas_sort n)).toList.Perm (List.range n)) && decide (((runK (rk l) (kas_sort n)).toList.map fun i => l.getD i 0).Pairwise (· ≤ ·)))
theorem tree2 : ∀ a < 4, ∀ b < 4, treeOk 2 [a, b] = true := by decide +kernel
theorem tree3 : ∀ a < 4, ∀ b < 4, ∀ c < 4, treeOk 3 [a, b, c] = true := by decide +kernel
theorem tree4 : ∀ a < 4, ∀ b < 4, ∀ c < 4, ∀ d < 4, treeOk 4 [a, b, c, d] = true := by decide +kernel
theorem tree_ok : ∀ {l : List Nat}, 2 ≤ l.length → l.length ≤ 4 → (∀ x ∈ l, x < 4) → treeOk l.length l = true
  | [a, b], _, _, h => tree2 a (h a (by simp)) b (h b (by simp))
  | [a, b, c], _, _, h => tree3 a (h a (by simp)) b (h b (by simp)) c (h c (by simp))
  | [a, b, c, d], _, _, h => tree4 a (h a (by simp)) b (h b (by simp)) c (h c (by simp)) d (h d (by simp))
  | [], h, _, _ => by simp at h
  | [_], h, _, _ => by simp at h
  | _ :: _ :: _ :: _ :: _ :: _, _, h, _ => by simp at h
/-- is the text less -/
def ltS (a b : Str) : Bool := decide (a.cps.toList < b.cps.toList)
def rankS (l : List Str) (x : Str) : Nat := l.countP fun y => ltS y x
theorem rank_lt {l : List Str} {x : Str} (h : x ∈ l) : rankS l x < l.length := by
  refine Nat.lt_of_le_of_ne List.countP_le_length fun e => ?_
  have := List.countP_eq_length.mp e x h
  exact absurd (of_decide_eq_true this) (List.lt_irrefl _)
theorem rank_iff {l : List Str} {x y : Str} (hx : x ∈ l) : ltS x y = decide (rankS l x < rankS l y) := by
  rw [Bool.eq_iff_iff, decide_eq_true_iff]
  constructor
  · intro h
    have h' : x.cps.toList < y.cps.toList := of_decide_eq_true h
    have sub : ∀ (r : List Str), rankS r x ≤ rankS r y := fun r => List.countP_mono_left fun z _ hz => decide_eq_true (List.lt_trans (of_decide_eq_true hz) h')
    obtain ⟨p, q, rfl⟩ := List.append_of_mem hx
    have a := sub p
    have b := sub q
    unfold rankS at *
    rw [List.countP_append, List.countP_append, List.countP_cons_of_pos (p := fun z => ltS z y) h, List.countP_cons_of_neg (p := fun z => ltS z x) (fun q => List.lt_irrefl _ (of_decide_eq_true q))]
    omega
  · intro h
    cases e : ltS x y with
    | true => rfl
    | false =>
      have e' : ¬ x.cps.toList < y.cps.toList := of_decide_eq_false e
      have : rankS l y ≤ rankS l x := List.countP_mono_left fun z _ hz => decide_eq_true (by
        have hz' : z.cps.toList < y.cps.toList := of_decide_eq_true hz
        exact Decidable.byContradiction fun q => List.le_trans (l₁ := y.cps.toList) (l₂ := x.cps.toList) (l₃ := z.cps.toList) e' q hz')
      omega
end Mine
end

-- part St
section
open PySem PySem.W PySem.Spec PySem.Calls PyProof.Rows PyProof.Rows.LCg
set_option maxRecDepth 100000
namespace Mine
/-- a tuple (text, fields) of the law -/
def TupOf (lk lk' : Lk) (v : Value) (fs : List Fld) : Prop := ∃ a n t d, v = .ref a ∧ lk a (tupO #[.str (textOf fs) t, d] n) ∧ IsPairs lk' d fs
theorem TupOf.mono {lk lk₁ lk' lk₁' : Lk} (h : ∀ a o, lk a o → lk₁ a o) (h' : ∀ a o, lk' a o → lk₁' a o) {v fs} (x : TupOf lk lk' v fs) : TupOf lk₁ lk₁' v fs :=
  let ⟨a, n, t, d, e, z, p⟩ := x; ⟨a, n, t, d, e, h _ _ z, p.mono h'⟩
-- the fields as data
def datF (p : Fld) : PyData := .tuple [.str p.1, .int p.2]
def datFs (fs : List Fld) : PyData := .list (fs.map datF)
theorem reads_pair {h : Heap} {v : Value} {p : Fld} (x : IsPair (inH h) v p) : Reads h v (datF p) [] := by
  obtain ⟨a, n, t, u, rfl, z⟩ := x
  exact Reads.tuple (as := []) z rfl rfl (ReadsAll.cons (as := []) (bs := []) (.str _ _) (ReadsAll.cons (as := []) (bs := []) (.int _ _) .nil))
theorem reads_all {h : Heap} : ∀ {vs : List Value} {fs : List Fld}, Paired (IsPair (inH h)) vs fs → ReadsAll h vs (fs.map datF) []
  | _, _, .nil => .nil
  | _, _, .cons a t => ReadsAll.cons (as := []) (bs := []) (reads_pair a) (reads_all t)
theorem reads_pairs {h : Heap} {v : Value} {fs : List Fld} (x : IsPairs (inH h) v fs) : ∃ as, Reads h v (datFs fs) as := by
  obtain ⟨a, its, n, rfl, z, p⟩ := x
  exact ⟨_, Reads.list z rfl rfl (reads_all p)⟩
theorem letters_ok : ∀ c ∈ letters, PyData.strOk ⟨#[c]⟩ = true := by decide +kernel
theorem lay_pairs : ∀ {fs : List Fld}, (∀ p ∈ fs, ∃ c ∈ letters, p.1 = ⟨#[c]⟩) → PyData.canLayAll0 (fs.map datF) = true
  | [], _ => rfl
  | (x, n) :: r, h => by
    obtain ⟨c, hc, e⟩ := h (x, n) (.head _)
    simp only at e
    subst e
    have ih := lay_pairs (fs := r) fun p hp => h p (.tail _ hp)
    simp [PyData.canLayAll0, PyData.canLay0, datF, letters_ok c hc, ih]
theorem depth_pairs : ∀ fs : List Fld, PyData.depthAll (fs.map datF) ≤ 1
  | [] => Nat.zero_le _
  | p :: r => by
    have ih := depth_pairs r
    simp only [List.map_cons, PyData.depthAll]
    have : PyData.depth (datF p) = 1 := rfl
    omega
section
variable {prog : Program} {w : World} {A : Around} {E : Value → Shared → Prop} {s : Shared} {h₀ : Heap} {L : Addr} {m : Str → Option Value} {K : Led}
theorem tup_lt {v₁ v₂ : Value} {f₁ f₂ : List Fld} {Q : Bool → Shared → Prop} (h1 : TupOf (inH s.heap) (inH s.heap) v₁ f₁) (h2 : TupOf (inH s.heap) (inH s.heap) v₂ f₂) (g1 : Good f₁) (g2 : Good f₂) (hu : A.units + 8 < cLine)
    (h : Q (ltS (textOf f₁) (textOf f₂)) s) : wpAny (model prog w) A (keyLt' (tuples' true) v₁ v₂) Q E s := by
  obtain ⟨a₁, n₁, t₁, d₁, rfl, z₁, p₁⟩ := h1
  obtain ⟨a₂, n₂, t₂, d₂, rfl, z₂, p₂⟩ := h2
  refine kat_lt z₁ rfl z₂ rfl ?_
  refine kat_cons (r := [(d₁, d₂)]) ?_
  refine eqBool_str ?_
  by_cases e : textOf f₁ = textOf f₂
  · rw [show (textOf f₁ == textOf f₂) = true from beq_iff_eq.mpr e]
    refine kat_yes (kat_cons ?_)
    have ef : f₁ = f₂ := by rw [← toks_text g1, ← toks_text g2, e]
    subst ef
    obtain ⟨as, r1⟩ := reads_pairs p₁
    obtain ⟨bs, r2⟩ := reads_pairs p₂
    have hl : (datFs f₁).canLay0 = true := by
      show PyData.canLay0 (.list _) = true
      rw [PyData.canLay0]; exact lay_pairs fun p hp => (g1.each p hp).1
    have hd : PyData.depth (datFs f₁) ≤ 2 := Nat.succ_le_succ (depth_pairs f₁)
    refine SeqAt.eqBoolOverData prog w A _ s d₁ d₂ (datFs f₁) (datFs f₁) as bs _ r1 r2 hl hl (by omega) ?_
    rw [SeqAt.eqv_refl _ hl]
    refine kat_yes (kat_nil ?_)
    have : ltS (textOf f₁) (textOf f₁) = false := decide_eq_false (List.lt_irrefl _)
    rw [this] at h
    exact h
  · rw [show (textOf f₁ == textOf f₂) = false from beq_eq_false_iff_ne.mpr e]
    exact kat_no (oneLt_str h)
theorem tups_kat {h : Heap} : ∀ {vs : List Value} {OL : List (List Fld)}, Paired (TupOf (inH h) (inH h)) vs OL → ∃ fs, KatTups h vs fs ∧ fs.length = OL.length ∧ ∀ v ∈ fs, ∃ x t, v = Value.str x t
  | _, _, .nil => ⟨[], .nil, rfl, fun _ q => nomatch q⟩
  | _, _, .cons a t => by
    obtain ⟨fs, k, e, q⟩ := tups_kat t
    obtain ⟨a₁, n₁, t₁, d₁, rfl, z₁, p₁⟩ := a
    refine ⟨.str _ t₁ :: fs, KatTups.cons z₁ rfl rfl rfl k, by simp [e], fun v hv => ?_⟩
    rcases List.mem_cons.mp hv with rfl | hv
    · exact ⟨_, _, rfl⟩
    · exact q v hv
theorem paired_at {α β : Type} {F : α → β → Prop} : ∀ {l₁ : List α} {l₂ : List β}, Paired F l₁ l₂ → ∀ (i : Nat) (a : α) (b : β), i < l₂.length → F (l₁.getD i a) (l₂.getD i b)
  | _, _, .nil, _, _, _, h => by simp at h
  | _, _, .cons x _, 0, _, _, _ => by simpa using x
  | _, _, .cons _ t, i + 1, a, b, h => by simpa using paired_at t i a b (by simpa using h)
theorem paired_map {α β : Type} {F : α → β → Prop} {f : Nat → α} {g : Nat → β} : ∀ {l : List Nat}, (∀ i ∈ l, F (f i) (g i)) → Paired F (l.map f) (l.map g)
  | [], _ => .nil
  | i :: _, h => .cons (h i (.head _)) (paired_map fun j hj => h j (.tail _ hj))
theorem map_range {α : Type} (l : List α) (d : α) : (List.range l.length).map (fun i => l.getD i d) = l := by
  apply List.ext_getElem (by simp)
  intro i h1 h2
  simp at h1
  simp [h1]
theorem sorted_tups2 {R : Addr} {vs : List Value} {OL : List (List Fld)} {Q : Value → Shared → Prop} (F : Fr h₀ L s.heap m) (N : News h₀ L s.heap K) (hl : (R, lst vs) ∈ K) (hP : Paired (TupOf (inL K) (inL K)) vs OL)
    (h1 : 2 ≤ OL.length) (h4 : OL.length ≤ 4) (hg : ∀ fs ∈ OL, Good fs) (hu : A.units + 64 < cLine)
    (h : ∀ (h' : Heap) (tk : Nat) (D : Addr) (vs' : List Value) (OL' : List (List Fld)) (e : Nat), Fr h₀ L h' m → News h₀ L h' ((D, listOf vs'.toArray e) :: K) → (∀ q ∈ K, q.1 ≠ D) →
      Paired (TupOf (inL K) (inL K)) vs' OL' → OL'.Perm OL → sortedS (OL'.map textOf) = true → Q (.ref D) { s with heap := h', toks := tk }) :
    wpAny (model prog w) A (call (.builtin "sorted") [.ref R]) Q E s := by
  have hn : vs.length = OL.length := hP.length
  refine kat_sorted F N ⟨_, (N _ hl).1, rfl, _, rfl⟩ (by omega) (by omega) fun D e1 h' F' N' hlt => ?_
  have inN : ∀ a o, inL K a o → inH h' a o := fun a o q => (N' (a, o) (.tail _ q)).1
  have hP' : Paired (TupOf (inH h') (inH h')) vs OL := paired_mono (fun _ _ => TupOf.mono inN inN) hP
  obtain ⟨fs, hk, hfl, hfs⟩ := tups_kat hP'
  refine kat_kind (T := .type "str") (s := { s with heap := h' }) hk (by omega) (fun v hv => ?_) rfl ?_
  · obtain ⟨x, t, rfl⟩ := hfs v hv
    exact .now
  generalize hRl : OL.map (fun f => rankS (OL.map textOf) (textOf f)) = rl
  have hrl : rl.length = OL.length := by rw [← hRl, List.length_map]
  have hrd : ∀ i, i < OL.length → rl.getD i 0 = rankS (OL.map textOf) (textOf (OL.getD i [])) := fun i hi => by
    rw [← hRl]; simp [hi]
  have hmem : ∀ i, i < OL.length → OL.getD i [] ∈ OL := fun i hi => by
    have : OL.getD i [] = OL[i] := by simp [hi]
    rw [this]; exact List.getElem_mem hi
  have ht := tree_ok (l := rl) (by omega) (by omega) fun x hx => by
    rw [← hRl] at hx
    obtain ⟨f, hf, rfl⟩ := List.mem_map.mp hx
    have := rank_lt (List.mem_map.mpr ⟨f, hf, rfl⟩ : textOf f ∈ OL.map textOf)
    rw [List.length_map] at this
    omega
  rw [hrl] at ht
  have ht' : okK OL.length (rk rl) (kas_sort OL.length) = true ∧ (runK (rk rl) (kas_sort OL.length)).toList.Perm (List.range OL.length) ∧ ((runK (rk rl) (kas_sort OL.length)).toList.map fun i => rl.getD i 0).Pairwise (· ≤ ·) := by
    simpa [treeOk] using ht
  obtain ⟨ho, hperm, hsort⟩ := ht'
  rw [hn]
  refine kas_const (n := OL.length) (lt := rk rl) (fun i j C hi hj hC => ?_) _ ho ?_
  · refine tup_lt (paired_at hP' i _ [] hi) (paired_at hP' j _ [] hj) (hg _ (hmem i hi)) (hg _ (hmem j hj)) (Nat.lt_of_le_of_lt (show A.units + 1 + 1 + 8 ≤ A.units + 64 by omega) hu) ?_
    have : ltS (textOf (OL.getD i [])) (textOf (OL.getD j [])) = rk rl i j := by
      unfold rk
      rw [hrd i hi, hrd j hj]
      exact rank_iff (List.mem_map.mpr ⟨_, hmem i hi, rfl⟩)
    rw [this]
    exact hC
  · generalize (runK (rk rl) (kas_sort OL.length)).toList = p at hperm hsort
    have hpl : ∀ i ∈ p, i < OL.length := fun i hi => List.mem_range.mp (hperm.mem_iff.mp hi)
    refine KasFin.intro F' N' (.head fun q hq => Nat.ne_of_lt (hlt q hq)) fun h'' c F'' N'' => ?_
    refine h h'' s.toks D (p.map fun i => vs.getD i Value.none) (p.map fun i => OL.getD i []) c F'' N'' (fun q hq => Nat.ne_of_lt (hlt q hq)) (paired_map fun i hi => paired_at hP i _ _ (hpl i hi)) ?_ ?_
    · have := hperm.map fun i => OL.getD i []
      rwa [map_range] at this
    · apply sortedS_of_pairwise
      rw [List.map_map, List.pairwise_map]
      refine (List.pairwise_map.mp hsort).imp_of_mem fun {i j} hi hj hr => ?_
      rw [hrd i (hpl i hi), hrd j (hpl j hj)] at hr
      rw [ltCps_eq]
      have := rank_iff (l := OL.map textOf) (x := textOf (OL.getD j [])) (y := textOf (OL.getD i [])) (List.mem_map.mpr ⟨_, hmem j (hpl j hj), rfl⟩)
      rw [decide_eq_false (by omega)] at this
      exact this
theorem sort_one {a : Addr} {v : Value} {n : Nat} {P : PySem.Fin → Shared → Prop} (ho : s.heap.get? a = some (seqObj "list" #[v] n)) (h : P (.done (.ret .none)) { s with heap := sortedHeap s.heap a [v] #[v] }) :
    wpAny (model prog w) A (Builtin.«list.sort» ⟨[.ref a], []⟩) P E s := by
  have ha : a < s.heap.objs.size := Heap.lt_size ho
  have z : ∃ e₁, (s.heap.update a (Obj.mapSeq fun _ => #[])).get? a = some (seqObj "list" #[] e₁) := ⟨_, get?_update_seq ho (fun _ => #[])⟩
  obtain ⟨e₁, z₁⟩ := z
  have z₂ : (((s.heap.update a (Obj.mapSeq fun _ => #[])).push (seqObj "tuple" #[v] 0)).push (seqObj "list" #[] 0)).get? a = some (seqObj "list" #[] e₁) :=
    Heap.get?_push_of_some _ (Heap.get?_push_of_some _ z₁)
  rw [list_sort_plain]
  refine wpAny_bind (listItems_at ho rfl (wpAny_bind (listUpdate_at ho rfl (wpAny_bind (seqEpoch_at z₁ rfl (wpAny_bind (wpAny_newTuple (wpAny_bind (wpAny_newList (wpAny_holding ?_)))))))))) 
  show wpAny (model prog w) A _ P E { s with heap := ((s.heap.update a (Obj.mapSeq fun _ => #[])).push (seqObj "tuple" #[v] 0)).push (seqObj "list" #[] 0) }
  have h2 : (#[v] : Array Value).size < 2 := Nat.lt_succ_self 1
  have ez : (arrOf (SortSt.mk' general' ((#[v] : Array Value).zip #[v]) #[] 7 none)).map (·.2) = #[v] := by
    show ((#[v] : Array Value).zip #[v]).map (·.2) = #[v]
    simp
  dsimp only
  rw [if_pos h2, if_pos h2]
  refine wpAny_bind (wpAny_pure ?_)
  rw [StateT.run_pure]
  refine wpAny_bind (wpAny_pure ?_)
  dsimp only
  refine wpAny_bind (seqEpoch_at z₂ rfl ?_)
  rw [ez]
  refine wpAny_bind (listUpdate_at z₂ rfl ?_)
  simp only [bne_self_eq_false, Bool.false_eq_true, if_false]
  exact wpAny_pure h
theorem sorted_one {R : Addr} {v : Value} {Q : Value → Shared → Prop} (F : Fr h₀ L s.heap m) (N : News h₀ L s.heap K) (hl : (R, lst [v]) ∈ K)
    (h : ∀ (h' : Heap) (D : Addr) (e : Nat), Fr h₀ L h' m → News h₀ L h' ((D, listOf #[v] e) :: K) → (∀ q ∈ K, q.1 ≠ D) → Q (.ref D) { s with heap := h' }) :
    wpAny (model prog w) A (call (.builtin "sorted") [.ref R]) Q E s := by
  have hl' : s.heap.IsList R #[v] := ⟨_, (N _ hl).1, rfl, _, rfl⟩
  refine Calls.call_function_entry kind_sorted plain_sorted entry_sorted (args_sorted1 _) ?_
  unfold Builtin.«sorted»
  refine wpAny_bind (m := checkCount "sorted" 1 1 _) (wpAny_pure ?_)
  refine wpAny_bind (collect_list hl' (wpAny_bind (wpAny_newList ?_)))
  have z0 : ((s.heap.push (seqObj "list" #[] 0)).update s.heap.objs.size (Obj.mapSeq (· ++ [v].toArray))).objs.size = s.heap.objs.size + 1 := by rw [Heap.size_update, size_push']
  have z1 : (((s.heap.push (seqObj "list" #[] 0)).update s.heap.objs.size (Obj.mapSeq (· ++ [v].toArray))).push (seqObj "list" #[v] 0)).get? (s.heap.objs.size + 1) = some (seqObj "list" #[v] 0) := by
    rw [← z0]; exact Heap.get?_push_size _ rfl
  show wpAny _ _ _ _ _ { s with heap := ((s.heap.push (seqObj "list" #[] 0)).update s.heap.objs.size (Obj.mapSeq (· ++ [v].toArray))).push (seqObj "list" #[v] 0) }
  rw [z0]
  refine wpAny_bind (wpAny_holding (wpAny_call_entry slot_list_sort ⟨_, z1, rfl⟩ entry_list_sort (sort_one z1 ⟨_, rfl, ?_⟩) (args_list_sort _)))
  refine wpAny_pure ⟨_, rfl, ?_⟩
  obtain ⟨e, he⟩ := sortedAll_at s.heap [v] #[v]
  exact h _ _ e (F.kept fun _ _ => sortedAll_old) (N.kept_cons F (fun _ _ => sortedAll_old) (Nat.le_succ _) he) fun q hq => Nat.ne_of_lt (Nat.lt_succ_of_lt (Heap.lt_size (N q hq).1))
theorem sorted_tups {R : Addr} {vs : List Value} {OL : List (List Fld)} {Q : Value → Shared → Prop} (F : Fr h₀ L s.heap m) (N : News h₀ L s.heap K) (hl : (R, lst vs) ∈ K) (hP : Paired (TupOf (inL K) (inL K)) vs OL)
    (h1 : 1 ≤ OL.length) (h4 : OL.length ≤ 4) (hg : ∀ fs ∈ OL, Good fs) (hu : A.units + 64 < cLine)
    (h : ∀ (h' : Heap) (tk : Nat) (D : Addr) (vs' : List Value) (OL' : List (List Fld)) (e : Nat), Fr h₀ L h' m → News h₀ L h' ((D, listOf vs'.toArray e) :: K) → (∀ q ∈ K, q.1 ≠ D) →
      Paired (TupOf (inL K) (inL K)) vs' OL' → OL'.Perm OL → sortedS (OL'.map textOf) = true → Q (.ref D) { s with heap := h', toks := tk }) :
    wpAny (model prog w) A (call (.builtin "sorted") [.ref R]) Q E s := by
  by_cases h2 : 2 ≤ OL.length
  · exact sorted_tups2 F N hl hP h2 h4 hg hu h
  · cases hP with
    | nil => simp at h1
    | cons a t =>
      cases t with
      | nil =>
        refine sorted_one F N hl fun h' D e F' N' hD => ?_
        exact h h' s.toks D [_] [_] e F' N' hD (.cons a .nil) (List.Perm.refl _) rfl
      | cons b t => simp at h2
end
end Mine
end

-- part Fx
section
open PySem PySem.W PySem.Spec PySem.Calls PyProof.Rows PyProof.Rows.LCg
set_option maxRecDepth 100000
namespace Mine
section
variable {prog : Program} {w : World} {A : Around} {E : Value → Shared → Prop} {s : Shared} {R : Result → Shared → Prop}
theorem for_loopX {h₀ : Heap} {env : Env} {target iter : Expr} {body : List Stmt} {pos : Pos} {Q : Flow → Shared → Prop}
    (h : wpAny (model prog w) A (eval iter env) (fun xv s₁ => ∃ (J : Nat → (Str → Option Value) → Led → Prop), ∃ n P G sup m news base, SrcS prog w A xv s₁ n P G sup ∧ Fr h₀ env.locals s₁.heap m ∧ News h₀ env.locals s₁.heap news ∧ J 0 m news ∧
        (∀ p ∈ base, p ∈ news) ∧ (∀ b ∈ sup, (∃ o, h₀.get? b = some o) ∨ ∃ o, (b, o) ∈ base) ∧
        (∀ i v m₁ news₁ h tk I oI, i < n → P i v → J i m₁ news₁ → Fr h₀ env.locals h m₁ → News h₀ env.locals h ((I, oI) :: news₁) → (∀ p ∈ news₁, p.1 ≠ I) → (∀ p ∈ base, p ∈ news₁) → G I h →
          FTurn prog w A target body env I v (LEnd h₀ env.locals I oI s₁ base (J (i + 1)) Q) { s₁ with heap := h, toks := tk }) ∧
        (∀ h' tk m' news', Fr h₀ env.locals h' m' → News h₀ env.locals h' news' → (∀ p ∈ base, p ∈ news') → J n m' news' → Q .next { s₁ with heap := h', toks := tk })) E s)
    (hs : ∀ x, foldedSetIterable iter env x = pure x := by intro _; rfl) :
    wpAny (model prog w) A (exec (.For target iter body [] pos) env) Q E s := by
  refine wpAny_For (wpAny_mono h (fun xv s₁ h₁ => ?_) fun _ _ e => e) hs
  obtain ⟨J, n, P, G, sup, m, news, base, src, F, N, hJ, hb, hsup, turn, done⟩ := h₁
  refine src _ _ fun fp St oI W hst hoI hfp hG hIo => ?_
  generalize hI : s₁.heap.objs.size = I at *
  have up : ∀ b o, s₁.heap.get? b = some o → (s₁.heap.push oI).get? b = some o := fun b o e => Heap.get?_push_of_some _ e
  have hIL : I ≠ env.locals := by
    have := F.ns.lt
    rw [hI] at this
    exact Nat.ne_of_gt this
  have fresh : s₁.heap.get? I = none := by
    cases e : s₁.heap.get? I with
    | none => rfl
    | some o' => exact absurd (Heap.lt_size e) (by rw [hI]; exact Nat.lt_irrefl _)
  have hI₀ : h₀.get? I = none := by
    cases e : h₀.get? I with
    | none => rfl
    | some o' => have := F.keep _ _ e; rw [fresh] at this; cases this
  have hIat : (s₁.heap.push oI).get? I = some oI := by rw [← hI]; exact Heap.get?_push_size _ hoI
  have stf : ∀ i h h' oI' (news₁ news₂ : Led) m₁ m₂, St i h → Fr h₀ env.locals h m₁ → Fr h₀ env.locals h' m₂ → News h₀ env.locals h ((I, oI') :: news₁) → News h₀ env.locals h' ((I, oI') :: news₂) → (∀ p ∈ base, p ∈ news₁) → (∀ p ∈ base, p ∈ news₂) → St i h' := fun i h h' oI' news₁ news₂ m₁ m₂ st F₁ F₂ N₁ N₂ b₁ b₂ =>
    W.frame i h h' st fun b hbf o eo => by
      rcases hfp b hbf with rfl | hbs
      · rw [(N₁ _ (.head _)).1] at eo; cases eo; exact (N₂ _ (.head _)).1
      · rcases hsup b hbs with ⟨o', e'⟩ | ⟨o', m'⟩
        · rw [F₁.keep _ _ e'] at eo; cases eo; exact F₂.keep _ _ e'
        · rw [(N₁ _ (.tail _ (b₁ _ m'))).1] at eo; cases eo; exact (N₂ _ (.tail _ (b₂ _ m'))).1
  have loop : codeAny (model prog w) A (.forLoop target (.ref I) body [] env) (fun r s' => match r with | .ok f => Q f s' | .error e => cameBackBy (model prog w) A env E e s') { s₁ with heap := s₁.heap.push oI } := by
    refine forLoop_any (fun k s' => ∃ h' tk i m' news' oI', s' = { s₁ with heap := h', toks := tk } ∧ i ≤ n ∧ k = n + 1 - i ∧ St i h' ∧ Fr h₀ env.locals h' m' ∧ News h₀ env.locals h' ((I, oI') :: news') ∧ (∀ p ∈ news', p.1 ≠ I) ∧ (∀ p ∈ base, p ∈ news') ∧ J i m' news') ?_ (n + 1)
      ⟨_, s₁.toks, 0, m, news, oI, rfl, Nat.zero_le _, rfl, hst, F.push _, ?_, ?_, hb, hJ⟩
    · rintro k s' ⟨h', tk, i, m', news', oI', rfl, hi, rfl, hst', F', N', off', hb', hJ'⟩
      have moved : ∀ h₂, (∀ b o, b ∉ [I] → h'.get? b = some o → h₂.get? b = some o) → Fr h₀ env.locals h₂ m' ∧ News h₀ env.locals h₂ news' := fun h₂ hk =>
        ⟨fr_but F' hk (Ne.symm hIL) hI₀, news_but (fun p hp => N' p (.tail _ hp)) hk off'⟩
      by_cases hlt : i < n
      · refine W.item i _ _ _ hlt hst' fun v h₂ tk₂ hPv hst₂ hk₂ => ?_
        obtain ⟨F₂, N₂⟩ := moved h₂ hk₂
        obtain ⟨oI₂, hI₂⟩ := hIo _ _ hst₂
        have N₂' : News h₀ env.locals h₂ ((I, oI₂) :: news') := fun p hp => by
          rcases List.mem_cons.mp hp with rfl | hp
          · exact ⟨hI₂, hIL, hI₀⟩
          · exact N₂ p hp
        refine wpAny_mono (turn i v m' news' h₂ tk₂ I oI₂ hlt hPv hJ' F₂ N₂' off' hb' (hG _ _ hst₂)) (fun _ s₀ h₀' => ?_) fun _ _ e => e
        refine wpAny_mono h₀' (fun _ s₂' h₂' => ?_) fun _ _ e => e
        refine wpAny_mono h₂' (fun f s₃ h₃ => ?_) fun _ _ e => e
        have fin : (∃ h' tk m₂ news₂, s₃ = { s₁ with heap := h', toks := tk } ∧ Fr h₀ env.locals h' m₂ ∧ News h₀ env.locals h' ((I, oI₂) :: news₂) ∧ (∀ p ∈ news₂, p.1 ≠ I) ∧ (∀ p ∈ base, p ∈ news₂) ∧ J (i + 1) m₂ news₂) →
            ∃ m, m < n + 1 - i ∧ ∃ h' tk i m' news' oI', s₃ = { s₁ with heap := h', toks := tk } ∧ i ≤ n ∧ m = n + 1 - i ∧ St i h' ∧ Fr h₀ env.locals h' m' ∧ News h₀ env.locals h' ((I, oI') :: news') ∧ (∀ p ∈ news', p.1 ≠ I) ∧ (∀ p ∈ base, p ∈ news') ∧ J i m' news' := by
          rintro ⟨h₄, tk₄, m₄, news₄, rfl, F₄, N₄, off₄, hb₄, hJ₄⟩
          exact ⟨n + 1 - (i + 1), by omega, h₄, tk₄, i + 1, m₄, news₄, oI₂, rfl, hlt, rfl, stf _ _ _ _ _ _ _ _ hst₂ F₂ F₄ N₂' N₄ hb' hb₄, F₄, N₄, off₄, hb₄, hJ₄⟩
        cases f with
        | next => exact fin h₃
        | cont => exact fin h₃
        | brk => exact h₃
        | ret v => exact h₃
      · obtain rfl : i = n := Nat.le_antisymm hi (Nat.not_lt.mp hlt)
        refine W.done _ _ _ hst' fun h₂ tk₂ hk₂ => ?_
        obtain ⟨F₂, N₂⟩ := moved h₂ hk₂
        exact done h₂ tk₂ m' news' F₂ N₂ hb' hJ'
    · intro p hp
      rcases List.mem_cons.mp hp with rfl | hp
      · exact ⟨hIat, hIL, hI₀⟩
      · exact ⟨up _ _ (N p hp).1, (N p hp).2⟩
    · intro p hp e
      have := (N p hp).1
      rw [e, fresh] at this; cases this
  exact loop
end
def BestL (st : Option (Str × Int)) (v : Value) : Prop := ∃ t, v = .int (match st with | none => 0 | some q => q.2) t
theorem str_ne {x : Str} (h : (x != Str.ofString "") = true) : x.length ≠ 0 := fun e => by
  have : x = Str.ofString "" := by
    obtain ⟨⟨l⟩⟩ := x
    have : l = [] := List.length_eq_zero_iff.mp e
    rw [this]; rfl
  rw [this] at h; exact absurd h (by decide)
theorem str_eq {x : Str} (h : (x != Str.ofString "") = false) : x.length = 0 := by
  have : x = Str.ofString "" := by simpa using h
  rw [this]; decide
theorem ls_skip {RD : List Fld} {b : Bool} {st : Option (Str × Int)} {fs : List Fld} (h : (textOf fs != Str.ofString "") = false) : lawStep RD b st fs = st := by
  unfold lawStep
  split
  · rfl
  · rw [if_pos (str_eq h)]
theorem ls_go {RD : List Fld} {b : Bool} {st : Option (Str × Int)} {fs : List Fld} {d : Int} (h : (textOf fs != Str.ofString "") = true) (hd : distL RD fs b (signs (Str.ofString "yMdHkKhmzvabB")) 0 = some d) : lawStep RD b st fs = msStep st (textOf fs) d := by
  unfold lawStep
  rw [hd]
  exact if_neg (str_ne h)
theorem oldK_of {P : Params} {h₁ h h' : Heap} (X : (hd.heap_39 P).In h₁) (Z : h₁.get? 70 = some tab0) (k : ∀ b o, h₁.get? b = some o → h.get? b = some o) (hold : OldK h h') (hkeep : ∀ b o, b ≠ 70 → h.get? b = some o → h'.get? b = some o) : OldK h₁ h' := by
  refine ⟨fun b o e => ?_, fun b o e => hold.there b o (k b o e)⟩
  by_cases hb : b = 70
  · subst hb
    have T := (based0 X Z).tab.isCodeTable
    rcases hold.old 70 o (k _ _ e) with x | ⟨t, hc, vs, more, hv, x⟩ | ⟨q, _⟩
    · exact .inl x
    · exact .inr (.inl ⟨T, hc, vs, more, hv, x⟩)
    · exact absurd q (by decide)
  · exact .inl (hkeep b o hb (k b o e))
theorem isTup_of {h₀ h : Heap} {L a : Addr} {K : Led} {its : Array Value} {n : Nat} (N : News h₀ L h K) (hm : (a, tupO its n) ∈ K) : IsTup h a its := ⟨_, (N (a, tupO its n) hm).1, rfl, n, rfl⟩
end Mine
end

-- part L3
section
local macro_rules | `(tactic| walk_at "idle 0") => `(tactic| skip)
theorem Mine.off_L3 : True := by w_top off; trivial
open PySem PySem.W PySem.Spec PySem.Calls PyProof.Rows PyProof.Rows.LCg
set_option maxRecDepth 100000
namespace Mine
theorem fill8 : (PySem.Challenge.rw_ey0011_01 = PySem.Challenge.rw_ey0011_01) ∧ hd.heap_39 = hd.heap_39 := by
  k_fill
  exact ⟨rfl, rfl⟩
theorem lookup_append {α : Type} {a : Nat} {o : α} : ∀ {l r : List (Nat × α)}, l.lookup a = some o → (l ++ r).lookup a = some o
  | [], _, e => by cases e
  | (b, x) :: l, r, e => by
    simp only [List.lookup, List.cons_append] at e ⊢
    split at e
    · exact e
    · exact lookup_append e
theorem k2_in {P : Params} {h : Heap} (x : (K2 P).In h) : (hd.heap_39 P).In h := fun a o e => x a o (lookup_append e)
theorem k2_tab {P : Params} {h : Heap} (x : (K2 P).In h) : h.get? 70 = some tab0 := x 70 tab0 rfl
local macro_rules | `(tactic| walk_at "go") => `(tactic| repeat' ((fail_if_success (with_reducible show Exists _)); (fail_if_success (with_reducible show wpAny _ _ (eval (PySem.Expr.Dict _ _ _) _) _ _ _)); (fail_if_success (with_reducible show wpAny _ _ (call (Value.builtin "str.join") _) _ _ _)); (fail_if_success (with_reducible show wpAny _ _ (eval (PySem.Expr.ListComp _ _ _ _) _) _ _ _)); (fail_if_success (with_reducible show wpAny _ _ (exec (PySem.Stmt.Assign _ (PySem.Expr.ListComp _ _ _ _) _) _) _ _ _)); (fail_if_success (with_reducible show wpAny _ _ (call (Value.type "dict") _ _) _ _ _)); (fail_if_success (with_reducible show wpAny _ _ (call (Value.ref _) _ _) _ _ _)); (fail_if_success (with_reducible show wpAny _ _ (call (Value.builtin "sorted") _) _ _ _)); (fail_if_success (with_reducible show wpAny _ _ (exec (PySem.Stmt.For _ _ _ _ _) _) _ _ _)); (first | (k_unfold; (try dsimp only)) | (k_end; wrow_close) | walk1 | (dsimp only; walk1) | (leave1; walk_say "STEP leave1"; try dsimp only))))
local macro_rules | `(tactic| walk_at "go2") => `(tactic| repeat' ((fail_if_success (with_reducible show wpAny _ _ (call (Value.builtin "str.join") _) _ _ _)); (fail_if_success (with_reducible show wpAny _ _ (eval (PySem.Expr.ListComp _ _ _ _) _) _ _ _)); (fail_if_success (with_reducible show wpAny _ _ (exec (PySem.Stmt.Assign _ (PySem.Expr.ListComp _ _ _ _) _) _) _ _ _)); (fail_if_success (with_reducible show wpAny _ _ (call (Value.type "dict") _ _) _ _ _)); (fail_if_success (with_reducible show wpAny _ _ (call (Value.ref _) _ _) _ _ _)); (fail_if_success (with_reducible show wpAny _ _ (call (Value.builtin "sorted") _) _ _ _)); (fail_if_success (with_reducible show wpAny _ _ (exec (PySem.Stmt.For _ _ _ _ _) _) _ _ _)); (first | (k_unfold; (try dsimp only)) | (k_end; wrow_close) | walk1 | (dsimp only; walk1) | (leave1; walk_say "STEP leave1"; try dsimp only))))
local macro_rules | `(tactic| k_ne) => `(tactic| first | (show _ ≠ _; first | assumption | exact Ne.symm (by assumption)) | (refine neN ?_; (try dsimp only); omega))
local macro_rules | `(tactic| k_all) => `(tactic| first | assumption | exact List.forall_mem_nil _ | (refine' all_cons ?a ?b; (case a => k_ne); (case b => k_all)))
local macro_rules | `(tactic| k_upd) => `(tactic| first | (refine' Upd.head ?a; (case a => k_all)) | (refine' Upd.tail ?a ?b; (case a => k_ne); (case b => k_upd)))
local macro_rules | `(tactic| k_mem) => `(tactic| first | assumption | exact List.Mem.head _ | (refine' List.Mem.tail _ ?_; k_mem))

local macro_rules | `(tactic| walk_at "eval Name") => `(tactic| (k_here; (with_reducible rename News _ _ _ _ => N9); k_dflt (refine' ldCN N9 ?a ?b ?c ?_; (case a => rfl); (case b => k_mem); (case c => assumption))))
local macro_rules | `(tactic| walk_at "eval Name") => `(tactic| (k_here; (with_reducible rename Fr _ _ _ _ => F9); k_dflt (refine' ldLoc F9 ?v ?_; (case v => assumption))))
local macro_rules | `(tactic| walk_at "eval Name") => `(tactic| (k_here; (with_reducible rename Fr _ _ _ _ => F9); first
  | k_dflt (refine' ldc F9 ?v ?_; (case v => first | assumption | rfl))
  | k_dflt (refine' ldg F9 ?x ?t ?e ?_; (case x => assumption); (case t => assumption); (case e => k_is))
  | k_dflt (refine' ldCellK ?c ?v ?_; (case c => rfl); (case v => assumption))))
section
variable {α : Type} {M : Model} {A : Around} {s : Shared} {t : Sem α} {P : Led → α → Prop} {h₀ : Heap} {L : Addr} {m : Str → Option Value} {K : Led} {Q : α → Shared → Prop} {E : Value → Shared → Prop}
theorem use_drop (G : Gives M A s t P) (F : Fr h₀ L s.heap m) (N : News h₀ L s.heap K) (h : ∀ v h' tk tl, Fr h₀ L h' m → News h₀ L h' K → P tl v → Q v { s with heap := h', toks := tk }) : wpAny M A t Q E s :=
  G Q E fun v h' tk tl hm hp => h v h' tk tl (hm.fr F) (fun p hq => ⟨hm.keep _ _ (N p hq).1, (N p hq).2⟩) hp
theorem use_add (G : Gives M A s t P) (F : Fr h₀ L s.heap m) (N : News h₀ L s.heap K) (h : ∀ v h' tk tl K', Fr h₀ L h' m → News h₀ L h' K' → (∀ p ∈ K, p ∈ K') → (∀ p ∈ tl, p ∈ K') → P tl v → Q v { s with heap := h', toks := tk }) : wpAny M A t Q E s :=
  G Q E fun v h' tk tl hm hp => h v h' tk tl (tl ++ K) (hm.fr F) (hm.news F N) (fun _ hq => List.mem_append_right _ hq) (fun _ hq => List.mem_append_left _ hq) hp
end
theorem small_r : ∀ c : Nat, c < 4 → Builtin.Range.small 0 (1 + (c : Int)) 1 = true := by decide
theorem size_r : ∀ c : Nat, c < 4 → Builtin.Range.rangeSize 0 (1 + (c : Int)) 1 = ((1 + c : Nat) : Int) := by decide
theorem isL {h₀ h : Heap} {L D : Addr} {K : Led} {ys : List Value} (N : News h₀ L h K) (hm : (D, lst ys) ∈ K) : h.IsList D ys.toArray := ⟨_, (N (D, lst ys) hm).1, rfl, _, rfl⟩
theorem lkeep {h h' : Heap} {l : Addr} {its : Array Value} (x : h.IsList l its) (k : ∀ b o, h.get? b = some o → h'.get? b = some o) : h'.IsList l its := let ⟨o, e, c, d⟩ := x; ⟨o, k _ _ e, c, d⟩

set_option maxHeartbeats 8000000 in
theorem law_holds : PySem.Challenge.rw_ey0011_01.Holds := by
  refine hd2 ?_
  intro w s₀ s₁ mg mb G Y fa o pm cd doc dV kV ho hd hcd hD hmg hg args vals as hpre hlay hrd hwl hlo
  have Y2 := kIn_of Y
  have KX := k2_in Y2
  have Z := k2_tab Y2
  clear Y Y2
  lge_behind G ho hd hcd hD hmg hpre hlay hrd hwl hlo cd
  all_goals (with_reducible rename LGe.Mark => lgeM; clear lgeM)
  (all_goals try k_fold)
  with_reducible rename Top _ _ _ _ _ _ => T
  with_reducible rename BMod _ _ _ _ _ => M
  with_reducible rename Fr _ _ _ _ => F
  with_reducible rename News _ _ _ _ => N
  with_reducible rename IntsAre _ _ => hI
  rename Heap.IsList _ _ _ => hL
  rename (_ = Data.cell _) => hcl
  rename (¬ _ < _) => hcond
  with_reducible rename CellsAre _ _ _ => X0
  clear X0
  rename Obj => oc
  rename List Int => ns
  rename List Value => vs
  obtain ⟨l, hcl, hL⟩ : ∃ l, oc.data = .cell (some (.ref l)) ∧ s₁.heap.IsList l vs.toArray := ⟨_, hcl, hL⟩
  have hlen : ns.length < 2 ^ 62 := by have : ¬ (63 : Int) < (ns.length : Int) := hcond; omega
  obtain ⟨m, F⟩ : ∃ m, Fr s₁.heap s₁.heap.objs.size _ m := ⟨_, F⟩
  clear hcond ho hD hcd G
  obtain ⟨K, N, hc⟩ : ∃ K, News s₁.heap s₁.heap.objs.size _ K ∧ (s₁.heap.objs.size + 1, oc) ∈ K := ⟨_, N, .head _⟩
  walk_at "go"
  with_reducible rename Fr _ _ _ _ => F₁
  with_reducible rename News _ _ _ _ => N₁
  refine use_drop (cell_spec ⟨KX.keeps F₁.keep, T.keeps F₁.keep, rfl⟩ (by simp only [depth_deeper, depth_caller]; decide) (Nat.le_of_ble_eq_true rfl) (lkeep hL F₁.keep) hI hlen (by decide) (by decide)) F₁ N₁ ?_
  rintro _ h₂ tk₂ - F₂ N₂ ⟨u₂, rfl⟩
  clear F₁ N₁
  walk_at "go"
  with_reducible rename Fr _ _ _ _ => F₁
  with_reducible rename News _ _ _ _ => N₁
  refine use_add (fields_spec ⟨KX.keeps F₁.keep, T.keeps F₁.keep, rfl⟩ (by simp only [depth_deeper, depth_caller]; decide) (Nat.le_of_ble_eq_true rfl) (cellv_nonneg (by decide))) F₁ N₁ ?_
  intro one h₃ tk₃ tl₃ K₃ F₃ N₃ up₃ in₃ P₁
  replace hc := up₃ _ hc
  replace P₁ := P₁.mono (inL_mono in₃)
  clear F₁ N₁ up₃ in₃
  walk_at "go"
  with_reducible rename Fr _ _ _ _ => F₁
  with_reducible rename News _ _ _ _ => N₁
  refine use_drop (cell_spec ⟨KX.keeps F₁.keep, T.keeps F₁.keep, rfl⟩ (by simp only [depth_deeper, depth_caller]; decide) (Nat.le_of_ble_eq_true rfl) (lkeep hL F₁.keep) hI hlen (by decide) (by decide)) F₁ N₁ ?_
  rintro _ h₄ tk₄ - F₄ N₄ ⟨u₄, rfl⟩
  clear F₁ N₁
  walk_at "go"
  have icell : ∀ {h : Heap} {L : Addr} {K : Led}, News s₁.heap L h K → (s₁.heap.objs.size + 1, oc) ∈ K → h.IsCell (s₁.heap.objs.size + 1) (some (.ref l)) := fun N hm => ⟨oc, (N _ hm).1, hcl⟩
  refine comp_assign (h₀ := s₁.heap) (cl := [(Str.ofString "script", s₁.heap.objs.size + 1)]) (by with_unfolding_all rfl) rfl (by decide) rfl (by decide) rfl rfl ?_
  walk_at "go"
  with_reducible rename Fr _ _ _ _ => F₁
  with_reducible rename News _ _ _ _ => N₁
  refine use_drop (cell_spec ⟨KX.keeps F₁.keep, T.keeps F₁.keep, rfl⟩ (by simp only [depth_deeper, depth_caller]; decide) (Nat.le_of_ble_eq_true rfl) (lkeep hL F₁.keep) hI hlen (by decide) (by decide)) F₁ N₁ ?_
  rintro _ h₅ tk₅ - F₅ N₅ ⟨u₅, rfl⟩
  clear F₁ N₁
  have b5 := fmod_b (cellv ns 2) (b := 4) (by decide)
  walk_at "go"
  with_reducible rename IsRange _ _ _ _ _ _ _ _ => R₆
  with_reducible rename Fr _ _ _ _ => F₆
  with_reducible rename News _ _ _ _ => N₆
  obtain ⟨c2, hc2, hc4⟩ : ∃ c2 : Nat, (cellv ns 2).fmod 4 = (c2 : Int) ∧ c2 < 4 := ⟨((cellv ns 2).fmod 4).toNat, by omega, by omega⟩
  rw [hc2] at R₆
  obtain ⟨K₆, N₆, hc, P₁⟩ : ∃ K₆, News s₁.heap s₁.heap.objs.size _ K₆ ∧ (s₁.heap.objs.size + 1, oc) ∈ K₆ ∧ IsPairs (inL K₆) one (fieldsOf (cellv ns 0)) := ⟨_, N₆, .tail _ hc, P₁.mono (inL_mono fun p hp => .tail _ hp)⟩
  obtain ⟨m₆, F₆, e1, e2⟩ : ∃ m₆, Fr s₁.heap s₁.heap.objs.size _ m₆ ∧ m₆ (Str.ofString "one") = some one ∧ m₆ (Str.ofString "is_let") = some (.bool ((cellv ns 1).fmod 2 == 1)) := ⟨_, F₆, rfl, rfl⟩
  refine ⟨1 + c2, _, _, fun i ys tl => Paired (IsPairs (inL tl)) ys ((List.range i).map fun (k : Nat) => fieldsOf (cellv ns (3 + (k : Int)))), m₆, K₆, ?_, Src.range rfl R₆ ?_ ?_, F₆, N₆, .nil, ?_, ?_⟩
  · rw [sizeLine_eq]; omega
  · exact small_r c2 hc4
  · exact size_r c2 hc4
  · have KX₆ := KX.keeps F₆.keep
    have T₆ := T.keeps F₆.keep
    have c₆ := icell N₆ hc
    have L₆ := lkeep hL F₆.keep
    rintro C I D i v ys tl h tk m₁ oI hi ⟨t, rfl⟩ hJ FC NC hID off -
    refine CTurn.name rfl rfl FC NC fun h' tk' F' N' => ?_
    have cc : h'.IsCell (s₁.heap.objs.size + 1) (some (.ref l)) := let ⟨o, e, d⟩ := c₆; ⟨o, F'.keep _ _ e, d⟩
    clear F₆ N₆ R₆ FC NC
    walk_at "go"
    with_reducible rename Fr _ _ _ _ => F₁
    with_reducible rename News _ _ _ _ => N₁
    refine use_drop (cell_spec ⟨KX₆.keeps F₁.keep, T₆.keeps F₁.keep, rfl⟩ (by simp only [depth_deeper, depth_caller]; decide) (Nat.le_of_ble_eq_true rfl) (lkeep L₆ F₁.keep) hI hlen (by omega) (by omega)) F₁ N₁ ?_
    rintro _ h₈ tk₈ - F₈ N₈ ⟨u₈, rfl⟩
    clear F₁ N₁
    walk_at "go"
    with_reducible rename Fr _ _ _ _ => F₁
    with_reducible rename News _ _ _ _ => N₁
    refine Gives.use (fields_spec ⟨KX₆.keeps F₁.keep, T₆.keeps F₁.keep, rfl⟩ (by simp only [depth_deeper, depth_caller]; decide) (Nat.le_of_ble_eq_true rfl) (cellv_nonneg (by omega))) F₁ N₁ ?_
    intro v₉ h₉ tk₉ tl₉ F₉ N₉ ap₉ P₉
    clear F₁ N₁
    (try dsimp only)
    refine TEnd.intro (tl₉ ++ tl) F₉ N₉ (fun p hp => ?_) (fun p hp => ?_) ?_
    · rcases List.mem_cons.mp hp with rfl | hp
      · exact List.mem_append_right _ (.head _)
      rcases List.mem_cons.mp hp with rfl | hp
      · exact List.mem_append_right _ (.tail _ (.head _))
      rcases List.mem_append.mp hp with hp | hp
      · exact List.mem_append_left _ hp
      · exact List.mem_append_right _ (.tail _ (.tail _ hp))
    · rcases List.mem_append.mp hp with hp | hp
      · exact ⟨Ne.symm (ap₉ p hp _ (.head _)), Ne.symm (ap₉ p hp _ (.tail _ (.head _)))⟩
      · exact off p hp
    · rw [List.range_succ, List.map_append]
      refine Paired.snoc (paired_mono (fun _ _ => IsPairs.mono (inL_mono fun _ q => List.mem_append_right _ q)) hJ) ?_
      have e : (3 : Int) + (0 + (i : Int)) = 3 + (i : Int) := by omega
      rw [e] at P₉
      exact P₉.mono (inL_mono fun _ q => List.mem_append_left _ q)
  · intro h' tk D ys tl F N hJ
    obtain ⟨K₇, N, hc, P₁, hO, hD⟩ : ∃ K₇, News s₁.heap s₁.heap.objs.size h' K₇ ∧ (s₁.heap.objs.size + 1, oc) ∈ K₇ ∧ IsPairs (inL K₇) one (fieldsOf (cellv ns 0)) ∧ Paired (IsPairs (inL K₇)) ys _ ∧ (D, lst ys) ∈ K₇ :=
      ⟨(D, lst ys) :: tl ++ K₆, N, List.mem_append_right _ hc, P₁.mono (inL_mono fun p hp => List.mem_append_right _ hp), paired_mono (fun _ _ => IsPairs.mono (inL_mono fun _ q => List.mem_append_left _ (.tail _ q))) hJ, .head _⟩
    obtain ⟨OL, hO, hOl, hOg⟩ : ∃ OL : List (List Fld), Paired (IsPairs (inL K₇)) ys OL ∧ OL = ((List.range (1 + c2)).map fun (k : Nat) => fieldsOf (cellv ns (3 + (k : Int)))) ∧ ∀ fs ∈ OL, Good fs := ⟨_, hO, rfl, fun fs hfs => by
      obtain ⟨k, _, rfl⟩ := List.mem_map.mp hfs
      exact good_fields (cellv_nonneg (by omega))⟩
    have hOn : OL.length ≤ 4 := by rw [hOl, List.length_map, List.length_range]; omega
    have hyn : ys.length = OL.length := hO.length
    obtain ⟨m₇, F, e1, e2, e3⟩ : ∃ m₇, Fr s₁.heap s₁.heap.objs.size _ m₇ ∧ m₇ (Str.ofString "one") = some one ∧ m₇ (Str.ofString "is_let") = some (.bool ((cellv ns 1).fmod 2 == 1)) ∧ m₇ (Str.ofString "others") = some (.ref D) := ⟨_, F, e1, e2, rfl⟩
    clear F₆ N₆ R₆ hJ icell
    walk_at "go"
    refine comp (cl := []) (closureFor_none (by decide)) (by decide) rfl (by decide) ?_
    walk_at "go"
    with_reducible rename Fr _ _ _ _ => F₁
    with_reducible rename News _ _ _ _ => N₁
    refine ⟨ys.toArray.size, _, _, fun i zs tl => tl = [] ∧ StrsAre zs ((OL.take i).map textOf), by rw [List.size_toArray, sizeLine_eq]; omega, Src.list rfl (isL N₁ hD), ⟨rfl, .nil⟩, ?_, ?_⟩
    · have KX₇ := KX.keeps F₁.keep
      have T₇ := T.keeps F₁.keep
      rintro C I D' i v zs tl h tk m₁ oI hi hv ⟨rfl, hJ⟩ FC NC hID off -
      obtain ⟨fs, hf, hP⟩ := paired_get hO (i := i) (a := v) (by simpa using hv)
      have hg := hOg fs (List.mem_of_getElem? hf)
      refine CTurn.name rfl rfl FC NC fun h' tk' F' N' => ?_
      have hP' : IsPairs (inH h') v fs := (hP.mono (news_lk N₁)).mono F'.keep
      clear F₁ N₁ FC NC
      walk_at "go"
      with_reducible rename Fr _ _ _ _ => F₁
      with_reducible rename News _ _ _ _ => N₁
      refine use_drop (text_spec ⟨KX₇.keeps F₁.keep, T₇.keeps F₁.keep, rfl⟩ (by simp only [depth_deeper, depth_caller]; decide) hP' (good_small hg)) F₁ N₁ ?_
      rintro _ h₉ tk₉ - F₉ N₉ ⟨u₉, rfl⟩
      refine TEnd.intro [] F₉ N₉ (fun _ hp => hp) off ⟨rfl, ?_⟩
      rw [take_succ_of hf, List.map_append]
      exact strsAre_snoc hJ _ _
    · rintro h' tk D' zs tl M₈ ⟨rfl, hJ⟩
      rw [List.size_toArray, hyn, List.take_length] at hJ
      have F₈ := M₈.fr F₁
      have N₈ : News s₁.heap s₁.heap.objs.size h' ([(D', lst zs)] ++ K₇) := M₈.news F₁ N₁
      clear F₁ N₁
      obtain ⟨K₈, N₈, hc, P₁, hO, hD, hD'⟩ : ∃ K₈, News s₁.heap s₁.heap.objs.size h' K₈ ∧ (s₁.heap.objs.size + 1, oc) ∈ K₈ ∧ IsPairs (inL K₈) one (fieldsOf (cellv ns 0)) ∧ Paired (IsPairs (inL K₈)) ys OL ∧ (D, lst ys) ∈ K₈ ∧ (D', lst zs) ∈ K₈ :=
        ⟨_, N₈, .tail _ hc, P₁.mono (inL_mono fun p hp => .tail _ hp), paired_mono (fun _ _ => IsPairs.mono (inL_mono fun _ q => .tail _ q)) hO, .tail _ hD, .head _⟩
      clear M₈
      walk_at "go"
      with_reducible rename Fr _ _ _ _ => F₁
      with_reducible rename News _ _ _ _ => N₁
      refine join_list (isL N₁ hD') (by simpa using hJ) (by have := texts_sum hOg; have e : (Str.ofString "").length = 0 := (by decide); simp only [List.length_map, e] at *; omega) ?_
      intro tL kL
      walk_at "go"
      with_reducible rename Fr _ _ _ _ => F₁
      with_reducible rename News _ _ _ _ => N₁
      rename (∀ p ∈ K₈, _) => hlt
      obtain ⟨m₉, rd, F₁, N₁, hlt, e1, e2, e3, e4, e5⟩ : ∃ m₉ rd, Fr s₁.heap s₁.heap.objs.size _ m₉ ∧ News s₁.heap s₁.heap.objs.size _ ((rd, listOf #[] 0) :: K₈) ∧ (∀ p ∈ K₈, p.1 ≠ rd) ∧ m₉ (Str.ofString "one") = some one ∧ m₉ (Str.ofString "is_let") = some (.bool ((cellv ns 1).fmod 2 == 1)) ∧ m₉ (Str.ofString "others") = some (.ref D) ∧ m₉ (Str.ofString "letters") = some (.str (Txt.join (Str.ofString "") (OL.map textOf)) tL) ∧ m₉ (Str.ofString "read") = some (.ref rd) := ⟨_, _, F₁, N₁, fun p hp => Nat.ne_of_lt (hlt p hp), e1, e2, e3, rfl, rfl⟩
      have h1g : Good (fieldsOf (cellv ns 0)) := good_fields (cellv_nonneg (by decide))
      generalize hone : fieldsOf (cellv ns 0) = onef at P₁ h1g
      obtain ⟨a₁, its₁, n₁, rfl, ha₁, hP₁⟩ := P₁
      refine for_loop (h₀ := s₁.heap) (fun i m news => m (Str.ofString "is_let") = some (.bool ((cellv ns 1).fmod 2 == 1)) ∧ m (Str.ofString "others") = some (.ref D) ∧ m (Str.ofString "one") = some (.ref a₁) ∧
        m (Str.ofString "letters") = some (.str (Txt.join (Str.ofString "") (OL.map textOf)) tL) ∧ m (Str.ofString "read") = some (.ref rd) ∧
        ∃ its n rest, news = (rd, listOf its n) :: rest ∧ (∀ q ∈ rest, q.1 ≠ rd) ∧ Paired (IsPair (inL rest)) its.toList (readF (Txt.join (Str.ofString "") (OL.map textOf)) (onef.take i)) ∧ its.size ≤ i ∧ ∀ p ∈ K₈, p ∈ rest) ?_
      walk1
      with_reducible rename Fr _ _ _ _ => F₂
      with_reducible rename News _ _ _ _ => N₂
      refine ⟨_, _, _, _, _, _, K₈, SrcS.list rfl ⟨_, (N₂ _ (.tail _ ha₁)).1, rfl, _, rfl⟩, F₂, N₂, ⟨e2, e3, e1, e4, e5, #[], 0, K₈, rfl, hlt, .nil, Nat.zero_le _, (fun p hp => hp)⟩, (fun p hp => .tail _ hp), ?_, ?_, ?_⟩
      · intro q hq
        rw [List.mem_singleton.mp hq]
        exact .inr ⟨_, ha₁⟩
      · rintro i v m₁ news₁ h tk I oI hi hv ⟨j1, j2, j3, j4, j5, its, n, rest, rfl, hap, hPr, hsz, hup⟩ F N off hbase hG
        obtain ⟨⟨c, x⟩, hr, hp'⟩ := paired_get hP₁ (i := i) (a := v) (by simpa using hv)
        obtain ⟨t, u, u', rfl, ht⟩ := (IsPair.mono (lk' := inH h) (fun a o m => (N (a, o) (.tail _ (.tail _ (hup _ m)))).1) hp').tup
        refine FTurn.pair rfl rfl rfl rfl F N hG ht fun h' tk' F' N' => ?_
        have iR : rd ≠ I := off _ (.head _)
        have hsz' : its.size ≤ 7 := by
          have h1 := hP₁.length
          rw [Array.length_toList] at h1
          have h2 := h1g.len
          omega
        have offr : ∀ q ∈ rest, q.1 ≠ I := fun q hq => off q (.tail _ hq)
        obtain ⟨⟨k, hk, hck⟩, hx1, hx5⟩ := h1g.each (c, x) (List.mem_of_getElem? hr)
        obtain rfl : c = ⟨#[k]⟩ := hck
        clear F N F₁ N₁ F₂ N₂ hP₁ ha₁ hbase ht hv
        walk_at "go"
        · with_reducible rename Fr _ _ _ _ => F9
          with_reducible rename News _ _ _ _ => N9
          refine LEnd.nextI F9 (led_perm3 N9) (fun p hp => hp) ?_ (fun p hp => .tail _ (.tail _ (hup p hp))) ⟨j1, j2, j3, j4, j5, _, _, _, rfl, ?_, pr_push hr (step_not (by assumption)) hPr, ?_, (fun p hp => .tail _ (hup p hp))⟩
          · k_all
          · k_all
          · rw [Array.size_push]; omega
        · exact absurd (by assumption : ((⟨#[k]⟩ : Str) != Str.ofString "") = false) (by simpa using one_ne)
        · have h5 := five (k := k) (by assumption)
          rcases h5 with rfl | rfl | rfl | rfl | rfl
          all_goals walk_at "go2"
          · with_reducible rename Fr _ _ _ _ => F9
            with_reducible rename News _ _ _ _ => N9
            refine LEnd.nextI F9 (led_perm4 N9) (fun p hp => hp) ?_ (fun p hp => .tail _ (.tail _ (.tail _ (hup p hp)))) ⟨j1, j2, j3, j4, j5, _, _, _, rfl, ?_, pr_push hr (step_z (by assumption)) (pr_up hPr), ?_, (fun p hp => .tail _ (.tail _ (hup p hp)))⟩
            · k_all
            · k_all
            · rw [Array.size_push]; omega
          · with_reducible rename Fr _ _ _ _ => F9
            with_reducible rename News _ _ _ _ => N9
            refine LEnd.nextI F9 (led_perm4 N9) (fun p hp => hp) ?_ (fun p hp => .tail _ (.tail _ (.tail _ (hup p hp)))) ⟨j1, j2, j3, j4, j5, _, _, _, rfl, ?_, pr_push hr (step_k (by assumption)) (pr_up hPr), ?_, (fun p hp => .tail _ (.tail _ (hup p hp)))⟩
            · k_all
            · k_all
            · rw [Array.size_push]; omega
          · with_reducible rename Fr _ _ _ _ => F9
            with_reducible rename News _ _ _ _ => N9
            refine LEnd.nextI F9 (led_perm4 N9) (fun p hp => hp) ?_ (fun p hp => .tail _ (.tail _ (.tail _ (hup p hp)))) ⟨j1, j2, j3, j4, j5, _, _, _, rfl, ?_, pr_push hr (step_K (by assumption)) (pr_up hPr), ?_, (fun p hp => .tail _ (.tail _ (hup p hp)))⟩
            · k_all
            · k_all
            · rw [Array.size_push]; omega
          · with_reducible rename Fr _ _ _ _ => F9
            with_reducible rename News _ _ _ _ => N9
            refine LEnd.nextI F9 (led_perm3 N9) (fun p hp => hp) ?_ (fun p hp => .tail _ (.tail _ (hup p hp))) ⟨j1, j2, j3, j4, j5, _, _, _, rfl, ?_, pr_none hr (step_a (by assumption)) (pr_up hPr), Nat.le_succ_of_le hsz, (fun p hp => .tail _ (hup p hp))⟩
            · k_all
            · k_all
          · with_reducible rename Fr _ _ _ _ => F9
            with_reducible rename News _ _ _ _ => N9
            refine LEnd.nextI F9 (led_perm3 N9) (fun p hp => hp) ?_ (fun p hp => .tail _ (.tail _ (hup p hp))) ⟨j1, j2, j3, j4, j5, _, _, _, rfl, ?_, pr_none hr (step_b (by assumption)) (pr_up hPr), Nat.le_succ_of_le hsz, (fun p hp => .tail _ (hup p hp))⟩
            · k_all
            · k_all
        · with_reducible rename Fr _ _ _ _ => F9
          with_reducible rename News _ _ _ _ => N9
          refine LEnd.nextI F9 (led_perm3 N9) (fun p hp => hp) ?_ (fun p hp => .tail _ (.tail _ (hup p hp))) ⟨j1, j2, j3, j4, j5, _, _, _, rfl, ?_, pr_push hr (step_in (by assumption)) hPr, ?_, (fun p hp => .tail _ (hup p hp))⟩
          · k_all
          · k_all
          · rw [Array.size_push]; omega
        · exact absurd (by assumption : ((⟨#[k]⟩ : Str) != Str.ofString "") = false) (by simpa using one_ne)
      · rintro h' tk m' news' F N hb ⟨j1, j2, j3, j4, j5, its, n, rest, rfl, hap, hPr, hsz, hup⟩
        have hend : onef.take its₁.size = onef := List.take_of_length_le (by rw [← hP₁.length, Array.length_toList]; exact Nat.le_refl _)
        rw [hend] at hPr
        clear F₁ N₁ F₂ N₂
        dsimp only
        walk_at "go"
        with_reducible rename Fr _ _ _ _ => F₁
        with_reducible rename News _ _ _ _ => N₁
        obtain ⟨RD, hR⟩ : ∃ RD, RD = readF (Txt.join (Str.ofString "") (OL.map textOf)) onef := ⟨_, rfl⟩
        rw [← hR] at hPr
        obtain ⟨mA, KA, tA, F₁, N₁, g1, g2, g3, g4, g5, g6, hO, hD, hRD, ha₁, hP₁⟩ : ∃ mA KA tA, Fr s₁.heap s₁.heap.objs.size _ mA ∧ News s₁.heap s₁.heap.objs.size _ KA ∧ mA (Str.ofString "is_let") = some (.bool ((cellv ns 1).fmod 2 == 1)) ∧ mA (Str.ofString "others") = some (.ref D) ∧
            mA (Str.ofString "one") = some (.ref a₁) ∧ mA (Str.ofString "read") = some (.ref rd) ∧ mA (Str.ofString "best") = some .none ∧ mA (Str.ofString "least") = some (.int 0 tA) ∧ Paired (IsPairs (inL KA)) ys OL ∧ (D, lst ys) ∈ KA ∧
            IsPairs (inL KA) (.ref rd) RD ∧ inL KA a₁ (listOf its₁ n₁) ∧ Paired (IsPair (inL KA)) its₁.toList onef :=
          ⟨_, _, _, F₁, N₁, j1, j2, j3, j5, rfl, rfl, paired_mono (fun _ _ => IsPairs.mono (inL_mono fun p hp => .tail _ (.tail _ (hup p hp)))) hO, .tail _ (.tail _ (hup _ hD)), ⟨rd, its, n, rfl, .tail _ (.head _), paired_mono (fun _ _ => IsPair.mono (inL_mono fun p hp => .tail _ (.tail _ hp))) hPr⟩,
            .tail _ (.tail _ (hup _ ha₁)), paired_mono (fun _ _ => IsPair.mono (inL_mono fun p hp => .tail _ (.tail _ (hup p hp)))) hP₁⟩
        refine for_loopX (h₀ := s₁.heap) ?_
        walk_at "go"
        refine comp (cl := []) (closureFor_none (by decide)) (by decide) rfl (by decide) ?_
        walk_at "go"
        with_reducible rename Fr _ _ _ _ => F₁
        with_reducible rename News _ _ _ _ => N₁
        refine ⟨ys.toArray.size, _, _, fun i zs tl => Paired (TupOf (inL tl) (inL KA)) zs (OL.take i), by rw [List.size_toArray, sizeLine_eq]; omega, Src.list rfl (isL N₁ hD), .nil, ?_, ?_⟩
        · have KX₇ := KX.keeps F₁.keep
          have T₇ := T.keeps F₁.keep
          rintro C I D' i v zs tl h tk m₁ oI hi hv hJ FC NC hID off -
          obtain ⟨fs, hf, hP⟩ := paired_get hO (i := i) (a := v) (by simpa using hv)
          have hg := hOg fs (List.mem_of_getElem? hf)
          refine CTurn.name rfl rfl FC NC fun h' tk' F' N' => ?_
          have hP' : IsPairs (inH h') v fs := (hP.mono (news_lk N₁)).mono F'.keep
          clear F₁ N₁ FC NC
          walk_at "go"
          with_reducible rename Fr _ _ _ _ => F₁
          with_reducible rename News _ _ _ _ => N₁
          refine use_drop (text_spec ⟨KX₇.keeps F₁.keep, T₇.keeps F₁.keep, rfl⟩ (by simp only [depth_deeper, depth_caller]; decide) hP' (good_small hg)) F₁ N₁ ?_
          rintro _ h₉ tk₉ - F₉ N₉ ⟨u₉, rfl⟩
          clear F₁ N₁
          walk_at "go"
          with_reducible rename Fr _ _ _ _ => F₁
          with_reducible rename News _ _ _ _ => N₁
          refine TEnd.intro (_ :: tl) F₁ (led_perm3 N₁) (fun _ hp => hp) ?_ ?_
          · refine List.forall_mem_cons.mpr ⟨⟨?_, ?_⟩, off⟩
            · k_ne
            · k_ne
          · rw [take_succ_of hf]
            exact (paired_mono (fun _ _ => TupOf.mono (inL_mono fun _ q => .tail _ q) (fun _ _ q => q)) hJ).snoc ⟨_, _, _, _, rfl, .head _, hP⟩
        · intro h' tk R vsT tl M₈ hJ
          rw [List.size_toArray, hyn, List.take_length] at hJ
          have F₈ := M₈.fr F₁
          have N₈ : News s₁.heap s₁.heap.objs.size h' ((R, lst vsT) :: tl ++ KA) := M₈.news F₁ N₁
          clear F₁ N₁ M₈
          walk_at "go"
          with_reducible rename Fr _ _ _ _ => F₁
          with_reducible rename News _ _ _ _ => N₁
          refine sorted_tups F₁ N₁ (.head _) (paired_mono (fun _ _ => TupOf.mono (inL_mono fun p hp => .tail _ (List.mem_append_left _ hp)) (inL_mono fun p hp => .tail _ (List.mem_append_right _ hp))) hJ) (by rw [hOl, List.length_map, List.length_range]; omega) hOn hOg (Nat.le_of_ble_eq_true rfl) ?_
          intro h₉ tk₉ DS vs' OL' e F₉ N₉ ap₉ hP₉ hperm hsort
          clear F₁ N₁
          walk_at "go"
          with_reducible rename Fr _ _ _ _ => F₁
          with_reducible rename News _ _ _ _ => N₁
          obtain ⟨KB, N₁, hDS, hP₉, hO, hD, hRD, ha₁, hP₁⟩ : ∃ KB, News s₁.heap s₁.heap.objs.size _ KB ∧ (DS, listOf vs'.toArray e) ∈ KB ∧ Paired (TupOf (inL KB) (inL KB)) vs' OL' ∧ Paired (IsPairs (inL KB)) ys OL ∧ (D, lst ys) ∈ KB ∧
              IsPairs (inL KB) (.ref rd) RD ∧ inL KB a₁ (listOf its₁ n₁) ∧ Paired (IsPair (inL KB)) its₁.toList onef :=
            ⟨_, N₁, .head _, paired_mono (fun _ _ => TupOf.mono (inL_mono fun p hp => .tail _ hp) (inL_mono fun p hp => .tail _ hp)) hP₉, paired_mono (fun _ _ => IsPairs.mono (inL_mono fun p hp => .tail _ (.tail _ (List.mem_append_right _ hp)))) hO,
              .tail _ (.tail _ (List.mem_append_right _ hD)), hRD.mono (inL_mono fun p hp => .tail _ (.tail _ (List.mem_append_right _ hp))), .tail _ (.tail _ (List.mem_append_right _ ha₁)), paired_mono (fun _ _ => IsPair.mono (inL_mono fun p hp => .tail _ (.tail _ (List.mem_append_right _ hp)))) hP₁⟩
          have hRg : Good RD := by rw [hR, ← hone]; exact read_good (cellv_nonneg (by decide))
          have hgO : ∀ fs ∈ OL', Good fs := fun fs hfs => hOg fs (hperm.mem_iff.mp hfs)
          refine ⟨fun i m _ => m (Str.ofString "is_let") = some (.bool ((cellv ns 1).fmod 2 == 1)) ∧ m (Str.ofString "others") = some (.ref D) ∧ m (Str.ofString "one") = some (.ref a₁) ∧ m (Str.ofString "read") = some (.ref rd) ∧
            ∃ st v₁ v₂, m (Str.ofString "best") = some v₁ ∧ m (Str.ofString "least") = some v₂ ∧ BestV st v₁ ∧ BestL st v₂ ∧ st = (OL'.take i).foldl (lawStep RD ((cellv ns 1).fmod 2 == 1)) none,
            _, _, _, [DS], _, _, KB, SrcS.list rfl (isList_of N₁ hDS), F₁, N₁, ⟨g1, g2, g3, g4, none, .none, _, g5, g6, rfl, ⟨_, rfl⟩, rfl⟩, (fun p hp => hp), ?_, ?_, ?_⟩
          · intro q hq
            rw [List.mem_singleton.mp hq]
            exact .inr ⟨_, hDS⟩
          · rintro i v m₁ news₁ h tk I oI hi hv ⟨j1, j2, j3, j4, st, v₁, v₂, j5, j6, hv₁, hv₂, hst⟩ F N off hbase hG
            obtain ⟨fs, hf, a, n, t, d, rfl, ha, hd⟩ := paired_get hP₉ (i := i) (a := v) (by simpa using hv)
            have hg := hgO fs (List.mem_of_getElem? hf)
            have up : ∀ p ∈ KB, p ∈ (I, oI) :: news₁ := fun p hp => .tail _ (hbase p hp)
            refine FTurn.pair rfl rfl rfl rfl F N hG (isTup_of N (up _ ha)) fun h' tk' F' N' => ?_
            have hd' : IsPairs (inH h') d fs := hd.mono fun a o q => (N' (a, o) (up _ q)).1
            have hrd' : IsPairs (inH h') (.ref rd) RD := hRD.mono fun a o q => (N' (a, o) (up _ q)).1
            clear F N F₁ N₁
            walk_at "go"
            with_reducible rename Fr _ _ _ _ => F₁
            with_reducible rename News _ _ _ _ => N₁
            refine use_drop (dist_spec ⟨KX.keeps F₁.keep, T.keeps F₁.keep, rfl⟩ (by simp only [depth_deeper, depth_caller]; decide) hrd' hd' hRg.nd hg.nd (Nat.le_trans hRg.len (by decide)) (Nat.le_trans hg.len (by decide))) F₁ N₁ ?_
            rintro r h₇ tk₇ - F₇ N₇ hr
            clear F₁ N₁
            have htl := textOf_len hg
            have hnext : (OL'.take (i + 1)).foldl (lawStep RD ((cellv ns 1).fmod 2 == 1)) none = lawStep RD ((cellv ns 1).fmod 2 == 1) st fs := by
              rw [take_succ_of hf, List.foldl_append, ← hst]; rfl
            rcases hdl : distL RD fs ((cellv ns 1).fmod 2 == 1) (signs (Str.ofString "yMdHkKhmzvabB")) 0 with _ | dd
            · rw [hdl] at hr
              obtain rfl := hr
              have hst' : lawStep RD ((cellv ns 1).fmod 2 == 1) st fs = st := by unfold lawStep; rw [hdl]
              rw [hst'] at hnext
              walk_at "go"
              all_goals (
                with_reducible rename Fr _ _ _ _ => F9
                with_reducible rename News _ _ _ _ => N9
                exact LEnd.nextI F9 N9 (fun p hp => hp) off hbase ⟨j1, j2, j3, j4, st, v₁, v₂, j5, j6, hv₁, hv₂, hnext.symm⟩)
            · rw [hdl] at hr
              obtain ⟨ud, rfl⟩ := hr
              rcases st with _ | q
              · obtain rfl := hv₁
                obtain ⟨u2, rfl⟩ := hv₂
                walk_at "go"
                · with_reducible rename Fr _ _ _ _ => F9
                  with_reducible rename News _ _ _ _ => N9
                  exact LEnd.nextI F9 N9 (fun p hp => .tail _ hp) off hbase ⟨j1, j2, j3, j4, some (textOf fs, dd), _, _, rfl, rfl, ⟨_, rfl⟩, ⟨_, rfl⟩, (hnext.trans (ls_go (by assumption) hdl)).symm⟩
                · with_reducible rename Fr _ _ _ _ => F9
                  with_reducible rename News _ _ _ _ => N9
                  exact LEnd.nextI F9 N9 (fun p hp => hp) off hbase ⟨j1, j2, j3, j4, none, _, _, j5, j6, rfl, ⟨_, rfl⟩, (hnext.trans (ls_skip (by assumption))).symm⟩
              · obtain ⟨q1, rfl⟩ := hv₁
                obtain ⟨q2, rfl⟩ := hv₂
                walk_at "go"
                · with_reducible rename Fr _ _ _ _ => F9
                  with_reducible rename News _ _ _ _ => N9
                  exact LEnd.nextI F9 N9 (fun p hp => .tail _ hp) off hbase ⟨j1, j2, j3, j4, some (textOf fs, dd), _, _, rfl, rfl, ⟨_, rfl⟩, ⟨_, rfl⟩, (hnext.trans ((ls_go (by assumption) hdl).trans (step_lt (by assumption)))).symm⟩
                · with_reducible rename Fr _ _ _ _ => F9
                  with_reducible rename News _ _ _ _ => N9
                  exact LEnd.nextI F9 N9 (fun p hp => hp) off hbase ⟨j1, j2, j3, j4, some q, _, _, j5, j6, ⟨_, rfl⟩, ⟨_, rfl⟩, (hnext.trans ((ls_go (by assumption) hdl).trans (step_ge (by assumption)))).symm⟩
                · with_reducible rename Fr _ _ _ _ => F9
                  with_reducible rename News _ _ _ _ => N9
                  exact LEnd.nextI F9 N9 (fun p hp => hp) off hbase ⟨j1, j2, j3, j4, some q, _, _, j5, j6, ⟨_, rfl⟩, ⟨_, rfl⟩, (hnext.trans (ls_skip (by assumption))).symm⟩
          · rintro h' tk m' news' F N hb ⟨j1, j2, j3, j4, st, v₁, v₂, j5, j6, hv₁, hv₂, hst⟩
            have hend : OL'.take vs'.toArray.size = OL' := List.take_of_length_le (by rw [List.size_toArray, hP₉.length]; exact Nat.le_refl _)
            rw [hend] at hst
            clear F₁ N₁
            dsimp only
            walk_at "go"
            with_reducible rename Fr _ _ _ _ => F₁
            with_reducible rename News _ _ _ _ => N₁
            obtain ⟨KC, N₁, hO, hD, hP₁⟩ : ∃ KC, News s₁.heap s₁.heap.objs.size _ KC ∧ Paired (IsPairs (inL KC)) ys OL ∧ (D, lst ys) ∈ KC ∧ IsPairs (inL KC) (.ref a₁) onef :=
              ⟨_, N₁, paired_mono (fun _ _ => IsPairs.mono (inL_mono hb)) hO, hb _ hD, a₁, its₁, n₁, rfl, hb _ ha₁, paired_mono (fun _ _ => IsPair.mono (inL_mono hb)) hP₁⟩
            refine use_drop (text_spec ⟨KX.keeps F₁.keep, T.keeps F₁.keep, rfl⟩ (by simp only [depth_deeper, depth_caller]; decide) (hP₁.mono (news_lk N₁)) (good_small h1g)) F₁ N₁ ?_
            rintro _ hA tkA - FA NA ⟨uA, rfl⟩
            clear F₁ N₁
            walk_at "go"
            refine comp (cl := []) (closureFor_none (by decide)) (by decide) rfl (by decide) ?_
            walk_at "go"
            with_reducible rename Fr _ _ _ _ => F₁
            with_reducible rename News _ _ _ _ => N₁
            refine ⟨ys.toArray.size, _, _, fun i zs tl => tl = [] ∧ StrsAre zs ((OL.take i).map textOf), by rw [List.size_toArray, sizeLine_eq]; omega, Src.list rfl (isL N₁ hD), ⟨rfl, .nil⟩, ?_, ?_⟩
            · have KX₇ := KX.keeps F₁.keep
              have T₇ := T.keeps F₁.keep
              rintro C I D' i v zs tl h tk m₁ oI hi hv ⟨rfl, hJ⟩ FC NC hID off -
              obtain ⟨fs, hf, hP⟩ := paired_get hO (i := i) (a := v) (by simpa using hv)
              have hg := hOg fs (List.mem_of_getElem? hf)
              refine CTurn.name rfl rfl FC NC fun h' tk' F' N' => ?_
              have hP' : IsPairs (inH h') v fs := (hP.mono (news_lk N₁)).mono F'.keep
              clear F₁ N₁ FC NC
              walk_at "go"
              with_reducible rename Fr _ _ _ _ => F₁
              with_reducible rename News _ _ _ _ => N₁
              refine use_drop (text_spec ⟨KX₇.keeps F₁.keep, T₇.keeps F₁.keep, rfl⟩ (by simp only [depth_deeper, depth_caller]; decide) hP' (good_small hg)) F₁ N₁ ?_
              rintro _ h₉ tk₉ - F₉ N₉ ⟨u₉, rfl⟩
              refine TEnd.intro [] F₉ N₉ (fun _ hp => hp) off ⟨rfl, ?_⟩
              rw [take_succ_of hf, List.map_append]
              exact strsAre_snoc hJ _ _
            · rintro hB tkB R2 zs2 tl2 MB ⟨rfl, hJ2⟩
              rw [List.size_toArray, hyn, List.take_length] at hJ2
              have FB := MB.fr F₁
              have NB : News s₁.heap s₁.heap.objs.size hB ([(R2, lst zs2)] ++ KC) := MB.news F₁ N₁
              clear F₁ N₁ MB
              walk_at "go"
              with_reducible rename Fr _ _ _ _ => F₁
              with_reducible rename News _ _ _ _ => N₁
              have hone' : onef = fieldsOf (cellv ns 0) := hone.symm
              refine ms_spec (P := fun v => BestV st v) ⟨KX.keeps F₁.keep, topRead_of (T.keeps F₁.keep), rfl⟩ (F₁.keep _ _ Z) (M.keeps F₁.keep) (AllBare.of_eq hg) (by simp only [depth_deeper, depth_caller]; decide) (text_chars h1g) (Nat.le_trans (textOf_len h1g) (by decide))
                (isL N₁ (.head _)) hJ2 (by rw [List.length_map]; exact hOn) ?_ ?_ ?_ ?_ ?_
              · intro y hy
                obtain ⟨fs, hfs, rfl⟩ := List.mem_map.mp hy
                exact ⟨Nat.le_trans (textOf_len (hOg fs hfs)) (by decide), text_chars (hOg fs hfs)⟩
              · intro ss' hp
                rw [hone', sub5_text (cellv_nonneg (by decide)) hp, ← hone', ← hR, toks_text hRg]
                exact ⟨hRg.nd, Nat.le_trans hRg.len (by decide)⟩
              · intro y hy
                obtain ⟨fs, hfs, rfl⟩ := List.mem_map.mp hy
                rw [toks_text (hOg fs hfs)]
                exact ⟨(hOg fs hfs).nd, Nat.le_trans (hOg fs hfs).len (by decide)⟩
              · intro ss' v hp hs hv
                rw [hone', sub5_text (cellv_nonneg (by decide)) hp, ← hone', ← hR, toks_text hRg, loop_eq hRg hOg hp hs hperm hsort, ← hst] at hv
                exact hv
              · rintro v s' ⟨hbv, hold, hkeep, hos, hbare⟩
                have FZ : Fr {} s₁.heap.objs.size s'.heap _ := ⟨(show Heap.Ns _ _ _ from F₁.ns.at fun o e => hkeep _ _ (fun q => by rw [q] at e; have := F₁.keep _ _ Z; rw [this] at e; cases e; obtain ⟨o', _, _, e', d', _⟩ := F₁.ns; rw [q, this] at e'; cases e'; cases d') e), fun b o e => by simp [Heap.get?] at e, Nat.zero_le _⟩
                walk_at "go"
                rcases st with _ | q
                · obtain rfl := hbv
                  obtain rfl := hv₁
                  walk_at "go"
                  refine ⟨.inl ⟨_, .bool true, [], rfl, raisesW_false (by wrow_none_raised), .bool true, postW_of (by wrow_shape) (by wtm_val) (by first | rfl | str_meet), fun _ => ⟨.nil, fun _ hx => nomatch hx⟩⟩, oldK_of KX Z F₁.keep hold hkeep, hos, hbare⟩
                · obtain ⟨t1, rfl⟩ := hbv
                  obtain ⟨t2, rfl⟩ := hv₁
                  walk_at "go"
                  rw [show (q.1 == q.1) = true from beq_self_eq_true _]
                  refine ⟨.inl ⟨_, .bool true, [], rfl, raisesW_false (by wrow_none_raised), .bool true, postW_of (by wrow_shape) (by wtm_val) (by first | rfl | str_meet), fun _ => ⟨.nil, fun _ hx => nomatch hx⟩⟩, oldK_of KX Z F₁.keep hold hkeep, hos, hbare⟩
end Mine
end

theorem PySem.Challenge.cw_ey0011_01_holds : PySem.Challenge.rw_ey0011_01.Holds :=
  Mine.law_holds
