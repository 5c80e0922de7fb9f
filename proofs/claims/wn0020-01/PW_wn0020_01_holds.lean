import PyProof.Rows.All
import Wide.All
import OpenK.AllK
import Wide.FinOn
import PySem.Challenge.RW_wn0020_01
set_option Elab.async false
open PySem PySem.W PyProof.Rows
namespace Mine
local macro_rules | `(tactic| walk_at $s:str) => `(tactic| k_extra $s)

section
open PySem PySem.W PyProof.Rows
set_option Elab.async false
set_option maxRecDepth 100000
set_option maxHeartbeats 8000000 in
open_top hd for PySem.Challenge.rw_wn0020_01
end

section
open PySem PySem.W PyProof.Rows PySem.Calls PySem.Spec
set_option Elab.async false
set_option maxRecDepth 100000

/-- the walk stands still here -/
def Stop (P : Prop) : Prop := P
theorem stop {P : Prop} (h : Stop P) : P := h
theorem Stop.go {P : Prop} (h : P) : Stop P := h

abbrev NoE : Value → Shared → Prop := fun _ _ => False

/-- what a call asks of the place that it stands at -/
structure SiteAt (w : World) (need : Nat) (A : Around) (h₀ : Heap) (L : Addr) (p : Program) (loose : List Str) (mean : ExcName → Option Value) (mg mb : Str → Option Value) (dp un : Nat) (gd : Option (List Code)) (cn : Str) (cs : Scope) (a : Addr) (ccd : Value) (cl : List (Str × Addr)) (outer : List Env) (A₀ : Around) (base : Heap) : Prop where
  eA : A = ktrTop dp un gd cn cs L a ccd cl outer
  eB : Below A₀ base outer h₀
  eX : (hd.heap_39 w.params).In h₀
  eT : Top p loose mean mg mb h₀
  eK : cs.kind = .function
  eD : dp + need < recursionLimit
  eU : un + 8 * need < cLine
def Site (w : World) (need : Nat) (A : Around) (h₀ : Heap) (L : Addr) : Prop :=
  ∃ (p : Program) (loose : List Str) (mean : ExcName → Option Value) (mg mb : Str → Option Value) (dp un : Nat) (gd : Option (List Code)) (cn : Str) (cs : Scope) (a : Addr) (ccd : Value) (cl : List (Str × Addr)) (outer : List Env) (A₀ : Around) (base : Heap), SiteAt w need A h₀ L p loose mean mg mb dp un gd cn cs a ccd cl outer A₀ base

theorem Site.of {w : World} {need : Nat} {h₀ : Heap} {L : Addr} {p : Program} {loose : List Str} {mean : ExcName → Option Value} {mg mb : Str → Option Value} {dp un : Nat} {gd : Option (List Code)} {cn : Str} {cs : Scope} {a : Addr} {ccd : Value} {cl : List (Str × Addr)} {outer : List Env} {A₀ : Around} {base : Heap}
    (B : Below A₀ base outer h₀) (X : (hd.heap_39 w.params).In h₀) (T : Top p loose mean mg mb h₀) (hk : cs.kind = .function) (hd : dp + need < recursionLimit) (hu : un + 8 * need < cLine) :
    Site w need (ktrTop dp un gd cn cs L a ccd cl outer) h₀ L := ⟨p, loose, mean, mg, mb, dp, un, gd, cn, cs, a, ccd, cl, outer, A₀, base, rfl, B, X, T, hk, hd, hu⟩

theorem Site.near {w : World} {need n : Nat} {h₀ : Heap} {L : Addr} {p : Program} {loose : List Str} {mean : ExcName → Option Value} {mg mb : Str → Option Value} {dp un : Nat} {gd : Option (List Code)} {cn : Str} {cs : Scope} {a : Addr} {ccd : Value} {cl : List (Str × Addr)} {outer : List Env} {A₀ : Around} {base : Heap}
    (B : Below A₀ base outer h₀) (X : (hd.heap_39 w.params).In h₀) (T : Top p loose mean mg mb h₀) (hk : cs.kind = .function) (hd : dp + n < recursionLimit) (hu : un + 8 * n < cLine) (hn : need ≤ n := by decide) :
    Site w need (ktrTop dp un gd cn cs L a ccd cl outer) h₀ L := Site.of B X T hk (by omega) (by omega)

theorem Site.in1 {w : World} {need : Nat} {A : Around} {h₀ : Heap} {L : Addr} (S : Site w (need + 1) A h₀ L) : Site w need A.in1 h₀ L := by
  obtain ⟨p, loose, mean, mg, mb, dp, un, gd, cn, cs, a, ccd, cl, outer, A₀, base, rfl, B, X, T, hk, h1, h2⟩ := S
  exact ⟨p, loose, mean, mg, mb, dp, un + 1, gd, cn, cs, a, ccd, cl, outer, A₀, base, rfl, B, X, T, hk, by omega, by omega⟩

theorem ofString_inj {a b : String} : (Str.ofString a = Str.ofString b) ↔ a = b := by
  constructor
  · intro h
    rw [Str.ofString_eq_toList, Str.ofString_eq_toList] at h
    have h1 : a.toList.map Char.toNat = b.toList.map Char.toNat := by
      have := congrArg (fun x : Str => x.cps.toList) h
      simpa using this
    have h2 : a.toList = b.toList := by
      refine List.map_inj_right (f := Char.toNat) ?_ |>.mp h1
      intro x y hxy
      exact Char.ext (UInt32.toNat_inj.mp hxy)
    exact String.toList_inj.mp h2
  · intro h; rw [h]

/-- a frame's map out of a written list of names and values -/
def bm : List (Str × Value) → Str → Option Value
  | [] => fun _ => none
  | p :: r => fun y => if y = p.1 then some p.2 else bm r y

theorem bm_none : ∀ (l : List (Str × Value)) (y : Str), (∀ p ∈ l, y ≠ p.1) → bm l y = none
  | [], _, _ => rfl
  | p :: r, y, h => by
    simp only [bm]
    rw [if_neg (h p (.head _))]
    exact bm_none r y fun q hq => h q (.tail _ hq)
theorem bm_mem : ∀ (l : List (Str × Value)) (y : Str) (v : Value), (l.map (·.1)).Nodup → (y, v) ∈ l → bm l y = some v
  | p :: r, y, v, hn, hm => by
    simp only [bm]
    rcases List.mem_cons.mp hm with e | e
    · subst e; rw [if_pos rfl]
    · have hn' := List.nodup_cons.mp hn
      by_cases e2 : y = p.1
      · exact absurd (List.mem_map.mpr ⟨(y, v), e, by exact e2⟩) hn'.1
      · rw [if_neg e2]; exact bm_mem r y v hn'.2 e
theorem lookup_bm (l : List (Str × Value)) (hn : (l.map (·.1)).Nodup) (y : Str) : l.reverse.lookup y = bm l y := by
  cases hl : l.reverse.lookup y with
  | none =>
    refine (bm_none l y fun p hp e => ?_).symm
    have := List.lookup_eq_none_iff.mp hl p (List.mem_reverse.mpr hp)
    rw [e] at this
    simp at this
  | some v =>
    have : (y, v) ∈ l.reverse := by
      obtain ⟨l₁, l₂, e, _⟩ := List.lookup_eq_some_iff.mp hl
      rw [e]; simp
    exact (bm_mem l y v hn (List.mem_reverse.mp this)).symm

section
variable {prog : Program} {w : World} {A : Around} {s : Shared} {h₀ : Heap} {L : Addr} {m : Str → Option Value} {news : List (Addr × Obj)}

theorem noE {α : Type} {M : Model} {t : Sem α} {Q : α → Shared → Prop} {E : Value → Shared → Prop} (h : wpAny M A t Q NoE s) : wpAny M A t Q E s := wpAny_mono h (fun _ _ x => x) fun _ _ x => x.elim

/-- into a def of the text's own, from any site -/
theorem enter {need : Nat} {name qual : Str} {params : Arguments} {body : List Stmt} {scope : Scope} {dV kV doc pm cdv ct oc : Value} {an od : Option Addr} {osl : Array (Option Value)} {f : Addr} {args : List Value} (binds : List (Str × Value)) {Q E : Value → Shared → Prop}
    (S : Site w (need + 1) A h₀ L) (F : Fr h₀ L s.heap m) (N : News h₀ L s.heap news)
    (ho : (hd.heap_39 w.params).lookup f = some ⟨oc, od, .func (fnOf name qual params body scope dV kV doc pm an cdv ct), osl⟩) (hcd : codeIn (hd.heap_39 w.params) cdv qual = true)
    (hbind : bindArgs (fnOf name qual params body scope dV kV doc pm an cdv ct) ⟨args, []⟩ = pure binds) (hloc : (binds.all fun x => decide (scope.names.lookup x.1 = some .local)) = true) (hnd : (binds.map (·.1)).Nodup)
    (h : ∀ (p : Program) (loose : List Str) (mean : ExcName → Option Value) (mg mb : Str → Option Value) (dp un : Nat) (gd : Option (List Code)) (outer : List Env) (A₀ : Around) (base g h₁ : Heap) (L' : Addr) (tk : Nat),
      Below A₀ base outer g → (hd.heap_39 w.params).In g → Top p loose mean mg mb g → dp + need < recursionLimit → un + 8 * need < cLine → Fr h₀ L g m → Fr g L' h₁ (bm binds) → News g L' h₁ news →
      wpAny (model prog w) (ktrTop dp un gd qual scope L' f cdv [] outer) (execs body (envOf qual scope L' f cdv))
        (fun fl s' => LeaveK h₀ L m g (fun r s' => match r with | .ok (.ret v) => Q v s' | _ => False) (match fl with | .ret v => v | _ => .none) s') NoE
        { s with heap := h₁, toks := tk })
    (hco : scope.isCoroutine = false := by rfl) (hgen : scope.isGenerator = false := by rfl) (hk : scope.kind = .function := by rfl)
    (hcell : ∀ x ∈ scope.names, x.2 ≠ .cell := by decide) : wpAny (model prog w) A (call (.ref f) args) Q E s := by
  obtain ⟨p, loose, mean, mg, mb, dp, un, gd, cn, cs, a, ccd, cl, outer, A₀, base, rfl, B, X, T, hcs, h1, h2⟩ := S
  refine wpAny_call (code_def (binds := binds) B F X N T rfl rfl hcs ho hcd (by show dp < recursionLimit; omega) (BindsTo.of_eq hbind) (locs hloc) (fun g L' h₁ FG F' N' B' X' T' => ?_) hco hgen hk hcell)
  refine wpAny_mono (h p loose mean mg mb (dp + 1) (un + 3) gd (envX cn cs L a ccd cl :: outer) _ base g h₁ L' (s.toks + binds.length) B' X' T' (by omega) (by omega) FG (by have e : (fun y => binds.reverse.lookup y) = bm binds := funext (lookup_bm binds hnd); rw [← e]; exact F') N') (fun fl s' hl => ?_) fun _ _ x => x.elim
  obtain ⟨L₂, m', news', F₂, N₂, k⟩ := hl
  exact ⟨L₂, m', news', F₂, N₂, fun f n => by have := k f n; exact this⟩

theorem frMap {m' : Str → Option Value} {h : Heap} (F : Fr h₀ L h m) (e : ∀ y, m y = m' y) : Fr h₀ L h m' := by have : m = m' := funext e; rw [← this]; exact F
theorem newsSub {h : Heap} {news' : List (Addr × Obj)} (N : News h₀ L h news) (e : ∀ p ∈ news', p ∈ news) : News h₀ L h news' := fun p hp => N p (e p hp)

/-- a frame's map out of a written list of names and what they hold, or nothing -/
def bo : List (Str × Option Value) → Str → Option Value
  | [] => fun _ => none
  | p :: r => fun y => if y = p.1 then p.2 else bo r y
def AllAt (m : Str → Option Value) : List (Str × Option Value) → Prop
  | [] => True
  | p :: r => m p.1 = p.2 ∧ AllAt m r
def Off (y : Str) : List (Str × Option Value) → Prop
  | [] => True
  | p :: r => y ≠ p.1 ∧ Off y r
theorem bo_eq : ∀ (l : List (Str × Option Value)), AllAt m l → (∀ y, Off y l → m y = none) → ∀ y, m y = bo l y
  | [], _, h2, y => h2 y trivial
  | p :: r, h1, h2, y => by
    by_cases e : y = p.1
    · simp only [bo, if_pos e]; rw [e]; exact h1.1
    · simp only [bo, if_neg e]
      have aux : ∀ (l : List (Str × Option Value)), AllAt m l → (Off y l → m y = none) → m y = bo l y := by
        intro l
        induction l with
        | nil => intro _ h; exact h trivial
        | cons q r ih =>
          intro h1 h2
          by_cases e : y = q.1
          · simp only [bo, if_pos e]; rw [e]; exact h1.1
          · simp only [bo, if_neg e]; exact ih h1.2 fun ho => h2 ⟨e, ho⟩
      exact aux r h1.2 fun ho => h2 y ⟨e, ho⟩
theorem frBo {h : Heap} (F : Fr h₀ L h m) (l : List (Str × Option Value)) (h1 : AllAt m l) (h2 : ∀ y, Off y l → m y = none) : Fr h₀ L h (bo l) := frMap F (bo_eq l h1 h2)


theorem while_ {env : Env} {test : Expr} {body : List Stmt} {pos : Pos} {Q : Flow → Shared → Prop} {E : Value → Shared → Prop} (I : Nat → Shared → Prop)
    (turn : ∀ n s, I n s → wpAny (model prog w) A (isTrue test env (eval test env)) (fun b s₂ =>
        if b then wpAny (model prog w) A (execs body env) (fun f s₃ => match f with
            | .next | .cont => Stop (∃ m, m < n ∧ I m s₃)
            | .brk => Q .next s₃
            | .ret v => Q (.ret v) s₃) NoE s₂
        else Q .next s₂) NoE s) (n : Nat) (h : I n s) : wpAny (model prog w) A (exec (.While test body [] pos) env) Q E s := by
  refine wpAny_While (codeAny_whileLoop I (fun n s hI => ?_) n h)
  refine wpAny_mono (turn n s hI) (fun b s₂ h₂ => ?_) fun _ _ x => x.elim
  cases b with
  | true => simp only [if_true] at h₂ ⊢; exact wpAny_mono h₂ (fun f s₃ h₃ => by cases f <;> exact h₃) fun _ _ x => x.elim
  | false => simp only [Bool.false_eq_true, if_false] at h₂ ⊢; exact wpAny_execs_nil h₂

theorem for_loop {env : Env} {target : Expr} {it : Value} {body : List Stmt} {R : Result → Shared → Prop} (I : Nat → Shared → Prop)
    (turn : ∀ n s, I n s → wpAny (model prog w) A (pyNext it) (fun r s₁ => match r with
      | none => R (.ok .next) s₁
      | some v => wpAny (model prog w) A (assign target env v) (fun _ s₂ => wpAny (model prog w) A (execs body env) (fun f s₃ => match f with
          | .next | .cont => Stop (∃ m, m < n ∧ I m s₃)
          | .brk => R (.ok .next) s₃
          | .ret v => R (.ok (.ret v)) s₃) NoE s₂) NoE s₁) NoE s)
    (n : Nat) (h : I n s) (ht : ∀ v, letOwnedTupleGo target it v = pure () := by intro _; rfl) : codeAny (model prog w) A (.forLoop target it body [] env) R s := by
  refine codeAny_forLoop I (fun n s hI => ?_) n h ht
  refine wpAny_mono (turn n s hI) (fun r s₁ h₁ => ?_) fun _ _ x => x.elim
  cases r with
  | none => exact wpAny_execs_nil h₁
  | some v => exact wpAny_mono h₁ (fun _ s₂ h₂ => wpAny_mono h₂ (fun f s₃ h₃ => by cases f <;> exact h₃) fun _ _ x => x.elim) fun _ _ x => x.elim

/-- how a for's turn must end -/
def TurnEnd (h₀ : Heap) (L I : Addr) (own : List (Addr × Obj)) (J : (Str → Option Value) → List (Addr × Obj) → Prop) (s s₃ : Shared) : Prop :=
  ∃ h' tk' m' news', s₃ = { s with heap := h', toks := tk' } ∧ Fr h₀ L h' m' ∧ News h₀ L h' (news' ++ own) ∧ (∀ p ∈ news', p.1 ≠ I) ∧ J m' news'

theorem TurnEnd.intro {I : Addr} {own : List (Addr × Obj)} {J : (Str → Option Value) → List (Addr × Obj) → Prop} {h' : Heap} {tk' : Nat} {m' : Str → Option Value} {news' : List (Addr × Obj)}
    (F : Fr h₀ L h' m') (N : News h₀ L h' (news' ++ own)) (ha : ∀ p ∈ news', p.1 ≠ I) (hJ : J m' news') : TurnEnd h₀ L I own J s { s with heap := h', toks := tk' } := ⟨h', tk', m', news', rfl, F, N, ha, hJ⟩

/-- a for's iterator is made: a new walked object, an invariant of the turns -/
def ForAt (prog : Program) (w : World) (A : Around) (h₀ : Heap) (env : Env) (x : Str) (body : List Stmt) (Q : Flow → Shared → Prop) (it : Value) (s₂ : Shared) : Prop :=
  ∃ (I : Addr) (n : Nat) (P : Nat → Value → Prop) (St : Nat → Heap → Prop) (m : Str → Option Value) (news : List (Addr × Obj)) (J : Nat → (Str → Option Value) → List (Addr × Obj) → Prop),
    it = .ref I ∧ Walks prog w A I [I] [I] n P St ∧ h₀.objs.size ≤ I ∧ I ≠ env.locals ∧ (∀ p ∈ news, p.1 ≠ I) ∧ St 0 s₂.heap ∧ Fr h₀ env.locals s₂.heap m ∧ News h₀ env.locals s₂.heap news ∧ J 0 m news ∧
    (∀ i v m₁ news₁ own h tk, i < n → P i v → J i m₁ news₁ → (∀ p ∈ news₁, p.1 ≠ I) → (∀ p ∈ own, p.1 = I) → Fr h₀ env.locals h (fun y => if y = x then some v else m₁ y) → News h₀ env.locals h (news₁ ++ own) →
      wpAny (model prog w) A (execs body env) (fun f s₃ => match f with
        | .next | .cont => Stop (TurnEnd h₀ env.locals I own (J (i + 1)) s₂ s₃)
        | .brk => Q .next s₃
        | .ret v => Q (.ret v) s₃) NoE { s₂ with heap := h, toks := tk }) ∧
    ∀ m₁ news₁ h tk, J n m₁ news₁ → Fr h₀ env.locals h m₁ → News h₀ env.locals h news₁ → Q .next { s₂ with heap := h, toks := tk }

theorem for_walk {env : Env} {x : Str} {px pos : Pos} {iter : Expr} {body : List Stmt} {Q : Flow → Shared → Prop} {E : Value → Shared → Prop} (hx : env.kindOf x = some .local)
    (hp : (env.scope.kind == .class || (env.scope.kind == .module && env.locals != env.globals)) = false)
    (h : wpAny (model prog w) A (eval iter env) (fun xv s₁ => wpAny (model prog w) A (pyIter xv) (ForAt prog w A h₀ env x body Q) NoE s₁) NoE s)
    (hs : ∀ x, foldedSetIterable iter env x = pure x := by intro _; rfl) :
    wpAny (model prog w) A (exec (.For (.Name x px) iter body [] pos) env) Q E s := by
  refine noE (For_invV h₀ hx hp (wpAny_mono h (fun xv s₁ h₁ => wpAny_mono h₁ (fun it s₂ h₂ => ?_) fun _ _ x => x) fun _ _ x => x) hs PassesOwn.never)
  obtain ⟨I, n, P, St, m, news, J, rfl, W, hI, hIL, hnI, hst, F, N, hJ, turn, done⟩ := h₂
  refine ⟨I, [I], [I], n, P, St, m, news, J, rfl, W, fun hm => hIL (List.mem_singleton.mp hm).symm, ?_, fun p hp hm => hnI p hp (List.mem_singleton.mp hm), hst, F, N, hJ, ?_, ?_⟩
  · intro b hb
    rw [List.mem_singleton.mp hb]
    cases hq : h₀.get? I with
    | none => rfl
    | some o => exact absurd (Heap.lt_size hq) (Nat.not_lt.mpr hI)
  · rintro i v m₁ news₁ s₁ own ⟨h, tk, rfl⟩ hi hP hJ' hoff hown _ _ _ F₁ N₁
    have N₂ : News h₀ env.locals h (news₁ ++ own) := fun p hp => N₁ p ((List.mem_append.mp hp).elim (fun h => List.mem_append.mpr (.inr h)) fun h => List.mem_append.mpr (.inl h))
    refine wpAny_mono (turn i v m₁ news₁ own h tk hi hP hJ' (fun p hp e => hoff p hp (by rw [e]; exact List.mem_singleton.mpr rfl)) (fun p hp => List.mem_singleton.mp (hown p hp)) F₁ N₂) (fun f s₃ h₃ => ?_) fun _ _ x => x
    have fin : TurnEnd h₀ env.locals I own (J (i + 1)) s₂ s₃ → LoopStepU h₀ env.locals [I] own (J (i + 1)) { s₂ with heap := h, toks := tk } .next s₃ := by
      rintro ⟨h', tk', m', news', rfl, F', N', ha, hJ''⟩
      exact ⟨rfl, h', tk', m', news', rfl, F', fun p hp => N' p ((List.mem_append.mp hp).elim (fun h => List.mem_append.mpr (.inr h)) fun h => List.mem_append.mpr (.inl h)), fun p hp hm => ha p hp (List.mem_singleton.mp hm), hJ''⟩
    cases f with
    | next => exact .next (fin h₃)
    | cont => exact .cont (fin h₃)
    | brk => exact .brk h₃
    | ret v => exact .ret h₃
  · rintro h' tk m' news' F' N' _ hJ'
    exact done m' news' h' tk hJ' F' N'

/-- out of an iterator object that has just been laid -/
theorem forAt_new {env : Env} {x : Str} {body : List Stmt} {Q : Flow → Shared → Prop} {o : Obj} {n : Nat} {P : Nat → Value → Prop} {St : Nat → Heap → Prop}
    (W : Walks prog w A s.heap.objs.size [s.heap.objs.size] [s.heap.objs.size] n P St) (hSt : St 0 (s.heap.push o)) (J : Nat → (Str → Option Value) → List (Addr × Obj) → Prop)
    (F : Fr h₀ env.locals s.heap m) (N : News h₀ env.locals s.heap news) (hJ : J 0 m news)
    (turn : ∀ i v I m₁ news₁ own h tk, i < n → P i v → J i m₁ news₁ → (∀ p ∈ news, p.1 < I) → (∀ p ∈ news₁, p.1 ≠ I) → (∀ p ∈ own, p.1 = I) → Fr h₀ env.locals h (fun y => if y = x then some v else m₁ y) → News h₀ env.locals h (news₁ ++ own) →
          wpAny (model prog w) A (execs body env) (fun f s₃ => match f with
            | .next | .cont => Stop (TurnEnd h₀ env.locals I own (J (i + 1)) s s₃)
            | .brk => Q .next s₃
            | .ret v => Q (.ret v) s₃) NoE { s with heap := h, toks := tk })
    (done : ∀ m₁ news₁ h tk, J n m₁ news₁ → Fr h₀ env.locals h m₁ → News h₀ env.locals h news₁ → Q .next { s with heap := h, toks := tk }) :
    ForAt prog w A h₀ env x body Q (.ref s.heap.objs.size) { s with heap := s.heap.push o } := by
  have hL : env.locals < s.heap.objs.size := F.ns.lt
  refine ⟨s.heap.objs.size, n, P, St, m, news, J, rfl, W, Nat.le_trans F.above (Nat.le_of_lt hL), Nat.ne_of_gt hL, fun p hp => Nat.ne_of_lt (Heap.lt_size (N p hp).1), hSt, F.push _, fun p hp => ⟨Heap.get?_push_of_some _ (N p hp).1, (N p hp).2⟩, hJ, ?_, ?_⟩
  · rintro i v m₁ news₁ own h tk hi hP hJ' ha ho F₁ N₁
    exact turn i v _ m₁ news₁ own h tk hi hP hJ' (fun p hp => Heap.lt_size (N p hp).1) ha ho F₁ N₁
  · exact done

theorem iter_str {env : Env} {x : Str} {body : List Stmt} {Q : Flow → Shared → Prop} {t : Tok} {z : Str} (hh : A.handled = none) (J : Nat → (Str → Option Value) → List (Addr × Obj) → Prop)
    (F : Fr h₀ env.locals s.heap m) (N : News h₀ env.locals s.heap news) (hJ : J 0 m news)
    (turn : ∀ i c u I m₁ news₁ own h tk, z.cps[i]? = some c → J i m₁ news₁ → (∀ p ∈ news, p.1 < I) → (∀ p ∈ news₁, p.1 ≠ I) → (∀ p ∈ own, p.1 = I) → Fr h₀ env.locals h (fun y => if y = x then some (.str ⟨#[c]⟩ u) else m₁ y) → News h₀ env.locals h (news₁ ++ own) →
          wpAny (model prog w) A (execs body env) (fun f s₃ => match f with
            | .next | .cont => Stop (TurnEnd h₀ env.locals I own (J (i + 1)) s s₃)
            | .brk => Q .next s₃
            | .ret v => Q (.ret v) s₃) NoE { s with heap := h, toks := tk })
    (done : ∀ m₁ news₁ h tk, J z.cps.size m₁ news₁ → Fr h₀ env.locals h m₁ → News h₀ env.locals h news₁ → Q .next { s with heap := h, toks := tk }) :
    wpAny (model prog w) A (pyIter (.str z t)) (ForAt prog w A h₀ env x body Q) NoE s := by
  refine wpAny_pyIter_str fun o St W hSt => forAt_new (W A hh) hSt J F N hJ ?_ done
  rintro i v I m₁ news₁ own h tk _ ⟨c, u, hc, rfl⟩ hJ' hl ha ho F₁ N₁
  exact turn i c u I m₁ news₁ own h tk hc hJ' hl ha ho F₁ N₁

theorem iter_range {env : Env} {x : Str} {body : List Stmt} {Q : Flow → Shared → Prop} {r : Addr} {a₀ b₀ st : Int} {t₀ u₀ v₀ : Tok} {n : Nat} (hh : A.handled = none) (J : Nat → (Str → Option Value) → List (Addr × Obj) → Prop)
    (hr : IsRange s.heap r a₀ b₀ st t₀ u₀ v₀) (hsmall : Builtin.Range.small a₀ b₀ st = true) (hn : Builtin.Range.rangeSize a₀ b₀ st = (n : Int))
    (F : Fr h₀ env.locals s.heap m) (N : News h₀ env.locals s.heap news) (hJ : J 0 m news)
    (turn : ∀ (i : Nat) t I m₁ news₁ own h tk, i < n → J i m₁ news₁ → (∀ p ∈ news, p.1 < I) → (∀ p ∈ news₁, p.1 ≠ I) → (∀ p ∈ own, p.1 = I) → Fr h₀ env.locals h (fun y => if y = x then some (.int (a₀ + (i : Int) * st) t) else m₁ y) → News h₀ env.locals h (news₁ ++ own) →
          wpAny (model prog w) A (execs body env) (fun f s₃ => match f with
            | .next | .cont => Stop (TurnEnd h₀ env.locals I own (J (i + 1)) s s₃)
            | .brk => Q .next s₃
            | .ret v => Q (.ret v) s₃) NoE { s with heap := h, toks := tk })
    (done : ∀ m₁ news₁ h tk, J n m₁ news₁ → Fr h₀ env.locals h m₁ → News h₀ env.locals h news₁ → Q .next { s with heap := h, toks := tk }) :
    wpAny (model prog w) A (pyIter (.ref r)) (ForAt prog w A h₀ env x body Q) NoE s := by
  refine wpAny_pyIter_range hr hsmall ?_
  refine forAt_new (Walks.range hh _ a₀ st n) (by show IsRangeIter _ _ _ _ _; rw [hn]; simpa using Heap.get?_push_size _ rfl) J F N hJ ?_ done
  rintro i v I m₁ news₁ own h tk hi ⟨t, rfl⟩ hJ' hl ha ho F₁ N₁
  exact turn i t I m₁ news₁ own h tk hi hJ' hl ha ho F₁ N₁

/-- all objects but these stand as they stood -/
def Kept (D : List Addr) (h h' : Heap) : Prop := ∀ b o, b ∉ D → h.get? b = some o → h'.get? b = some o

/-- how a def of the text's own is left: the caller's frame and the ledger, and all else as it stood -/
structure EndCall (h₀ : Heap) (L : Addr) (m : Str → Option Value) (g : Heap) (D : List Addr) (h₁ : Heap) (Q : Value → Shared → Prop) (v : Value) (s' : Shared) : Prop where
  ends : ∃ L' m' news', Fr g L' s'.heap m' ∧ News g L' s'.heap news' ∧ (Fr h₀ L s'.heap m → News h₀ L s'.heap news' → Kept D h₁ s'.heap → Q v s')
theorem endCall_ {g : Heap} {L' : Addr} {m' : Str → Option Value} {news' : List (Addr × Obj)} {D : List Addr} {h₁ : Heap} {Q : Value → Shared → Prop} {v : Value} {s' : Shared} (F' : Fr g L' s'.heap m') (N' : News g L' s'.heap news')
    (k : Fr h₀ L s'.heap m → News h₀ L s'.heap news' → Kept D h₁ s'.heap → Q v s') : EndCall h₀ L m g D h₁ Q v s' := ⟨⟨L', m', news', F', N', k⟩⟩

theorem endCall_out {g : Heap} {D : List Addr} {Q : Value → Shared → Prop} {v : Value} {s' : Shared} (hg : g = hideAll s.heap D)
    (lv : ∀ v s', LeaveK h₀ L m g (fun r s' => match r with | .ok (.ret v) => Q v s' | _ => False) v s' → (match (Except.ok (Flow.ret v) : Result) with | .ok (.ret v) => Q v s' | _ => False)) (h : EndCall h₀ L m g D s.heap Q v s') : Q v s' := by
  obtain ⟨⟨L', m', news', F', N', k⟩⟩ := h
  exact lv v s' ⟨L', m', news', F', N', fun f n => k f n fun b o hb e => F'.keep b o (hg ▸ hideAll_get D e hb)⟩

theorem enterX {need : Nat} {name qual : Str} {params : Arguments} {body : List Stmt} {scope : Scope} {dV kV doc pm cdv ct : Value} {an : Option Addr} {f : Addr} {fo : Obj} {cl : List (Str × Addr)} {args : List Value} (binds : List (Str × Value)) {Q E : Value → Shared → Prop}
    (S : Site w (need + 1) A h₀ L) (F : Fr h₀ L s.heap m) (N : News h₀ L s.heap news)
    (ho : s.heap.get? f = some fo) (hfd : fo.data = .func (fnX name qual params body scope cl dV kV doc pm an cdv ct)) (hcd : (hd.heap_39 w.params).In h₀ → s.heap.CodeRec cdv qual)
    (hbind : bindArgs (fnX name qual params body scope cl dV kV doc pm an cdv ct) ⟨args, []⟩ = pure binds) (hloc : (binds.all fun x => decide (scope.names.lookup x.1 = some .local)) = true) (hnd : (binds.map (·.1)).Nodup)
    (h : ∀ (p : Program) (loose : List Str) (mean : ExcName → Option Value) (mg mb : Str → Option Value) (dp un : Nat) (gd : Option (List Code)) (outer : List Env) (A₀ : Around) (base g h₁ : Heap) (L' : Addr) (tk : Nat),
      Below A₀ base outer g → (hd.heap_39 w.params).In g → Top p loose mean mg mb g → dp + need < recursionLimit → un + 8 * need < cLine → Fr g L' h₁ (bm binds) → News g L' h₁ news → (∀ p ∈ news, p.1 < L') →
      wpAny (model prog w) (ktrTop dp un gd qual scope L' f cdv cl outer) (execs body (envX qual scope L' f cdv cl))
        (fun fl s' => EndCall h₀ L m g (news.map (·.1)) s.heap Q (match fl with | .ret v => v | _ => .none) s') NoE
        { s with heap := h₁, toks := tk })
    (hcell : ∀ x ∈ scope.names, x.2 ≠ .cell := by decide) (hco : scope.isCoroutine = false := by rfl) (hgen : scope.isGenerator = false := by rfl) (hk : scope.kind = .function := by rfl) :
    wpAny (model prog w) A (call (.ref f) args) Q E s := by
  obtain ⟨p, loose, mean, mg, mb, dp, un, gd, cn, cs, a, ccd, cl', outer, A₀, base, rfl, B, X, T, hcs, h1, h2⟩ := S
  refine noE (wpAny_call ?_)
  obtain ⟨FG, BG, st, lv⟩ := groundX (R := fun r s' => match r with | .ok (.ret v) => Q v s' | _ => False) (A := ktrTop dp un gd cn cs L a ccd cl' outer) (env := envX cn cs L a ccd cl') B F N rfl rfl hcs
  refine codeAny_mono (codeAny_call_def (R := fun r s' => match r with | .ok (.ret v) => Q v s' | _ => False) (fd := fnX name qual params body scope cl dV kV doc pm an cdv ct) (body := body) (binds := binds) (by show dp < recursionLimit; omega) ho hfd (T.nolimit.keeps F.keep) (hcd X) rfl (BindsTo.of_eq hbind) hcell (locs hloc) (fun h₁ hns hk₁ => ?_) hco hgen hk) (fun r s' x => by
    cases r with
    | ok f => cases f <;> exact x
    | error e => exact x)
  refine wpAny_mono (h p loose mean mg mb (dp + 1) (un + 3) gd (envX cn cs L a ccd cl' :: outer) _ base _ h₁ s.heap.objs.size (s.toks + binds.length) BG (Frag.In.keeps X st) (T.keeps st) (by omega) (by omega)
    (by have e : (fun y => binds.reverse.lookup y) = bm binds := funext (lookup_bm binds hnd); rw [← e]; exact ⟨hns, fun b o e => hk₁ b o (of_hideAll _ e), Nat.le_of_eq (hideAll_size _ _)⟩)
    (fun p hp => ⟨hk₁ _ _ (N p hp).1, Nat.ne_of_lt (Heap.lt_size (N p hp).1), hideAll_none _ (List.mem_map_of_mem hp)⟩) (fun p hp => Heap.lt_size (N p hp).1)) (fun fl s' hl => endCall_out rfl lv hl) fun _ _ x => x.elim

theorem newsNe {h : Heap} {l : List (Addr × Obj)} {a b : Addr} {oa ob : Obj} (N : News h₀ L h l) (ha : (a, oa) ∈ l) (hb : (b, ob) ∈ l) (hd : oa.data ≠ ob.data) : @Ne Nat a b := fun e => by
  have h1 := (N _ ha).1
  have h2 := (N _ hb).1
  dsimp only at h1 h2
  rw [e, h2] at h1
  exact hd (by rw [Option.some.inj h1])

/-- what stands in both ledgers was kept -/
theorem keptShrink {D D' : List Addr} {h h' : Heap} {l l' : List (Addr × Obj)} (N : News h₀ L h l) (N' : News h₀ L h' l') (K : Kept D h h') (hD : ∀ b ∈ D, b ∈ D' ∨ ∃ o, (b, o) ∈ l ∧ (b, o) ∈ l') : Kept D' h h' := fun b o hb e => by
  by_cases hm : b ∈ D
  · rcases hD b hm with q | ⟨o', h1, h2⟩
    · exact absurd q hb
    · have a := (N _ h1).1
      dsimp only at a
      rw [e] at a
      rw [Option.some.inj a]
      exact (N' _ h2).1
  · exact K b o hm e
/-- a ledger behind a call that has touched but D -/
theorem newsJoin {L₁ : Addr} {h₁ : Heap} {D : List Addr} {h h' : Heap} {all part l' : List (Addr × Obj)} (N : News h₁ L₁ h all) (N' : News h₁ L₁ h' part) (K : Kept D h h') (cov : ∀ p ∈ l', p ∈ part ∨ (p ∈ all ∧ p.1 ∉ D)) : News h₁ L₁ h' l' := fun p hp => by
  rcases cov p hp with q | ⟨q, n⟩
  · exact N' p q
  · exact ⟨K _ _ n (N p q).1, (N p q).2⟩
end
end

section
open PySem PySem.W PyProof.Rows PySem.Calls PySem.Spec
set_option Elab.async false
set_option maxRecDepth 100000
example : True := by k_with_none; w_top off; trivial
example : (PySem.Challenge.rw_wn0020_01 = PySem.Challenge.rw_wn0020_01) ∧ (hd.heap_39 = hd.heap_39) := by k_fill; exact ⟨rfl, rfl⟩

/-- the 16-ary letters of a number, the greatest first -/
def letters (n : Nat) : List Nat := if n = 0 then [] else letters (n / 16) ++ [65 + n % 16]
termination_by n
decreasing_by omega
def apB (n : Nat) : Array UInt8 := ((letters n).map UInt8.ofNat).toArray

theorem letters_zero : letters 0 = [] := by rw [letters]; rfl
theorem letters_pos {n : Nat} (h : n ≠ 0) : letters n = letters (n / 16) ++ [65 + n % 16] := by rw [letters, if_neg h]
theorem letters_len : ∀ (j n : Nat), n < 16 ^ j → (letters n).length ≤ j
  | 0, n, h => by have : n = 0 := by simpa using h
                  rw [this, letters_zero]; simp
  | j + 1, n, h => by
    by_cases e : n = 0
    · rw [e, letters_zero]; simp
    · rw [letters_pos e, List.length_append, List.length_singleton]
      have : n / 16 < 16 ^ j := by rw [Nat.div_lt_iff_lt_mul (by decide)]; rw [Nat.pow_succ] at h; omega
      have := letters_len j (n / 16) this
      omega
theorem apB_size {n : Nat} (hn : n < 2 ^ 64) : (apB n).size ≤ 16 := by
  have : (letters n).length ≤ 16 := letters_len 16 n (by have : (2 : Nat) ^ 64 = 16 ^ 16 := by decide
                                                         omega)
  simpa [apB] using this
theorem apB_pos {n : Nat} (h : n ≠ 0) : apB n = apB (n / 16) ++ #[UInt8.ofNat (65 + n % 16)] := by
  unfold apB
  rw [letters_pos h]
  simp
theorem cut_letter (k : Nat) : KBy.picked #[65, 66, 67, 68, 69, 70, 71, 72, 73, 74, 75, 76, 77, 78, 79, 80] (some ((k : Int).fmod 16)) (some ((k : Int).fmod 16 + 1)) = #[UInt8.ofNat (65 + k % 16)] := by
  have e : ((k : Int).fmod 16) = ((k % 16 : Nat) : Int) := by rw [Int.fmod_eq_emod_of_nonneg _ (by decide)]; simp
  rw [e]
  have h : k % 16 < 16 := Nat.mod_lt _ (by decide)
  generalize k % 16 = j at h
  have all : ∀ j : Fin 16, KBy.picked #[65, 66, 67, 68, 69, 70, 71, 72, 73, 74, 75, 76, 77, 78, 79, 80] (some ((j.val : Nat) : Int)) (some (((j.val : Nat) : Int) + 1)) = #[UInt8.ofNat (65 + j.val)] := by decide +kernel
  exact all ⟨j, h⟩


set_option maxHeartbeats 4000000 in
theorem int2ap_c {prog : Program} {w : World} {A : Around} {s : Shared} {h₀ : Heap} {L : Addr} {m : Str → Option Value} {news : List (Addr × Obj)} {Q E : Value → Shared → Prop} {n : Nat} {t : Tok} (hn : n < 2 ^ 64)
    (S : Site w 1 A h₀ L) (F : Fr h₀ L s.heap m) (N : News h₀ L s.heap news)
    (hret : ∀ t' h' tk', Fr h₀ L h' m → News h₀ L h' news → Q (.bytes (apB n) t') { s with heap := h', toks := tk' }) :
    wpAny (model prog w) A (call (.ref 63) [.int n t]) Q E s := by
  k_with_none
  (k_with "exec While Name cons nil" => (refine stop ?_))
  refine enter [("num", .int n t)] S F N (by k_is) (by k_is) (by rfl) (by rfl) (by simp) ?_
  intro p loose mean mg mb dp un gd outer A₀ base g h₁ L' tk B' X' T' hdp hun FG F' N'
  dsimp only [bm] at F'
  clear F N S
  k_steps
  have e0 : (if (n : Int) < 0 then -(n : Int) else n) = (n : Int) := by omega
  rename Fr g L' _ _ => F''
  rename News g L' _ _ => N''
  rw [e0] at F''
  refine Stop.go (while_ (fun k s₁ => ∃ (h : Heap) (tk : Nat) (u v t : Tok) (o : Option Value) (b : Array UInt8), News g L' h news ∧
     Fr g L' h (bo [("num", some (.int k t)), ("val", some (.bytes b u)), ("mod", o), ("AP", some (.bytes #[65, 66, 67, 68, 69, 70, 71, 72, 73, 74, 75, 76, 77, 78, 79, 80] v))]) ∧
     s₁ = { s with heap := h, toks := tk } ∧ apB k ++ b = apB n ∧ k ≤ n) ?_ n ?_)
  · rintro k _ ⟨h, tk, u, v, t, o, b, N₁, F₁, rfl, hb, hk⟩
    clear F'' N''
    dsimp only [bo] at F₁
    have hsz := apB_size hn
    rw [← hb, Array.size_append] at hsz
    k_steps
    · rename Fr g L' _ _ => F₂
      rename News g L' _ _ => N₂
      refine KBc.slice_K (s := ⟨_, _, _, _, _⟩) F₂ N₂ rfl (.int _ _) (.int _ _) (by decide) ?_
      intro h₃ t₃ tk₃ F₃ N₃ e₃
      clear e₃ F₂ N₂
      rw [cut_letter]
      k_steps
      · refine KBy.add_bytes (by simp; omega) ?_
        intro t₄ tk₄
        dsimp only
        k_steps
        rename Fr g L' _ _ => F₅
        rename News g L' _ _ => N₅
        have hk0 : k ≠ 0 := by omega
        have e : ((k : Int).fdiv 16) = ((k / 16 : Nat) : Int) := by rw [Int.fdiv_eq_ediv_of_nonneg _ (by decide)]; simp
        rw [e] at F₅
        refine Stop.go ⟨k / 16, by omega, _, _, _, _, _, _, _, newsSub N₅ (fun p hp => .tail _ hp), frBo F₅ _ ⟨rfl, rfl, rfl, rfl, trivial⟩ (fun y hy => by simp only [Off] at hy; simp [hy]), rfl, ?_, by omega⟩
        rw [← hb, apB_pos hk0, Array.append_assoc]
    · have hk0 : k = 0 := by omega
      subst hk0
      have e : b = apB n := by rw [← hb]; simp [apB, letters_zero]
      subst e
      exact leaveK_ F₁ N₁ fun kF kN => hret _ _ _ kF kN
  · refine ⟨_, _, _, _, _, none, #[], N'', frBo F'' _ ⟨rfl, rfl, rfl, rfl, trivial⟩ (fun y hy => by simp only [Off] at hy; simp [hy]), rfl, ?_, Nat.le_refl _⟩
    simp
end

section
open PySem PySem.W PyProof.Rows PySem.Calls PySem.Spec
set_option Elab.async false
set_option maxRecDepth 100000
open PySem.Builtin

theorem forIn_steps {σ : Type} (f : Nat → σ → Sem (ForInStep σ)) : ∀ (k a : Nat) (S : Nat → σ), (∀ i, i < k → f (a + i) (S i) = pure (.yield (S (i + 1)))) → forIn (List.range' a k) (S 0) f = (pure (S k) : Sem σ)
  | 0, _, _, _ => rfl
  | k + 1, a, S, h => by
    rw [List.range'_succ, List.forIn_cons]
    have h0 := h 0 (Nat.succ_pos _)
    rw [Nat.add_zero] at h0
    rw [h0]
    show forIn (List.range' (a + 1) k) (S 1) f = pure (S (k + 1))
    exact forIn_steps f k (a + 1) (fun i => S (i + 1)) fun i hi => by
      have := h (i + 1) (Nat.succ_lt_succ hi)
      rw [show a + 1 + i = a + (i + 1) from by omega]
      exact this

theorem run_ascii (id : String) (b : Array UInt8) (hb : ∀ i, (b.getD i 0).toNat < 128) (hz : b.size ≤ sizeLine) :
   _codecs.runDecoder id _codecs.asciiDecoder none true b 0 [] = pure ((b.map UInt8.toNat), b.size) := by
  unfold _codecs.runDecoder
  simp only [Std.Legacy.Range.forIn_eq_forIn_range']
  rw [show ([:b.size] : Std.Legacy.Range).size = b.size from by simp [Std.Legacy.Range.size]]
  let S : Nat → Nat × Array Nat × _codecs.Faults := fun i => (i, ((b.toList.take i).map UInt8.toNat).toArray, {})
  have e0 : ((0, #[], {}) : Nat × Array Nat × _codecs.Faults) = S 0 := by simp [S]
  rw [e0]
  rw [forIn_steps _ b.size 0 S]
  · show (pure ((S b.size).2.1, (S b.size).1) : Sem (Array Nat × Nat)) = _
    have : b.toList.take b.size = b.toList := List.take_of_length_le (by simp)
    simp only [S, this]
    congr 2
    apply Array.ext'
    simp
  · intro i hi
    have hs : ¬ (S i).2.1.size > sizeLine := by
      simp only [S, List.size_toArray, List.length_map, List.length_take, Array.length_toList]
      omega
    rw [if_neg hs, if_neg (show ¬ (S i).1 ≥ b.size from Nat.not_le.mpr hi)]
    have hf : _codecs.asciiDecoder.find true b (S i).1 = .text [(b.getD i 0).toNat] (i + 1) := by
      show (if (b.getD i 0).toNat < 128 then _ else _) = _
      rw [if_pos (hb i)]
      rfl
    rw [hf]
    simp only [S]
    congr 3
    have hg : b.getD i 0 = b[i] := by simp [hi]
    rw [hg, List.take_add_one]
    simp [hi]

theorem road_ascii {b : Array UInt8} {id : String} : _codecs.decodeRoad id b (PySem.Str.ofString "ascii") none [] = (_codecs.runDecoder id _codecs.asciiDecoder none true b 0 [] >>= fun r => mkStr ⟨r.1⟩) := by kernel_rfl

theorem meets_ascii {b : Array UInt8} {t t1 t2 : Tok} {d : PySem.Str} (hb : ∀ i, (b.getD i 0).toNat < 128) :
    Meets («_codecs.decode.text» ⟨[.bytes b t, .str (PySem.Str.ofString "ascii") t1, .none, .str d t2], []⟩) (fun _ R s => b.size ≤ sizeLine ∧ R (.ok (.ret (.str ⟨b.map UInt8.toNat⟩ s.toks))) { s with toks := s.toks + 1 }) := by
  refine .of_wp fun prog w A R s hS => ?_
  obtain ⟨hsz, h⟩ := hS
  show wpAny _ _ (Bytes.bytesLike _ (.bytes b t) >>= fun r => _) _ _ s
  refine wpAny_bind (wpAny_of_eq KBd.like_eq ?_)
  refine wpAny_bind (wpAny_of_eq KBd.held_eq ?_)
  show wpAny _ _ (_codecs.decodeRoad _ b (PySem.Str.ofString "ascii") none [] >>= fun v => _) _ _ s
  rw [road_ascii, run_ascii _ _ hb hsz]
  refine wpAny_bind (wpAny_bind (wpAny_pure ?_))
  exact wpAny_mkStr (wpAny_pure ⟨_, rfl, h⟩) (by show (b.map UInt8.toNat).size ≤ sizeLine; simpa using hsz)

theorem args_decode_2 (a b : Value) : argsOk "bytes.decode" ⟨[a, b], []⟩ := by
  unfold argsOk; rw [signature?_of (id := "bytes.decode") (n := ['e', 'd', 'o', 'c', 'e', 'd']) (o := ['s', 'e', 't', 'y', 'b']) (by kernel_rfl) FB.owner_bytes]; kernel_rfl

theorem entry_nil {t u : Tok} : «bytes.decode» ⟨[.bytes #[] t, .str (PySem.Str.ofString "ascii") u], []⟩ = (rule "bytes.decode.empty" >>= fun _ => retStr PySem.Str.empty) := by kernel_rfl
theorem entry_cons {c : UInt8} {cs : List UInt8} {t u : Tok} : «bytes.decode» ⟨[.bytes (c :: cs).toArray t, .str (PySem.Str.ofString "ascii") u], []⟩ = (mkStr (PySem.Str.ofString "utf-8") >>= fun _ => mkStr (PySem.Str.ofString "ascii") >>= fun e => mkStr (PySem.Str.ofString "bytes.decode") >>= fun d =>
    call (.builtin "_codecs.decode.text") [.bytes (c :: cs).toArray t, e, .none, d] >>= fun v => ret v) := by kernel_rfl

theorem meets_decode {b : Array UInt8} {t u : Tok} (hb : ∀ i, (b.getD i 0).toNat < 128) :
    Meets («bytes.decode» ⟨[.bytes b t, .str (PySem.Str.ofString "ascii") u], []⟩) (fun _ R s => b.size ≤ sizeLine ∧ ∀ t' k, R (.ok (.ret (.str ⟨b.map UInt8.toNat⟩ t'))) { s with toks := k }) := by
  refine .of_wp fun prog w A R s hS => ?_
  obtain ⟨hsz, h⟩ := hS
  obtain ⟨l⟩ := b
  cases l with
  | nil =>
    rw [entry_nil]
    refine wpAny_bind (wpAny_rule ?_)
    unfold retStr
    refine wpAny_bind (wpAny_mkStr ?_ (by decide))
    have h' := h s.toks (s.toks + 1)
    rw [show (PySem.Str.mk (Array.map UInt8.toNat (Array.mk [])) = PySem.Str.empty) from by simp [PySem.Str.empty]] at h'
    exact wpAny_pure ⟨_, rfl, h'⟩
  | cons c cs =>
    rw [show (Array.mk (c :: cs)) = (c :: cs).toArray from rfl, entry_cons]
    refine wpAny_bind (wpAny_mkStr ?_ (by decide))
    refine wpAny_bind (wpAny_mkStr ?_ (by decide))
    refine wpAny_bind (wpAny_mkStr ?_ (by decide))
    exact wpAny_bind (call_function_meets KBd.kind_text KBd.plain_text KBd.entry_text (KBd.args_text _ _ _ _) (meets_ascii hb) ⟨hsz, wpAny_pure ⟨_, rfl, h _ _⟩⟩)

theorem decode_ascii {prog : Program} {w : World} {A : Around} {E : Value → Shared → Prop} {s : Shared} {b : Array UInt8} {t u : Tok} {Q : Value → Shared → Prop} (hb : ∀ i, (b.getD i 0).toNat < 128) (hsz : b.size ≤ 16777216) (h : ∀ t' k, Q (.str ⟨b.map UInt8.toNat⟩ t') { s with toks := k }) :
    wpAny (model prog w) A (call (.builtin "bytes.decode") [.bytes b t, .str (PySem.Str.ofString "ascii") u]) Q E s :=
  call_meets FB.slot_bytes_decode (typeIs_bytes _ _ _) FB.entry_bytes_decode (args_decode_2 _ _) (meets_decode hb) ⟨by rw [sizeLine_eq]; exact hsz, h⟩
end

section
open PySem PySem.W PyProof.Rows PySem.Calls PySem.Spec
set_option Elab.async false
set_option maxRecDepth 100000
example : True := by k_with_none; w_top off; trivial
example : (PySem.Challenge.rw_wn0020_01 = PySem.Challenge.rw_wn0020_01) ∧ (hd.heap_39 = hd.heap_39) := by k_fill; exact ⟨rfl, rfl⟩

/-- the word of a number -/
def wordOf (n : Nat) : PySem.Str := ⟨(letters n).toArray⟩

theorem letters_in : ∀ (n c : Nat), c ∈ letters n → 65 ≤ c ∧ c < 81 := by
  intro n
  induction n using Nat.strongRecOn with
  | ind n ih =>
    intro c hc
    by_cases e : n = 0
    · rw [e, letters_zero] at hc; cases hc
    · rw [letters_pos e] at hc
      rcases List.mem_append.mp hc with h | h
      · exact ih (n / 16) (by omega) c h
      · have := List.mem_singleton.mp h; omega
theorem apB_word (n : Nat) : (⟨(apB n).map UInt8.toNat⟩ : PySem.Str) = wordOf n := by
  unfold apB wordOf
  congr 1
  apply Array.ext'
  simp only [List.map_toArray, List.map_map]
  have : ∀ l : List Nat, (∀ c ∈ l, c < 256) → l.map (UInt8.toNat ∘ UInt8.ofNat) = l := by
    intro l hl
    conv => rhs; rw [← List.map_id l]
    refine List.map_congr_left fun c hc => ?_
    have := hl c hc
    simp [Nat.mod_eq_of_lt this]
  exact this _ fun c hc => by have := letters_in n c hc; omega
theorem apB_ascii (n i : Nat) : ((apB n).getD i 0).toNat < 128 := by
  unfold apB
  by_cases h : i < (letters n).length
  · have hm := letters_in n _ (List.getElem_mem h)
    simp [h]
    omega
  · simp [h]


set_option maxHeartbeats 4000000 in
theorem word_c {prog : Program} {w : World} {A : Around} {s : Shared} {h₀ : Heap} {L : Addr} {m : Str → Option Value} {news : List (Addr × Obj)} {Q E : Value → Shared → Prop} {n : Nat} {t : Tok} (hn : n < 2 ^ 64)
    (S : Site w 2 A h₀ L) (F : Fr h₀ L s.heap m) (N : News h₀ L s.heap news)
    (hret : ∀ t' h' tk', Fr h₀ L h' m → News h₀ L h' news → Q (.str (wordOf n) t') { s with heap := h', toks := tk' }) :
    wpAny (model prog w) A (call (.ref 91) [.int n t]) Q E s := by
  k_with_none
  (k_with "call ref" => (((with_reducible show wpAny _ _ (call (Value.ref 63) _) _ _ _); (refine int2ap_c (n := _) (by assumption) (Site.near (by assumption) (by assumption) (by assumption) rfl (by assumption) (by assumption)) (by assumption) (by assumption) ?_); intro _ _ _ _ _; try dsimp only)))
  (k_with "call builtin:bytes.decode" => ((refine decode_ascii (apB_ascii _) ?_ ?_; rotate_left; (intro _ _; try dsimp only))))
  refine enter [("number", .int n t)] S F N (by k_is) (by k_is) (by rfl) (by rfl) (by simp) ?_
  intro p loose mean mg mb dp un gd outer A₀ base g h₁ L' tk B' X' T' hdp hun FG F' N'
  dsimp only [bm] at F'
  clear F N S
  k_steps
  · refine leaveK_ (by assumption) (by assumption) fun kF kN => ?_
    rw [apB_word]
    exact hret _ _ _ kF kN
  · exact Nat.le_trans (apB_size hn) (by decide)

theorem word_i {prog : Program} {w : World} {A : Around} {s : Shared} {h₀ : Heap} {L : Addr} {m : Str → Option Value} {news : List (Addr × Obj)} {Q E : Value → Shared → Prop} {x : Int} {t : Tok} (h0 : 0 ≤ x) (hx : x < 2 ^ 64)
    (S : Site w 2 A h₀ L) (F : Fr h₀ L s.heap m) (N : News h₀ L s.heap news)
    (hret : ∀ t' h' tk', Fr h₀ L h' m → News h₀ L h' news → Q (.str (wordOf x.toNat) t') { s with heap := h', toks := tk' }) :
    wpAny (model prog w) A (call (.ref 91) [.int x t]) Q E s := by
  obtain ⟨n, rfl⟩ := Int.eq_ofNat_of_zero_le h0
  exact word_c (by omega) S F N hret
end

section
open PySem PySem.W PyProof.Rows PySem.Calls PySem.Spec
set_option Elab.async false
set_option maxRecDepth 100000
example : True := by k_with_none; w_top off; trivial
example : (PySem.Challenge.rw_wn0020_01 = PySem.Challenge.rw_wn0020_01) ∧ (hd.heap_39 = hd.heap_39) := by k_fill; exact ⟨rfl, rfl⟩

def numL (l : List Nat) : Int := l.foldl (fun (a : Int) (c : Nat) => a * 16 + (c : Int) - 65) 0
theorem numL_snoc (l : List Nat) (c : Nat) : numL (l ++ [c]) = numL l * 16 + (c : Int) - 65 := by simp [numL]
theorem numL_letters (n : Nat) : numL (letters n) = n := by
  induction n using Nat.strongRecOn with
  | ind n ih =>
    by_cases e : n = 0
    · rw [e, letters_zero]; rfl
    · rw [letters_pos e, numL_snoc, ih (n / 16) (by omega)]
      omega

set_option maxHeartbeats 4000000 in
theorem number_c {prog : Program} {w : World} {A : Around} {s : Shared} {h₀ : Heap} {L : Addr} {m : Str → Option Value} {news : List (Addr × Obj)} {Q E : Value → Shared → Prop} {z : PySem.Str} {t : Tok}
    (S : Site w 1 A h₀ L) (F : Fr h₀ L s.heap m) (N : News h₀ L s.heap news)
    (hret : ∀ t' h' tk', Fr h₀ L h' m → News h₀ L h' news → Q (.int (numL z.cps.toList) t') { s with heap := h', toks := tk' }) :
    wpAny (model prog w) A (call (.ref 98) [.str z t]) Q E s := by
  k_with_none
  (k_with "exec For Name Name cons nil" => (refine stop ?_))
  refine enter [("word", .str z t)] S F N (by k_is) (by k_is) (by rfl) (by rfl) (by simp) ?_
  intro p loose mean mg mb dp un gd outer A₀ base g h₁ L' tk B' X' T' hdp hun FG F' N'
  dsimp only [bm] at F'
  clear F N S
  k_steps
  rename Fr g L' _ _ => F''
  rename News g L' _ _ => N''
  refine Stop.go (for_walk (h₀ := g) rfl rfl ?_)
  refine ld F'' rfl ?_
  refine iter_str rfl (fun i m₁ news₁ => news₁ = news ∧ ∃ t u o, m₁ = bo [("number", some (.int (numL (z.cps.toList.take i)) u)), ("word", some (.str z t)), ("sign", o)]) F'' N'' ?_ ?_ ?_
  · refine ⟨rfl, t, _, none, funext (bo_eq _ ⟨rfl, rfl, rfl, trivial⟩ (fun y hy => by simp only [Off] at hy; simp [hy]))⟩
  · rintro i c u I m₁ news₁ own h tk hc ⟨rfl, t', u', o, rfl⟩ hl ha ho F₁ N₁
    clear F'' N''
    dsimp only [bo] at F₁
    k_steps
    rename Fr g L' _ _ => F₂
    rename News g L' _ _ => N₂
    have e : z.cps.toList.take (i + 1) = z.cps.toList.take i ++ [c] := by
      have hc' : z.cps.toList[i]? = some c := by simpa using hc
      simp [List.take_add_one, hc']
    rw [← numL_snoc, ← e] at F₂
    exact Stop.go (TurnEnd.intro F₂ N₂ ha ⟨rfl, _, _, _, funext (bo_eq _ ⟨rfl, rfl, rfl, trivial⟩ (fun y hy => by simp only [Off] at hy; simp [hy]))⟩)
  · rintro m₁ news₁ h tk ⟨rfl, t', u', o, rfl⟩ F₁ N₁
    dsimp only [bo] at F₁
    have e : z.cps.toList.take z.cps.size = z.cps.toList := List.take_of_length_le (by simp)
    rw [e] at F₁
    k_steps
    exact leaveK_ F₁ N₁ fun kF kN => hret _ _ _ kF kN
end

section
open PySem PySem.W PyProof PyProof.Rows PySem.Calls PySem.Spec
set_option Elab.async false
set_option maxRecDepth 100000
theorem indices_clip (lo hi : Option Int) (n : Nat) : Builtin.Str.strSliceIndices lo hi 1 n = (List.range (hi.elim n (clipAt n) - lo.elim 0 (clipAt n))).map (lo.elim 0 (clipAt n) + ·) := by
  rw [← sliceRange_one]
  unfold Builtin.Str.strSliceIndices
  cases lo <;> cases hi <;> simp [clipAt_cast]
theorem clip_le (n : Nat) (i : Int) : clipAt n i ≤ n := by unfold clipAt; omega
theorem slice_cps (x : PySem.Str) (lo hi : Option Int) : (Txt.slice x lo hi).cps.toList = (x.cps.toList.drop (lo.elim 0 (clipAt x.length))).take (hi.elim x.length (clipAt x.length) - lo.elim 0 (clipAt x.length)) := by
  unfold Txt.slice
  rw [indices_clip]
  split
  · rename_i h
    simp only [List.length_map, List.length_range, beq_self_eq_true, Bool.true_and, beq_iff_eq] at h
    have h1 : hi.elim x.length (clipAt x.length) ≤ x.length := by
      cases hi with
      | none => exact Nat.le_refl _
      | some i => exact clip_le _ _
    have h2 : lo.elim 0 (clipAt x.length) = 0 ∨ x.length = 0 := by omega
    have hl : x.cps.toList.length = x.length := by simp [PySem.Str.length]
    rcases h2 with h2 | h2
    · rw [h2, List.drop_zero, List.take_of_length_le (by omega)]
    · have : x.cps.toList = [] := List.length_eq_zero_iff.mp (by omega)
      rw [this]; simp
  · simp only [pick_run]
theorem str_ext {x y : PySem.Str} (h : x.cps.toList = y.cps.toList) : x = y := by
  obtain ⟨⟨a⟩⟩ := x; obtain ⟨⟨b⟩⟩ := y
  simp only at h
  rw [h]
/-- the n-th sign of a text, or nothing behind its end -/
theorem slice_one (x : PySem.Str) (i : Nat) : Txt.slice x (some (i : Int)) (some ((i : Int) + 1)) = ⟨((x.cps.toList.drop i).take 1).toArray⟩ := by
  apply str_ext
  rw [slice_cps]
  simp only [Option.elim]
  have hl : x.cps.toList.length = x.length := by simp [PySem.Str.length]
  have e1 : clipAt x.length (i : Int) = min i x.length := clipAt_nat _ i
  have e2 : clipAt x.length ((i : Int) + 1) = min (i + 1) x.length := clipAt_nat _ (i + 1)
  by_cases h : i < x.length
  · rw [e1, e2, Nat.min_eq_left (Nat.le_of_lt h), Nat.min_eq_left h, show i.succ - i = 1 from Nat.add_sub_cancel_left i 1]
  · have h' := Nat.not_lt.mp h
    rw [e1, Nat.min_eq_right h', List.drop_of_length_le (Nat.le_of_eq hl), List.drop_of_length_le (hl ▸ h'), List.take_nil, List.take_nil]
end

section
open PySem PySem.W PyProof.Rows PySem.Calls PySem.Spec
set_option Elab.async false
set_option maxRecDepth 100000
example : True := by k_with_none; w_top off; trivial
example : (PySem.Challenge.rw_wn0020_01 = PySem.Challenge.rw_wn0020_01) ∧ (hd.heap_39 = hd.heap_39) := by k_fill; exact ⟨rfl, rfl⟩

theorem strip_all (x y : PySem.Str) (h : ∀ c ∈ x.cps.toList, y.cps.contains c = true) : Txt.stripChars x y = PySem.Str.empty := by
  have hl : stripLo y.cps.contains true x = x.length := by
    simp only [stripLo, if_true]
    have : ∀ l : List Nat, (∀ c ∈ l, y.cps.contains c = true) → l.takeWhile y.cps.contains = l := by
      intro l
      induction l with
      | nil => intro _; rfl
      | cons a r ih => intro h; rw [List.takeWhile_cons, if_pos (h a (.head _)), ih fun c hc => h c (.tail _ hc)]
    rw [this _ h]
    simp [PySem.Str.length]
  have hh : stripHi y.cps.contains true x x.length = x.length := by
    simp only [stripHi, if_true]
    rw [List.drop_of_length_le (by simp [PySem.Str.length])]
    simp
  unfold Txt.stripChars Txt.stripBy
  split
  · rename_i hs
    unfold stripSame at hs
    rw [hl, hh] at hs
    simp only [beq_self_eq_true, Bool.and_true, beq_iff_eq] at hs
    obtain ⟨⟨l⟩⟩ := x
    simp only [PySem.Str.length, List.size_toArray] at hs
    have : l = [] := List.length_eq_zero_iff.mp hs
    subst this
    rfl
  · unfold PySem.stripped
    rw [hl, hh]
    simp [Builtin.Str.strSub, PySem.Str.empty, PySem.Str.length]
theorem word_mem {n c : Nat} (h : c ∈ (wordOf n).cps.toList) : 65 ≤ c ∧ c < 81 := letters_in n c (by simpa [wordOf] using h)
theorem strip_word (n : Nat) : Txt.stripChars (wordOf n) (PySem.Str.ofString "ABCDEFGHIJKLMNOP") = PySem.Str.empty := by
  refine strip_all _ _ fun c hc => ?_
  have h := word_mem hc
  have all : ∀ j : Fin 16, (PySem.Str.ofString "ABCDEFGHIJKLMNOP").cps.contains (65 + j.val) = true := by decide +kernel
  have := all ⟨c - 65, by omega⟩
  rw [show 65 + (c - 65) = c from by omega] at this
  exact this
theorem letters_head : ∀ n : Nat, n ≠ 0 → ∃ c l, letters n = c :: l ∧ 65 < c := by
  intro n
  induction n using Nat.strongRecOn with
  | ind n ih =>
    intro h
    rw [letters_pos h]
    by_cases e : n / 16 = 0
    · rw [e, letters_zero]; exact ⟨_, _, rfl, by omega⟩
    · obtain ⟨c, l, e1, e2⟩ := ih (n / 16) (by omega) e
      exact ⟨c, l ++ [65 + n % 16], by rw [e1]; rfl, e2⟩
theorem first_not_A (n : Nat) : (Txt.slice (wordOf n) none (some 1) == PySem.Str.ofString "A") = false := by
  cases hq : (Txt.slice (wordOf n) none (some 1) == PySem.Str.ofString "A") with
  | false => rfl
  | true =>
    exfalso
    have e := congrArg (fun x : PySem.Str => x.cps.toList) (eq_of_beq hq)
    rw [slice_cps, show (PySem.Str.ofString "A").cps.toList = [65] from by decide +kernel] at e
    by_cases h : n = 0
    · subst h
      simp [wordOf, letters_zero] at e
    · obtain ⟨c, l, e1, e2⟩ := letters_head n h
      have e3 : (wordOf n).length = l.length + 1 := by simp [wordOf, PySem.Str.length, e1]
      have e4 : clipAt (wordOf n).length 1 = 1 := by rw [e3]; exact (clipAt_nat _ 1).trans (Nat.min_eq_left (Nat.le_add_left 1 _))
      simp only [Option.elim] at e
      rw [e4] at e
      simp [wordOf, e1] at e
      omega
theorem word_len {n : Nat} (hn : n < 2 ^ 64) : (wordOf n).length ≤ 16 := by
  have := letters_len 16 n (by have : (2 : Nat) ^ 64 = 16 ^ 16 := by decide
                               omega)
  simpa [wordOf, PySem.Str.length] using this


set_option maxHeartbeats 4000000 in
theorem fits_c {prog : Program} {w : World} {A : Around} {s : Shared} {h₀ : Heap} {L : Addr} {m : Str → Option Value} {news : List (Addr × Obj)} {Q E : Value → Shared → Prop} {n : Nat} {x : Int} {t u : Tok} (hn : n < 2 ^ 64) (hx : x = n)
    (S : Site w 2 A h₀ L) (F : Fr h₀ L s.heap m) (N : News h₀ L s.heap news)
    (hret : ∀ h' tk', Fr h₀ L h' m → News h₀ L h' news → Q (.bool true) { s with heap := h', toks := tk' }) :
    wpAny (model prog w) A (call (.ref 105) [.str (wordOf n) t, .int x u]) Q E s := by
  k_with_none
  (k_with "call ref" => (((with_reducible show wpAny _ _ (call (Value.ref 98) _) _ _ _); (refine number_c (Site.near (by assumption) (by assumption) (by assumption) rfl (by assumption) (by assumption)) (by assumption) (by assumption) ?_); intro _ _ _ _ _; try dsimp only)))
  (k_with "call builtin:str.strip" => ((refine SC.stripChars (fun _ _ => ?_) (by rw [sizeLine_eq]; omega); (rw [strip_word]); (try dsimp only))))
  refine enter [("word", .str (wordOf n) t), ("number", .int x u)] S F N (by k_is) (by k_is) (by rfl) (by rfl) (by simp [ofString_inj]) ?_
  intro p loose mean mg mb dp un gd outer A₀ base g h₁ L' tk B' X' T' hdp hun FG F' N'
  dsimp only [bm] at F'
  clear F N S
  have hlen := word_len hn
  k_steps
  · rename_i hA
    rw [first_not_A] at hA
    cases hA
  · have e : (numL (wordOf n).cps.toList == x) = true := by
      rw [show (wordOf n).cps.toList = letters n from by simp [wordOf], numL_letters, hx]
      exact beq_self_eq_true _
    rw [e]
    exact leaveK_ (by assumption) (by assumption) fun kF kN => hret _ _ kF kN
end

section
open PySem PySem.W PyProof PyProof.Rows PySem.Calls PySem.Spec
set_option Elab.async false
set_option maxRecDepth 100000
example : True := by k_with_none; w_top off; trivial
example : (PySem.Challenge.rw_wn0020_01 = PySem.Challenge.rw_wn0020_01) ∧ (hd.heap_39 = hd.heap_39) := by k_fill; exact ⟨rfl, rfl⟩

def dressed (l : List Nat) (manner : Nat) : List Nat :=
  if l = [] ∨ manner = 2 then [34] ++ l ++ [34] else if manner = 1 then l.flatMap fun c => [92, c] else l

theorem paired_index {α β : Type} {G : α → β → Prop} : ∀ {l₁ : List α} {l₂ : List β}, Paired G l₁ l₂ → l₁.length = l₂.length ∧ ∀ (i : Nat) (a : α) (b : β), l₁[i]? = some a → l₂[i]? = some b → G a b
  | _, _, .nil => ⟨rfl, fun i a b h => by simp at h⟩
  | _, _, .cons h r => ⟨by rw [List.length_cons, List.length_cons, (paired_index r).1], fun i a b ha hb => by
      cases i with
      | zero => simp at ha hb; subst ha hb; exact h
      | succ i => simp at ha hb; exact (paired_index r).2 i a b ha hb⟩

theorem pull {z : PySem.Str} (g : Nat → PySem.Str) {vs ys : List Value} (hlen : vs.length = z.cps.size) (hP : ∀ j v, vs[j]? = some v → SignAt z j v)
    (hF : Paired (fun v y => ∃ c u u', v = Value.str ⟨#[c]⟩ u ∧ y = Value.str (g c) u') vs ys) : ∃ l : List (PySem.Str × Tok), ys = strValues l ∧ l.map (·.1) = z.cps.toList.map g := by
  obtain ⟨h1, h2⟩ := paired_index hF
  have key : ∀ (cs : List Nat) (ys : List Value), cs.length = ys.length → (∀ (i c : Nat), cs[i]? = some c → ∃ u, ys[i]? = some (Value.str (g c) u)) → ∃ l : List (PySem.Str × Tok), ys = strValues l ∧ l.map (·.1) = cs.map g := by
    intro cs
    induction cs with
    | nil => intro ys h _; have : ys = [] := List.length_eq_zero_iff.mp h.symm
             exact ⟨[], by rw [this]; rfl, rfl⟩
    | cons c r ih =>
      intro ys h hh
      cases ys with
      | nil => simp at h
      | cons y ys =>
        obtain ⟨u, hu⟩ := hh 0 c (by simp)
        obtain ⟨l, e1, e2⟩ := ih ys (by simpa using h) fun i c hc => hh (i + 1) c (by simpa using hc)
        simp at hu
        exact ⟨(g c, u) :: l, by rw [e1, hu]; rfl, by simp [e2]⟩
  refine key _ _ (by rw [← h1, hlen]; simp) fun i c hc => ?_
  have hi : i < vs.length := by rw [hlen]; have := (List.getElem?_eq_some_iff.mp hc).1; simpa using this
  obtain ⟨c', u, e1, e2⟩ := hP i vs[i] (by simp [hi])
  have hc' : z.cps[i]? = some c := by simpa using hc
  have : c' = c := by rw [e1] at hc'; exact Option.some.inj hc'
  subst this
  have hy : i < ys.length := by rw [← h1]; exact hi
  obtain ⟨c₂, u₂, u₃, e3, e4⟩ := h2 i vs[i] ys[i] (by simp [hi]) (by simp [hy])
  rw [e2] at e3
  have : c₂ = c' := by injection e3 with a _; injection a with a; simpa using a.symm
  subst this
  exact ⟨u₃, by simp [hy, e4]⟩

theorem join_pairs (l : List Nat) : Txt.join (PySem.Str.ofString "") (l.map fun c => (⟨#[92, c]⟩ : PySem.Str)) = ⟨(l.flatMap fun c => [92, c]).toArray⟩ := by
  rw [show Txt.join (PySem.Str.ofString "") (l.map fun c => (⟨#[92, c]⟩ : PySem.Str)) = PySem.Str.join (PySem.Str.ofString "") (l.map fun c => (⟨#[92, c]⟩ : PySem.Str)) from StrLaws.glued_eq_join _ _]
  have e : PySem.Str.ofString "" = PySem.Str.empty := by decide
  rw [e]
  have step : ∀ (c : Nat) (r : List Nat), PySem.Str.join PySem.Str.empty ((c :: r).map fun c => (⟨#[92, c]⟩ : PySem.Str)) = (⟨#[92, c]⟩ : PySem.Str) ++ PySem.Str.join PySem.Str.empty (r.map fun c => (⟨#[92, c]⟩ : PySem.Str)) := by
    intro c r
    cases r with
    | nil => exact str_ext (by show [92, c] = (#[92, c] ++ #[]).toList; simp)
    | cons d r =>
      show ((⟨#[92, c]⟩ : PySem.Str) ++ PySem.Str.empty) ++ _ = _
      congr 1
  induction l with
  | nil => rfl
  | cons c r ih =>
    rw [step, ih]
    exact str_ext (by show (#[92, c] ++ (r.flatMap fun c => [92, c]).toArray).toList = _; simp)
theorem join_ok (l : List Nat) (h : l.length ≤ 16) : JoinOk (PySem.Str.ofString "") (l.map fun c => (⟨#[92, c]⟩ : PySem.Str)) = true := by
  unfold JoinOk
  rw [StrLaws.joinFits (B := 2)]
  · rfl
  · intro y hy
    obtain ⟨c, _, rfl⟩ := List.mem_map.mp hy
    exact Nat.le_refl _
  · rw [List.length_map, show (PySem.Str.ofString "").length = 0 from by decide]
    omega


set_option maxHeartbeats 4000000 in
theorem dressed_c {prog : Program} {w : World} {A : Around} {s : Shared} {h₀ : Heap} {L : Addr} {m : Str → Option Value} {news : List (Addr × Obj)} {Q E : Value → Shared → Prop} {z : PySem.Str} {j : Nat} {x : Int} {t u : Tok} (hz : z.length ≤ 16) (hx : x = j)
    (S : Site w 2 A h₀ L) (F : Fr h₀ L s.heap m) (N : News h₀ L s.heap news)
    (hret : ∀ t' h' tk', Fr h₀ L h' m → News h₀ L h' news → Q (.str ⟨(dressed z.cps.toList j).toArray⟩ t') { s with heap := h', toks := tk' }) :
    wpAny (model prog w) A (call (.ref 110) [.str z t, .int x u]) Q E s := by
  k_with_none
  (k_with "eval ListComp" => (refine stop ?_))
  refine enter [("word", .str z t), ("manner", .int x u)] S F N (by k_is) (by k_is) (by rfl) (by rfl) (by simp [ofString_inj]) ?_
  intro p loose mean mg mb dp un gd outer A₀ base g h₁ L' tk B' X' T' hdp hun FG F' N'
  dsimp only [bm] at F'
  clear F N S
  have e1 : Str.ofString "\"" = ⟨#[34]⟩ := by decide
  have e2 : ∀ z : PySem.Str, (Str.ofString "\"" ++ z ++ Str.ofString "\"") = ⟨([34] ++ z.cps.toList ++ [34]).toArray⟩ := by
    intro z
    rw [e1]
    apply str_ext
    show ((#[34] ++ z.cps) ++ #[34]).toList = _
    simp
  have e3 : (z == Str.ofString "") = true ↔ z.cps.toList = [] := by
    rw [beq_iff_eq, show Str.ofString "" = ⟨#[]⟩ from by decide]
    constructor
    · intro h; rw [h]
    · intro h; exact str_ext h
  k_steps
  · rename_i hE _ _ _ _ _ _ _
    refine leaveK_ F' N' fun kF kN => ?_
    have e : (Str.ofString "\"" ++ z ++ Str.ofString "\"") = ⟨(dressed z.cps.toList j).toArray⟩ := by
      rw [e2, dressed, if_pos (.inl (e3.mp (by assumption)))]
    rw [e]
    exact hret _ _ _ kF kN
  · refine leaveK_ F' N' fun kF kN => ?_
    have e : (Str.ofString "\"" ++ z ++ Str.ofString "\"") = ⟨(dressed z.cps.toList j).toArray⟩ := by
      rw [e2, dressed, if_pos (.inr (by omega))]
    rw [e]
    exact hret _ _ _ kF kN
  · refine Stop.go (wpAny_ListComp_free (cl := []) (fun _ => true) (fun v y => ∃ c u u', v = Value.str ⟨#[c]⟩ u ∧ y = Value.str ⟨#[92, c]⟩ u') rfl (by decide) rfl (by decide) rfl ?_)
    refine ld F' rfl ?_
    refine wpAny_pyIter_str fun o St W hSt => ⟨_, _, _, _, _, St, rfl, W _ rfl, ?_, hSt, ?_, ?_, ?_⟩
    · show z.length ≤ sizeLine
      rw [sizeLine_eq]; omega
    · intro b hb
      rw [List.mem_singleton.mp hb]
      show _ < (Heap.push _ o).objs.size
      rw [Heap.size_push]; exact Nat.lt_succ_self _
    · refine ⟨fun C i v s₃ m₃ E' _ hP hn hm hk htk => ?_, fun C i v s₃ m₃ E' _ hP _ hn hm hk htk => ?_⟩
      · exact wpAny_pure ⟨rfl, _, _, rfl, fun _ _ e => e⟩
      · obtain ⟨c, u₁, hc, rfl⟩ := hP
        k_steps
        exact ⟨_, _, rfl, fun _ _ e => e⟩
    · intro D h' tk' ys vs hD hl hpl hlen hP hF hk
      rw [List.filter_eq_self.mpr (fun _ _ => rfl)] at hF
      obtain ⟨l, el, et⟩ := pull (fun c => ⟨#[92, c]⟩) hlen hP hF
      have F₂ := LCg.fr_but (F'.push _) hk (Nat.ne_of_lt F'.ns.lt) (next_is_new F')
      have N₂ : News g L' h' news := LCg.news_but (fun p hp => ⟨Heap.get?_push_of_some _ (N' p hp).1, (N' p hp).2⟩) hk fun p hp => Nat.ne_of_lt (Heap.lt_size (N' p hp).1)
      have hl' : h'.IsList D (strValues l).toArray := by rw [← el]; simpa using hl
      clear hF hP hlen hpl hk W hSt hl el
      k_steps
      refine SC.join hl' et ?_ fun t₃ tk₃ => ?_
      · exact join_ok _ (by simpa [PySem.Str.length] using hz)
      · k_steps
        refine leaveK_ F₂ N₂ fun kF kN => ?_
        have hj : j = 1 := by omega
        have hne : z.cps.toList ≠ [] := fun h => by
          have := e3.mpr h
          simp_all
        have e : (dressed z.cps.toList j) = z.cps.toList.flatMap fun c => [92, c] := by
          rw [dressed, if_neg (by rw [hj]; simp [hne]), if_pos hj]
        rw [join_pairs, ← e]
        exact hret _ _ _ kF kN
  · refine leaveK_ F' N' fun kF kN => ?_
    have hne : z.cps.toList ≠ [] := fun h => by
      have := e3.mpr h
      simp_all
    have e : z = ⟨(dressed z.cps.toList j).toArray⟩ := by
      rw [dressed, if_neg (by simp [hne]; omega), if_neg (by omega)]
    have h1 := fun tk => hret t h₁ tk kF kN
    rw [← e] at h1
    exact h1 _
end

section
open PySem PySem.W PyProof PyProof.Rows PySem.Calls PySem.Spec
set_option Elab.async false
set_option maxRecDepth 100000
example : True := by k_with_none; w_top off; trivial
example : (PySem.Challenge.rw_wn0020_01 = PySem.Challenge.rw_wn0020_01) ∧ (hd.heap_39 = hd.heap_39) := by k_fill; exact ⟨rfl, rfl⟩

def choiceOf (d : Int) : Nat := ((d.fdiv 4096).fmod 12).toNat
def piece (n d : Int) : List Nat := dressed (letters n.toNat) (choiceOf d % 3)
def sepOf (d : Int) : Nat := [32, 9, 10, 13].getD (choiceOf d / 3) 0
def textTo (told drawn : List Int) (i : Nat) : List Nat := (List.range i).flatMap fun k => piece (told.getD k 0) (drawn.getD k 0) ++ if k < 5 then [sepOf (drawn.getD k 0)] else []

theorem dressed_len (l : List Nat) (j : Nat) (h : l.length ≤ 16) : (dressed l j).length ≤ 34 := by
  unfold dressed
  have hf : ∀ l : List Nat, (l.flatMap fun c => [92, c]).length = 2 * l.length := by
    intro l
    induction l with
    | nil => rfl
    | cons c r ih => rw [List.flatMap_cons, List.length_append, ih]; simp; omega
  split
  · simp; omega
  · split
    · rw [hf]; omega
    · omega
theorem word_lets (n : Nat) : (wordOf n).cps.toList = letters n := by simp [wordOf]
theorem letters_len64 {n : Nat} (hn : n < 2 ^ 64) : (letters n).length ≤ 16 :=
  letters_len 16 n (by have : (2 : Nat) ^ 64 = 16 ^ 16 := by decide
                       omega)
theorem getD_bound {told : List Int} (hb : ∀ x ∈ told, 0 ≤ x ∧ x < 2 ^ 64) (k : Nat) : 0 ≤ told.getD k 0 ∧ told.getD k 0 < 2 ^ 64 := by
  by_cases h : k < told.length
  · rw [show told.getD k 0 = told[k] from by simp [List.getD, h]]
    exact hb _ (List.getElem_mem h)
  · rw [show told.getD k 0 = 0 from by simp [List.getD, h]]
    decide
theorem piece_len {told : List Int} (hb : ∀ x ∈ told, 0 ≤ x ∧ x < 2 ^ 64) (k : Nat) (d : Int) : (piece (told.getD k 0) d).length ≤ 34 :=
  dressed_len _ _ (letters_len64 (by have := getD_bound hb k; omega))
theorem textTo_snoc (told drawn : List Int) (i : Nat) : textTo told drawn (i + 1) = textTo told drawn i ++ (piece (told.getD i 0) (drawn.getD i 0) ++ if i < 5 then [sepOf (drawn.getD i 0)] else []) := by
  unfold textTo
  rw [List.range_succ, List.flatMap_append]
  simp
theorem textTo_len {told drawn : List Int} (hb : ∀ x ∈ told, 0 ≤ x ∧ x < 2 ^ 64) : ∀ i : Nat, (textTo told drawn i).length ≤ 35 * i
  | 0 => by simp [textTo]
  | i + 1 => by
    rw [textTo_snoc, List.length_append, List.length_append]
    have h1 := textTo_len (drawn := drawn) hb i
    have h2 := piece_len hb i (drawn.getD i 0)
    have h3 : (if i < 5 then [sepOf (drawn.getD i 0)] else []).length ≤ 1 := by split <;> simp
    omega

theorem choice_lt (d : Int) : choiceOf d < 12 := by
  unfold choiceOf
  rw [Int.fmod_eq_emod_of_nonneg _ (by decide)]
  omega
theorem item_sep (d : Int) : Txt.item (Str.ofString " \t\n\x0d") (((d.fdiv 4096).fmod 12).fdiv 3) = ⟨#[sepOf d]⟩ := by
  have hch : (d.fdiv 4096).fmod 12 = (choiceOf d : Int) := by
    unfold choiceOf
    rw [Int.toNat_of_nonneg (by rw [Int.fmod_eq_emod_of_nonneg _ (by decide)]; omega)]
  rw [hch]
  unfold sepOf
  have all : ∀ j : Fin 12, Txt.item (Str.ofString " \t\n\x0d") (((j.val : Nat) : Int).fdiv 3) = ⟨#[[32, 9, 10, 13].getD (j.val / 3) 0]⟩ := by decide +kernel
  exact all ⟨choiceOf d, choice_lt d⟩
theorem text_step1 (told drawn : List Int) (i : Nat) (hi : i < 5) : (⟨(textTo told drawn i).toArray⟩ : PySem.Str) ++ ⟨(dressed (wordOf (told.getD (i : Int).toNat 0).toNat).cps.toList (choiceOf (drawn.getD (i : Int).toNat 0) % 3)).toArray⟩ ++ Txt.item (Str.ofString " \t\n\x0d") ((((drawn.getD (i : Int).toNat 0).fdiv 4096).fmod 12).fdiv 3) = ⟨(textTo told drawn (i + 1)).toArray⟩ := by
  rw [item_sep, word_lets, textTo_snoc, if_pos hi]
  apply str_ext
  show ((_ ++ _) ++ _ : Array Nat).toList = _
  simp [piece]
theorem text_step2 (told drawn : List Int) (i : Nat) (hi : ¬ i < 5) : (⟨(textTo told drawn i).toArray⟩ : PySem.Str) ++ ⟨(dressed (wordOf (told.getD (i : Int).toNat 0).toNat).cps.toList (choiceOf (drawn.getD (i : Int).toNat 0) % 3)).toArray⟩ = ⟨(textTo told drawn (i + 1)).toArray⟩ := by
  rw [word_lets, textTo_snoc, if_neg hi]
  apply str_ext
  show (_ ++ _ : Array Nat).toList = _
  simp [piece]

abbrev listO (vs : List Value) (n : Nat) : Obj := { cls := .type "list", data := .seq vs.toArray n }

theorem item_led {prog : Program} {w : World} {A : Around} {s : Shared} {h₀ : Heap} {L : Addr} {news : List (Addr × Obj)} {Q E : Value → Shared → Prop} {value slice : PySem.Expr} {l : Addr} {vs : List Value} {n : Nat} {ns : List Int} {k : Int} {u : Tok}
    (N : News h₀ L s.heap news) (hm : (l, listO vs n) ∈ news) (hi : IntsAre vs ns) (h0 : 0 ≤ k) (hk : k < ns.length) (hz : k < 2 ^ 62) (h : ∀ t, Q (.int (ns.getD k.toNat 0) t) s)
    (hs : subscripted slice false (.ref l) (.int k u) = operate [.ref l, .int k u] (getItem (.ref l) (.int k u)) := by with_unfolding_all rfl) :
    wpAny (model prog w) A (subscriptTail value slice (.ref l) (.int k u)) Q E s := by
  have hl : s.heap.IsList l vs.toArray := ⟨_, (N _ hm).1, rfl, n, rfl⟩
  have hk' : k.toNat < ns.length := by omega
  obtain ⟨t, ht⟩ := hi.get k.toNat ns[k.toNat] (by simp [hk'])
  refine tail_any hl.typeIs slot_list_getitem.lookup (wpAny_getItem_list hl h0 (by omega) (by simpa using ht) ?_) hs
  have := h t
  rw [show ns.getD k.toNat 0 = ns[k.toNat] from by simp [List.getD, hk']] at this
  exact this


set_option maxHeartbeats 4000000 in
theorem text_c {prog : Program} {w : World} {A : Around} {s : Shared} {h₀ : Heap} {L : Addr} {m : Str → Option Value} {news : List (Addr × Obj)} {Q E : Value → Shared → Prop} {aT aD : Addr} {vT vD : List Value} {nT nD : Nat} {told drawn : List Int}
    (hT : (aT, listO vT nT) ∈ news) (hD : (aD, listO vD nD) ∈ news) (iT : IntsAre vT told) (iD : IntsAre vD drawn) (lT : told.length = 6) (lD : drawn.length = 6) (hb : ∀ x ∈ told, 0 ≤ x ∧ x < 2 ^ 64)
    (S : Site w 4 A h₀ L) (F : Fr h₀ L s.heap m) (N : News h₀ L s.heap news)
    (hret : ∀ t' h' tk', Fr h₀ L h' m → News h₀ L h' news → Q (.str ⟨(textTo told drawn 6).toArray⟩ t') { s with heap := h', toks := tk' }) :
    wpAny (model prog w) A (call (.ref 117) [.ref aT, .ref aD]) Q E s := by
  k_with_none
  (k_with "exec For Name Call cons nil" => (refine stop ?_))
  (k_with "pyIter ref" => (refine stop ?_))
  (k_with "subscriptTail Name Name ref int" => ((refine item_led (by assumption) (by first | assumption | (refine List.mem_append_left _ ?_; assumption)) (by assumption) (by omega) (by omega) (by omega) ?_; intro _)))
  (k_with "call ref" => (((with_reducible show wpAny _ _ (call (Value.ref 91) _) _ _ _); (refine word_i (by omega) (by omega) (Site.near (by assumption) (by assumption) (by assumption) rfl (by assumption) (by assumption)) (by assumption) (by assumption) ?_); intro _ _ _ _ _; try dsimp only)))
  (k_with "call ref" => (((with_reducible show wpAny _ _ (call (Value.ref 110) _) _ _ _); (refine dressed_c (j := _) (word_len (by omega)) (by assumption) (Site.near (by assumption) (by assumption) (by assumption) rfl (by assumption) (by assumption)) (by assumption) (by assumption) ?_); intro _ _ _ _ _; try dsimp only)))
  refine enter [("told", .ref aT), ("drawn", .ref aD)] S F N (by k_is) (by k_is) (by rfl) (by rfl) (by simp [ofString_inj]) ?_
  intro p loose mean mg mb dp un gd outer A₀ base g h₁ L' tk B' X' T' hdp hun FG F' N'
  dsimp only [bm] at F'
  clear F N S
  k_steps
  rename Fr g L' _ _ => F''
  rename News g L' _ _ => N''
  refine Stop.go (for_walk (h₀ := g) rfl rfl ?_)
  k_steps
  rename IsRange _ _ _ _ _ _ _ _ => hr
  rename Fr g L' _ _ => F₀
  rename News g L' _ _ => N₀
  refine Stop.go (iter_range (n := 6) rfl (fun i m₁ news₁ => news₁ = news ∧ ∃ t o₁ o₂, m₁ = bo [("text", some (.str ⟨(textTo told drawn i).toArray⟩ t)), ("told", some (.ref aT)), ("drawn", some (.ref aD)), ("k", o₁), ("choice", o₂)]) hr (by decide) (by rfl) F₀ N₀ ?_ ?_ ?_)
  · exact ⟨rfl, _, none, none, funext (bo_eq _ ⟨rfl, rfl, rfl, rfl, rfl, trivial⟩ (fun y hy => by simp only [Off] at hy; simp [hy]))⟩
  · rintro i t' I m₁ news₁ own h tk hi ⟨rfl, t₁, o₁, o₂, rfl⟩ hl ha ho F₁ N₁
    clear hr F₀ N₀
    rw [show (0 : Int) + (i : Int) * 1 = i from by omega] at F₁
    dsimp only [bo] at F₁
    have hl1 : (⟨(textTo told drawn i).toArray⟩ : PySem.Str).length ≤ 210 := by
      have := textTo_len (drawn := drawn) hb i
      show (textTo told drawn i).toArray.size ≤ 210
      simp; omega
    have hl2 : (⟨(dressed (wordOf (told.getD (i : Int).toNat 0).toNat).cps.toList (choiceOf (drawn.getD (i : Int).toNat 0) % 3)).toArray⟩ : PySem.Str).length ≤ 34 := by
      show (dressed _ _).toArray.size ≤ 34
      rw [List.size_toArray, word_lets]
      exact piece_len hb _ _
    have hbi : 0 ≤ told.getD (i : Int).toNat 0 ∧ told.getD (i : Int).toNat 0 < 2 ^ 64 := by
      have h : (i : Int).toNat < told.length := by omega
      have h' : i < told.length := by omega
      rw [show told.getD (i : Int).toNat 0 = told[(i : Int).toNat] from by simp [List.getD, h']]
      exact hb _ (List.getElem_mem h)
    have hch : ((drawn.getD (i : Int).toNat 0).fdiv 4096).fmod 12 = (choiceOf (drawn.getD (i : Int).toNat 0) : Int) := by
      unfold choiceOf
      rw [Int.toNat_of_nonneg (by rw [Int.fmod_eq_emod_of_nonneg _ (by decide)]; omega)]
    have hcm : (((drawn.getD (i : Int).toNat 0).fdiv 4096).fmod 12).fmod 3 = ((choiceOf (drawn.getD (i : Int).toNat 0) % 3 : Nat) : Int) := by
      rw [hch, Int.fmod_eq_emod_of_nonneg _ (by decide)]; simp
    k_steps
    · rename Fr g L' _ _ => F₂
      rename News g L' _ _ => N₂
      rw [text_step1 told drawn i (by omega)] at F₂
      exact Stop.go (TurnEnd.intro F₂ N₂ ha ⟨rfl, _, _, _, funext (bo_eq _ ⟨rfl, rfl, rfl, rfl, rfl, trivial⟩ (fun y hy => by simp only [Off] at hy; simp [hy]))⟩)
    · rename Fr g L' _ _ => F₂
      rename News g L' _ _ => N₂
      rw [text_step2 told drawn i (by omega)] at F₂
      exact Stop.go (TurnEnd.intro F₂ N₂ ha ⟨rfl, _, _, _, funext (bo_eq _ ⟨rfl, rfl, rfl, rfl, rfl, trivial⟩ (fun y hy => by simp only [Off] at hy; simp [hy]))⟩)
  · rintro m₁ news₁ h tk ⟨rfl, t₁, o₁, o₂, rfl⟩ F₁ N₁
    dsimp only [bo] at F₁
    k_steps
    exact leaveK_ F₁ N₁ fun kF kN => hret _ _ _ kF kN
end

section
open PySem PySem.W PyProof PyProof.Rows PySem.Calls PySem.Spec
set_option Elab.async false
set_option maxRecDepth 100000
set_option pp.deepTerms false
theorem slot_ci_next : Slot "callable_iterator" "__next__" "callable_iterator.__next__" :=
  .of (owner := "callable_iterator") (n := "__next__") (by rw [typeLookup_type, builtinLookup_eq_fast]; kernel_rfl) (by decide +kernel) (by decide +kernel) (by decide +kernel)
    (by first | exact .inl (by decide +kernel) | exact .inr (by decide +kernel)) (by rw [isSubtype_type]; kernel_rfl)
theorem slot_ci_iter : Slot "callable_iterator" "__iter__" "callable_iterator.__iter__" :=
  .of (owner := "callable_iterator") (n := "__iter__") (by rw [typeLookup_type, builtinLookup_eq_fast]; kernel_rfl) (by decide +kernel) (by decide +kernel) (by decide +kernel)
    (by first | exact .inl (by decide +kernel) | exact .inr (by decide +kernel)) (by rw [isSubtype_type]; kernel_rfl)
theorem entry_ci_next : entryFor table "callable_iterator.__next__" = some Builtin.«callable_iterator.__next__» := entryFor_of_fast (by kernel_rfl)
theorem entry_ci_iter : entryFor table "callable_iterator.__iter__" = some Builtin.«dict_keyiterator.__iter__» :=
  entryFor_alias (id' := "dict_keyiterator.__iter__") (by kernel_rfl) rfl (by decide +kernel) (by kernel_rfl)
theorem args_ci_next (a : Value) : argsOk "callable_iterator.__next__" ⟨[a], []⟩ := by unfold argsOk; kernel_rfl
theorem args_ci_iter (a : Value) : argsOk "callable_iterator.__iter__" ⟨[a], []⟩ := by unfold argsOk; kernel_rfl
theorem look_method_call : typeLookup (.type "method") "__call__" = pure (some (.builtin "method.__call__")) := by rw [typeLookup_type, builtinLookup_eq_fast]; kernel_rfl
theorem kind_iter : builtinKind "iter" = none := by decide +kernel
theorem plain_iter : plainId "iter" = true := by decide +kernel
theorem entry_iter : entryFor table "iter" = some Builtin.«iter» := entryFor_of_fast (by kernel_rfl)
theorem args_iter_2 (a b : Value) : argsOk "iter" ⟨[a, b], []⟩ := by unfold argsOk; kernel_rfl

abbrev callIt (f sent : Value) : Obj := { cls := .type "callable_iterator", data := .fields #[f, sent, .bool false] }
abbrev callItOff : Obj := { cls := .type "callable_iterator", data := .fields #[.none, .none, .bool true] }

section
variable {prog : Program} {w : World} {A : Around} {E : Value → Shared → Prop} {s : Shared}

theorem iter_two {q : Addr} {f x sent : Value} {Q : Value → Shared → Prop} (hq : s.heap.get? q = some (methodObj f x))
    (h : Q (.ref s.heap.objs.size) { s with heap := s.heap.push (callIt (.ref q) sent) }) : wpAny (model prog w) A (call (.builtin "iter") [.ref q, sent]) Q E s := by
  refine call_function_entry kind_iter plain_iter entry_iter (args_iter_2 _ _) ?_
  unfold Builtin.«iter»
  refine wpAny_bind (m := someArgs "iter" 1 2 _) (wpAny_of_eq (a := [Value.ref q, sent]) (by first | rfl | kernel_rfl!) ?_)
  show wpAny _ _ (specialOf (.ref q) "__call__" >>= _) _ _ _
  refine wpAny_bind (wpAny_specialOf ⟨_, hq, rfl⟩ look_method_call ?_)
  show wpAny _ _ (rule "iter.sentinel" >>= _) _ _ _
  refine wpAny_bind (wpAny_rule ?_)
  show wpAny _ _ (newFields "callable_iterator" [.ref q, sent, .bool false] >>= _) _ _ _
  exact wpAny_bind (wpAny_newObj_type (wpAny_pure ⟨_, rfl, h⟩))

theorem pyIter_ci {I : Addr} {o : Obj} {Q : Value → Shared → Prop} (hI : s.heap.get? I = some o) (hc : o.cls = .type "callable_iterator") (h : Q (.ref I) s) : wpAny (model prog w) A (pyIter (.ref I)) Q E s := by
  refine wpAny_pyIter_slot ⟨_, hI, hc⟩ slot_ci_iter (wpAny_call_entry slot_ci_iter ⟨_, hI, hc⟩ entry_ci_iter ?_ (args_ci_iter _))
  show wpAny _ _ (ret (.ref I)) _ _ s
  exact wpAny_pure ⟨_, rfl, "callable_iterator", _, ⟨_, hI, hc⟩, slot_ci_next.lookup, h⟩

theorem wpAny_callBorrowed {M : Model} {f : Value} {pos : List Value} {Q : Value → Shared → Prop} (h : codeAny M A (.call f ⟨pos, []⟩) (fun r s' => match r with | .ok (.ret v) => Q v s' | .ok _ => False | .error e => E e s') s) : wpAny M A (callBorrowed f pos) Q E s := fun Γ p hΓ => by
  unfold callBorrowed
  rw [Sem.wp_call]
  refine wpCode_mono (fun r s' h' => ?_) (h _ p rfl (hΓ.enter (.call f ⟨pos, []⟩) none p (by intro x; cases x)))
  rcases r with e | f
  · exact h'
  · cases f <;> first | exact h' | exact h'.elim

theorem stopIt {α : Type} {Q : α → Shared → Prop} (hh : A.handled = none) (h : ∀ e h', (∀ b o, s.heap.get? b = some o → h'.get? b = some o) → ({ s with heap := h' } : Shared).TypeIs e "StopIteration" → E e { s with heap := h' }) :
    wpAny (model prog w) A.in1 (Builtin.SmallTypes.stopIteration (α := α)) Q E s := by
  show wpAny _ _ (newExc (.type "StopIteration") [] >>= _) _ _ _
  refine wpAny_bind ?_
  simp only [newExc, newTuple]
  refine wpAny_bind (wpAny_newObj_type ?_ (by size_fits))
  refine wpAny_bind (m := firstArgMember _ _) (wpAny_of_eq (a := Value.none) (by first | rfl | (simp only [firstArgMember]; rfl)) ?_)
  refine wpAny_newObj_type ?_ (by size_fits)
  simp only [raiseNew]
  refine wpAny_bind (wpAny_handled ?_)
  rw [show A.in1.handled = none from hh]
  exact wpAny_bind (wpAny_pure (wpAny_throw (h (.ref _) _ (fun b o e => Heap.get?_push_of_some _ (Heap.get?_push_of_some _ e)) ⟨_, Heap.get?_push_size _ rfl, rfl⟩)))

theorem borrows_meth {q : Addr} {f : Addr} {x : Value} {fo : Obj} {fd : FuncData} {Q : Bool → Shared → Prop} (hq : s.heap.get? q = some (methodObj (.ref f) x)) (hf : s.heap.get? f = some fo) (hd : fo.data = .func fd) (h : Q true s) :
    wpAny (model prog w) A (borrowsExactly (.ref q)) Q E s := by
  unfold borrowsExactly
  refine wpAny_bind (wpAny_load hq ?_)
  show wpAny _ _ (load f >>= _) _ _ _
  refine wpAny_bind (wpAny_load hf ?_)
  rw [hd]
  exact wpAny_pure h

/-- iter(f, sentinel) asked for its next one -/
theorem pyNext_ci {I q f : Addr} {x : Value} {fo : Obj} {fd : FuncData} {z : PySem.Str} {t : Tok} {Q : Option Value → Shared → Prop} (hh : A.handled = none)
    (hI : s.heap.get? I = some (callIt (.ref q) (.str z t))) (hq : s.heap.get? q = some (methodObj (.ref f) x)) (hf : s.heap.get? f = some fo) (hd : fo.data = .func fd)
    (h : codeAny (model prog w) A.in1 (.call (.ref f) ⟨[x], []⟩) (fun r s' => match r with
      | .ok (.ret v) => ∃ y u, v = .str y u ∧ s'.heap.get? I = some (callIt (.ref q) (.str z t)) ∧ s'.heap.get? q = some (methodObj (.ref f) x) ∧ s'.heap.get? f = some fo ∧
          (z ≠ y → Q (some v) s') ∧ (z = y → ∀ h', Heap.ExtBut I s'.heap h' → h'.get? I = some callItOff → Q none { s' with heap := h' })
      | _ => False) s) : wpAny (model prog w) A (pyNext (.ref I)) Q E s := by
  unfold pyNext
  refine wpAny_bind (wpAny_attempt (wpAny_callSpecial?_slot (name := Str.ofString "__next__") ⟨_, hI, rfl⟩ slot_ci_next
    (wpAny_call_entry slot_ci_next ⟨_, hI, rfl⟩ entry_ci_next ?_ (args_ci_next _))))
  show wpAny _ _ (field (.ref I) 2 >>= _) _ _ s
  refine wpAny_bind (wpAny_field hI rfl (x := .bool false) rfl ?_)
  show wpAny _ _ (field (.ref I) 0 >>= _) _ _ s
  refine wpAny_bind (wpAny_field hI rfl (x := .ref q) rfl ?_)
  refine wpAny_bind (wpAny_attempt ?_)
  unfold callOutOfASlot
  refine wpAny_bind (borrows_meth hq hf hd ?_)
  rw [if_pos rfl]
  refine wpAny_callBorrowed (method_call hq (codeAny_mono h fun r s' h' => ?_))
  rcases r with e | fl
  · exact h'.elim
  cases fl with
  | ret v =>
    obtain ⟨y, u, rfl, hI', hq', hf', h1, h2⟩ := h'
    dsimp only
    refine wpAny_bind (wpAny_field hI' rfl (x := .bool false) rfl ?_)
    show wpAny _ _ (field (.ref I) 1 >>= _) _ _ s'
    refine wpAny_bind (wpAny_field hI' rfl (x := .str z t) rfl ?_)
    refine wpAny_bind (wpAny_holding (wpAny_eqBool_str ?_))
    by_cases e : z = y
    · rw [decide_eq_true e]
      show wpAny _ _ (rule _ >>= _) _ _ _
      refine wpAny_bind (wpAny_rule (wpAny_bind ?_))
      refine wpAny_bind (m := field (.ref I) 0) (wpAny_field hI' rfl (x := .ref q) rfl ?_)
      refine wpAny_bind ?_
      unfold slotLetsGo
      refine wpAny_bind (borrows_meth hq' hf' hd ?_)
      rw [if_pos rfl]
      refine wpAny_pure ?_
      refine wpAny_bind (wpAny_setField_rec hI' (by simp) fun k1 e1 s1 => ?_)
      refine wpAny_bind (wpAny_setField_rec e1 (by simp) fun k2 e2 s2 => ?_)
      refine wpAny_setField_rec e2 (by simp) fun k3 e3 s3 => ?_
      refine stopIt hh fun e h' k te => ?_
      refine wpAny_bind (wpAny_isInstance (T := "StopIteration") (b := true) te isSubtype_stop ?_)
      refine wpAny_pure (h2 ‹_› _ (fun b o hb g => k _ _ ?_) (k _ _ e3))
      rw [s3.2 b hb, s2.2 b hb, s1.2 b hb]; exact g
    · rw [decide_eq_false e]
      exact wpAny_bind (wpAny_pure (wpAny_pure ⟨_, rfl, wpAny_pure (h1 e)⟩))
  | _ => exact h'.elim

theorem pyNext_off {I : Addr} {Q : Option Value → Shared → Prop} (hh : A.handled = none) (hI : s.heap.get? I = some callItOff)
    (h : ∀ h', (∀ b o, s.heap.get? b = some o → h'.get? b = some o) → Q none { s with heap := h' }) : wpAny (model prog w) A (pyNext (.ref I)) Q E s := by
  unfold pyNext
  refine wpAny_bind (wpAny_attempt (wpAny_callSpecial?_slot (name := Str.ofString "__next__") ⟨_, hI, rfl⟩ slot_ci_next
    (wpAny_call_entry slot_ci_next ⟨_, hI, rfl⟩ entry_ci_next ?_ (args_ci_next _))))
  show wpAny _ _ (field (.ref I) 2 >>= _) _ _ s
  refine wpAny_bind (wpAny_field hI rfl (x := .bool true) rfl ?_)
  show wpAny _ _ (rule _ >>= _) _ _ _
  refine wpAny_bind (wpAny_rule ?_)
  refine wpAny_bind (stopIt hh fun e h' k te => ?_)
  refine wpAny_bind (wpAny_isInstance (T := "StopIteration") (b := true) te isSubtype_stop ?_)
  exact wpAny_pure (h _ k)
end

section
variable {prog : Program} {w : World} {A : Around} {s : Shared} {h₀ : Heap} {L : Addr} {m : Str → Option Value} {news : List (Addr × Obj)}
theorem enterXC {need : Nat} {name qual : Str} {params : Arguments} {body : List Stmt} {scope : Scope} {dV kV doc pm cdv ct : Value} {an : Option Addr} {f : Addr} {fo : Obj} {cl : List (Str × Addr)} {args : List Value} (binds : List (Str × Value)) {Q : Value → Shared → Prop}
    (S : Site w (need + 1) A h₀ L) (F : Fr h₀ L s.heap m) (N : News h₀ L s.heap news)
    (ho : s.heap.get? f = some fo) (hfd : fo.data = .func (fnX name qual params body scope cl dV kV doc pm an cdv ct)) (hcd : (hd.heap_39 w.params).In h₀ → s.heap.CodeRec cdv qual)
    (hbind : bindArgs (fnX name qual params body scope cl dV kV doc pm an cdv ct) ⟨args, []⟩ = pure binds) (hloc : (binds.all fun x => decide (scope.names.lookup x.1 = some .local)) = true) (hnd : (binds.map (·.1)).Nodup)
    (h : ∀ (p : Program) (loose : List Str) (mean : ExcName → Option Value) (mg mb : Str → Option Value) (dp un : Nat) (gd : Option (List Code)) (outer : List Env) (A₀ : Around) (base g h₁ : Heap) (L' : Addr) (tk : Nat),
      Below A₀ base outer g → (hd.heap_39 w.params).In g → Top p loose mean mg mb g → dp + need < recursionLimit → un + 8 * need < cLine → Fr g L' h₁ (bm binds) → News g L' h₁ news → (∀ p ∈ news, p.1 < L') →
      wpAny (model prog w) (ktrTop dp un gd qual scope L' f cdv cl outer) (execs body (envX qual scope L' f cdv cl))
        (fun fl s' => EndCall h₀ L m g (news.map (·.1)) s.heap Q (match fl with | .ret v => v | _ => .none) s') NoE
        { s with heap := h₁, toks := tk })
    (hcell : ∀ x ∈ scope.names, x.2 ≠ .cell := by decide) (hco : scope.isCoroutine = false := by rfl) (hgen : scope.isGenerator = false := by rfl) (hk : scope.kind = .function := by rfl) :
    codeAny (model prog w) A (.call (.ref f) ⟨args, []⟩) (fun r s' => match r with | .ok (.ret v) => Q v s' | _ => False) s := by
  obtain ⟨p, loose, mean, mg, mb, dp, un, gd, cn, cs, a, ccd, cl', outer, A₀, base, rfl, B, X, T, hcs, h1, h2⟩ := S
  obtain ⟨FG, BG, st, lv⟩ := groundX (R := fun r s' => match r with | .ok (.ret v) => Q v s' | _ => False) (A := ktrTop dp un gd cn cs L a ccd cl' outer) (env := envX cn cs L a ccd cl') B F N rfl rfl hcs
  refine codeAny_mono (codeAny_call_def (R := fun r s' => match r with | .ok (.ret v) => Q v s' | _ => False) (fd := fnX name qual params body scope cl dV kV doc pm an cdv ct) (body := body) (binds := binds) (by show dp < recursionLimit; omega) ho hfd (T.nolimit.keeps F.keep) (hcd X) rfl (BindsTo.of_eq hbind) hcell (locs hloc) (fun h₁ hns hk₁ => ?_) hco hgen hk) (fun r s' x => by
    cases r with
    | ok f => cases f <;> exact x
    | error e => exact x)
  refine wpAny_mono (h p loose mean mg mb (dp + 1) (un + 3) gd (envX cn cs L a ccd cl' :: outer) _ base _ h₁ s.heap.objs.size (s.toks + binds.length) BG (Frag.In.keeps X st) (T.keeps st) (by omega) (by omega)
    (by have e : (fun y => binds.reverse.lookup y) = bm binds := funext (lookup_bm binds hnd); rw [← e]; exact ⟨hns, fun b o e => hk₁ b o (of_hideAll _ e), Nat.le_of_eq (hideAll_size _ _)⟩)
    (fun p hp => ⟨hk₁ _ _ (N p hp).1, Nat.ne_of_lt (Heap.lt_size (N p hp).1), hideAll_none _ (List.mem_map_of_mem hp)⟩) (fun p hp => Heap.lt_size (N p hp).1)) (fun fl s' hl => endCall_out rfl lv hl) fun _ _ x => x.elim
end
end

section
open PySem PySem.W PyProof PyProof.Rows PySem.Calls PySem.Spec
set_option Elab.async false
set_option maxRecDepth 100000
set_option pp.deepTerms false
example : True := by k_with_none; w_top off; trivial
example : (PySem.Challenge.rw_wn0020_01 = PySem.Challenge.rw_wn0020_01) ∧ (hd.heap_39 = hd.heap_39) := by k_fill; exact ⟨rfl, rfl⟩

/-- the def that _law_lexer makes, out of the given text -/
def readD : Arguments × List Stmt × Scope := match PySem.Challenge.pw_wn0020_01.main.body.drop 8 with
  | .FunctionDef _ _ (_ :: .FunctionDef _ a b _ _ _ sc _ _ _ :: _) _ _ _ _ _ _ _ :: _ => (a, b, sc)
  | _ => (default, [], default)

/-- the text's object that read() looks at: the function, its cells, the list with the place -/
structure ReadAt (rf cT cP : Addr) (fo oT oP : Obj) (z : PySem.Str) (pl : Addr) (cdv : Value) : Prop where
  fn : ∃ doc pm ct, fo.data = .func (fnX "read" "_law_lexer.<locals>.read" readD.1 readD.2.1 readD.2.2 [("text", cT), ("place", cP)] .none .none doc pm none cdv ct)
  text : ∃ t, oT.data = .cell (some (.str z t))
  place : oP.data = .cell (some (.ref pl))

def readLed (cT cP pl : Addr) (oT oP : Obj) (k : Nat) (tk : Tok) (n : Nat) : List (Addr × Obj) := [(cT, oT), (cP, oP), (pl, W.listOf #[.int k tk] n)]


set_option maxHeartbeats 400000 in
theorem read_c {prog : Program} {w : World} {A : Around} {s : Shared} {h₀ : Heap} {L : Addr} {m : Str → Option Value} {Q E : Value → Shared → Prop} {rf cT cP pl : Addr} {fo oT oP : Obj} {z : PySem.Str} {cdv : Value} {k n : Nat} {tp u : Tok}
    (R : ReadAt rf cT cP fo oT oP z pl cdv) (hz : z.length ≤ 2 ^ 20) (hk : k ≤ 2 ^ 30)
    (S : Site w 1 A h₀ L) (F : Fr h₀ L s.heap m) (N : News h₀ L s.heap (readLed cT cP pl oT oP k tp n)) (ho : s.heap.get? rf = some fo) (hcd : s.heap.CodeRec cdv "_law_lexer.<locals>.read")
    (hret : ∀ t' tp' n' h' tk', Fr h₀ L h' m → News h₀ L h' (readLed cT cP pl oT oP (k + 1) tp' n') → Kept [pl] s.heap h' → Q (.str ⟨((z.cps.toList.drop k).take 1).toArray⟩ t') { s with heap := h', toks := tk' }) :
    wpAny (model prog w) A (call (.ref rf) [.int 1 u]) Q E s := by
  k_with_none
  (k_with "eval Name" => ((k_dflt (refine nameX_F (by k_asm) (by rfl) (by k_mem) (by k_asm) ?_ (by rfl) (by rfl); k_whole))))
  obtain ⟨⟨doc, pm, ct, hfd⟩, ⟨tz, hT⟩, hP⟩ := R
  refine enterX [("size", .int 1 u)] S F N ho hfd (fun _ => hcd) (by rfl) (by rfl) (by simp) ?_ (by decide) (by rfl) (by rfl) (by rfl)
  intro p loose mean mg mb dp un gd outer A₀ base g h₁ L' tk B' X' T' hdp hun F' N' l1
  dsimp only [bm] at F'
  have e : readD = readD := rfl
  conv at e => rhs; whnf
  rw [e]
  dsimp only
  clear e hfd
  dsimp only [readLed] at N' l1
  k_lt l1
  have n1 : @Ne Nat pl cT := newsNe N' (by k_mem) (List.Mem.head _) (by rw [hT]; intro h; cases h)
  have n2 : @Ne Nat pl cP := newsNe N' (by k_mem) (List.Mem.tail _ (List.Mem.head _)) (by rw [hP]; intro h; cases h)
  clear F S
  k_steps
  rename Fr g L' _ _ => F₂
  rename News g L' _ _ => N₂
  refine endCall_ F₂ N₂ fun kF kN kK => ?_
  have e1 : (Txt.slice z (some ([(k : Int)].getD (Int.toNat 0) 0)) (some ([(k : Int)].getD (Int.toNat 0) 0 + 1))) = ⟨((z.cps.toList.drop k).take 1).toArray⟩ := slice_one z k
  rw [e1]
  refine hret _ _ _ _ _ kF kN (keptShrink N kN kK fun b hb => ?_)
  rcases List.mem_cons.mp hb with rfl | hb
  · exact .inr ⟨oT, by k_mem, by k_mem⟩
  rcases List.mem_cons.mp hb with rfl | hb
  · exact .inr ⟨oP, by dsimp only [readLed]; k_mem, by k_mem⟩
  · exact .inl hb
end

section
open PySem PySem.W PyProof PyProof.Rows PySem.Calls PySem.Spec
set_option Elab.async false
set_option maxRecDepth 100000
set_option pp.deepTerms false
example : True := by k_with_none; w_top off; trivial
example : (PySem.Challenge.rw_wn0020_01 = PySem.Challenge.rw_wn0020_01) ∧ (hd.heap_39 = hd.heap_39) := by k_fill; exact ⟨rfl, rfl⟩

/-- the objects of a lexer over a text -/
structure LexC where
  (x dx y dy cT cP pl rf cc pb : Addr)
  (oT oP fo oc : Obj)
  (k1 k2 k3 k4 j1 j2 j3 j4 j5 t3 : Tok)
  (d1 d2 d3 d4 : Value)

abbrev ent (P : Params) (nm : String) (t : Tok) (v : Value) : DictEntry := ⟨PyData.keyHash P (Str.ofString nm), .str (Str.ofString nm) t, v⟩

def lexLed (P : Params) (c : LexC) (ln : Int) (t1 : Tok) (k : Nat) (tp : Tok) (np : Nat) (pbl : List Value) (npb : Nat) : List (Addr × Obj) :=
  [(c.x, instObj 52 c.dx), (c.dx, dictOf [ent P "lineno" c.k1 (.int ln t1), ent P "instream" c.k2 (.ref c.y), ent P "whitespace" c.k3 (.str (Str.ofString "\n\t\x0d ") c.t3), ent P "pushback" c.k4 (.ref c.pb)] 4),
   (c.y, instObj 52 c.dy), (c.dy, dictOf [ent P "lineno" c.j1 c.d1, ent P "instream" c.j2 c.d2, ent P "whitespace" c.j3 c.d3, ent P "pushback" c.j4 c.d4, ent P "read" c.j5 (.ref c.rf)] 5),
   (c.cT, c.oT), (c.cP, c.oP), (c.pl, W.listOf #[.int k tp] np), (c.rf, c.fo), (c.cc, c.oc), (c.pb, W.listOf pbl.toArray npb)]
def lexAddr (c : LexC) : List Addr := [c.x, c.dx, c.y, c.dy, c.cT, c.cP, c.pl, c.rf, c.cc, c.pb]

structure LexOk (c : LexC) (z : PySem.Str) : Prop where
  read : ReadAt c.rf c.cT c.cP c.fo c.oT c.oP z c.pl (.ref c.cc)
  code : ∃ vs t, c.oc.data = .fields vs ∧ vs[1]? = some (.str (Str.ofString "_law_lexer.<locals>.read") t)
  size : z.length ≤ 2 ^ 20
  ord : (@LT.lt Nat _ c.cT c.cP) ∧ (@LT.lt Nat _ c.cP c.pl) ∧ (@LT.lt Nat _ c.pl c.cc) ∧ (@LT.lt Nat _ c.cc c.rf) ∧ (@LT.lt Nat _ c.rf c.dy) ∧ (@LT.lt Nat _ c.dy c.y) ∧ (@LT.lt Nat _ c.y c.dx) ∧ (@LT.lt Nat _ c.dx c.x) ∧ (@LT.lt Nat _ c.x c.pb)

theorem fnAt_data {h₀ h : Heap} {L q : Addr} {o : Obj} {fd : FuncData} {news : List (Addr × Obj)} (N : News h₀ L h news) (hm : (q, o) ∈ news) (hd : o.data = .func fd) : FnAt q h := by
  obtain ⟨oc, od, dt, sl⟩ := o
  dsimp only at hd
  subst hd
  exact ⟨oc, od, fd, sl, (N _ hm).1⟩


theorem notInNil {a : Nat} : a ∉ ([] : List Nat) := fun h => nomatch h
theorem notInCons {a d : Nat} {l : List Nat} (h : @Ne Nat a d) (h2 : a ∉ l) : a ∉ d :: l := fun hm => (List.mem_cons.mp hm).elim h h2


set_option maxHeartbeats 1000000 in
theorem readchar_C {prog : Program} {w : World} {A : Around} {s : Shared} {h₀ : Heap} {L : Addr} {m : Str → Option Value} {Q : Value → Shared → Prop} {c : LexC} {z : PySem.Str} {ln : Int} {t1 tp : Tok} {k np npb : Nat} {pbl : List Value}
    (C : LexOk c z) (hk : k ≤ 2 ^ 30)
    (S : Site w 2 A h₀ L) (F : Fr h₀ L s.heap m) (N : News h₀ L s.heap (lexLed w.params c ln t1 k tp np pbl npb))
    (hret : ∀ t' t1' tp' np' h' tk', Fr h₀ L h' m → News h₀ L h' (lexLed w.params c (ln + if (z.cps.toList.drop k).take 1 = [10] then 1 else 0) t1' (k + 1) tp' np' pbl npb) → Kept [c.dx, c.pl] s.heap h' → Q (.str ⟨((z.cps.toList.drop k).take 1).toArray⟩ t') { s with heap := h', toks := tk' }) :
    codeAny (model prog w) A (.call (.ref 35) ⟨[.ref c.x], []⟩) (fun r s' => match r with | .ok (.ret v) => Q v s' | _ => False) s := by
  k_with_none
  (k_with "getMethod ref" => (((with_reducible show wpAny _ _ (getMethod _ (Str.ofString "read") _) _ _ _); walk_at "last getMethod ref")))
  (k_with "callWith ref" => ((refine callWith_F (fnAt_data (by assumption) (by k_mem) (by assumption)) ?_)))
  (k_with "And" => (((with_reducible show FnAt _ _ ∧ _); refine ⟨fnAt_data (by assumption) (by k_mem) (by assumption), ?_⟩; (try dsimp only [List.nil_append, List.cons_append]))))
  (k_with "call ref" => ((refine stop ?_)))
  (k_with "mine off" => (first | exact notInNil | exact notInCons (by (try dsimp only); omega) (by walk_at "mine off")))
  (k_with "mine cov" => (first
      | exact List.forall_mem_nil _
      | exact List.forall_mem_cons.mpr ⟨by first | exact Or.inl (by k_mem) | exact Or.inr ⟨by k_mem, by walk_at "mine off"⟩, by walk_at "mine cov"⟩))
  (k_with "mine sub" => (first
      | exact List.forall_mem_nil _
      | exact List.forall_mem_cons.mpr ⟨by k_mem, by walk_at "mine sub"⟩))
  (k_with "mine shr" => (first
      | exact List.forall_mem_nil _
      | exact List.forall_mem_cons.mpr ⟨by first | exact Or.inl (by k_mem) | exact Or.inr ⟨_, by k_mem, by k_mem⟩, by walk_at "mine shr"⟩))
  obtain ⟨R, ⟨vs, tc, hoc, hvs⟩, hz, ord⟩ := C
  have hX : ∀ {o}, (hd.heap_39 w.params).lookup 35 = some o → s.heap.get? 35 = some o := fun e => by
    obtain ⟨_, _, _, _, _, _, _, _, _, _, _, _, _, _, _, _, _, _, X, _⟩ := S
    exact F.keep _ _ (X _ _ e)
  refine enterXC (cl := []) [("self", .ref c.x)] S F N (hX (by k_is)) rfl (fun X => codeRec_of (X.keeps F.keep) (by k_is)) (by rfl) (by rfl) (by simp) ?_ (by decide) (by rfl) (by rfl) (by rfl)
  intro p loose mean mg mb dp un gd outer A₀ base g h₁ L' tk B' X' T' hdp hun F' N' l1
  dsimp only [bm] at F'
  dsimp only [lexLed] at N' l1
  k_lt l1
  clear F S hX
  have hfd := R.fn
  obtain ⟨doc, pm, ct, hfd⟩ := hfd
  k_steps
  · exact fnAt_data N' (by k_mem) hfd
  · have NR : News g L' h₁ (readLed c.cT c.cP c.pl c.oT c.oP k tp np) := newsSub N' (by dsimp only [readLed]; walk_at "mine sub")
    have ho : h₁.get? c.rf = some c.fo := News.get N' (by k_mem)
    have hcr : h₁.CodeRec (.ref c.cc) (Str.ofString "_law_lexer.<locals>.read") := codeRec_news N' (by k_mem) hoc hvs
    refine Stop.go (read_c R hz hk (Site.near B' X' T' rfl (by assumption) (by assumption)) F' NR ho hcr ?_)
    intro t₂ tp₂ np₂ h₂ tk₂ F₂ NR₂ K₂
    have N₂ := newsJoin (l' := [(c.x, instObj 52 c.dx), (c.dx, dictOf [ent w.params "lineno" c.k1 (.int ln t1), ent w.params "instream" c.k2 (.ref c.y), ent w.params "whitespace" c.k3 (.str (Str.ofString "\n\t\x0d ") c.t3), ent w.params "pushback" c.k4 (.ref c.pb)] 4),
   (c.y, instObj 52 c.dy), (c.dy, dictOf [ent w.params "lineno" c.j1 c.d1, ent w.params "instream" c.j2 c.d2, ent w.params "whitespace" c.j3 c.d3, ent w.params "pushback" c.j4 c.d4, ent w.params "read" c.j5 (.ref c.rf)] 5),
   (c.cT, c.oT), (c.cP, c.oP), (c.pl, W.listOf #[.int ((k + 1 : Nat) : Int) tp₂] np₂), (c.rf, c.fo), (c.cc, c.oc), (c.pb, W.listOf pbl.toArray npb)]) N' NR₂ K₂ (by dsimp only [readLed]; walk_at "mine cov")
    clear NR NR₂ F' N'
    dsimp only
    k_steps
    · rename Fr g L' _ _ => F₃
      rename News g L' _ _ => N₃
      refine endCall_ F₃ N₃ fun kF kN kK => ?_
      have e : (z.cps.toList.drop k).take 1 = [10] := by
        have h : (⟨((z.cps.toList.drop k).take 1).toArray⟩ : PySem.Str) = Str.ofString "\n" := eq_of_beq (by assumption)
        rw [show Str.ofString "\n" = ⟨#[10]⟩ from by decide] at h
        have h' := congrArg (fun x : PySem.Str => x.cps.toList) h
        simpa using h'
      have h := hret
      rw [if_pos e] at h
      exact h _ _ _ _ _ _ kF kN (keptShrink N kN kK (by dsimp only [lexLed, List.map]; walk_at "mine shr"))
    · rename Fr g L' _ _ => F₃
      rename News g L' _ _ => N₃
      refine endCall_ F₃ N₃ fun kF kN kK => ?_
      have e : ¬ (z.cps.toList.drop k).take 1 = [10] := fun e => by
        have h : (((⟨((z.cps.toList.drop k).take 1).toArray⟩ : PySem.Str) == Str.ofString "\n") = false) := by assumption
        rw [e] at h
        exact absurd h (by decide)
      have h := hret
      rw [if_neg e, Int.add_zero] at h
      exact h _ _ _ _ _ _ kF kN (keptShrink N kN kK (by dsimp only [lexLed, List.map]; walk_at "mine shr"))

theorem readchar_c {prog : Program} {w : World} {A : Around} {s : Shared} {h₀ : Heap} {L : Addr} {m : Str → Option Value} {Q E : Value → Shared → Prop} {c : LexC} {z : PySem.Str} {ln : Int} {t1 tp : Tok} {k np npb : Nat} {pbl : List Value}
    (C : LexOk c z) (hk : k ≤ 2 ^ 30)
    (S : Site w 2 A h₀ L) (F : Fr h₀ L s.heap m) (N : News h₀ L s.heap (lexLed w.params c ln t1 k tp np pbl npb))
    (hret : ∀ t' t1' tp' np' h' tk', Fr h₀ L h' m → News h₀ L h' (lexLed w.params c (ln + if (z.cps.toList.drop k).take 1 = [10] then 1 else 0) t1' (k + 1) tp' np' pbl npb) → Kept [c.dx, c.pl] s.heap h' → Q (.str ⟨((z.cps.toList.drop k).take 1).toArray⟩ t') { s with heap := h', toks := tk' }) :
    wpAny (model prog w) A (call (.ref 35) [.ref c.x]) Q E s :=
  wpAny_call (codeAny_mono (readchar_C C hk S F N hret) fun r s' h => by
    rcases r with e | f
    · exact h.elim
    · cases f <;> first | exact h | exact h.elim)

/-- the iterator over the lexer's signs: the iterator and the bound method ahead of the lexer's ledger -/
def iterLed (I q : Addr) (c : LexC) (t : Tok) : List (Addr × Obj) := [(I, callIt (.ref q) (.str (Str.ofString "") t)), (q, methodObj (.ref 35) (.ref c.x))]
def iterOff (I q : Addr) (c : LexC) : List (Addr × Obj) := [(I, callItOff), (q, methodObj (.ref 35) (.ref c.x))]

theorem next_c {prog : Program} {w : World} {A : Around} {s : Shared} {h₀ : Heap} {L : Addr} {m : Str → Option Value} {Q : Option Value → Shared → Prop} {E : Value → Shared → Prop} {c : LexC} {z : PySem.Str} {ln : Int} {t1 tp t : Tok} {k np npb : Nat} {pbl : List Value} {I q : Addr}
    (C : LexOk c z) (hk : k ≤ 2 ^ 30) (hh : A.handled = none)
    (S : Site w 3 A h₀ L) (F : Fr h₀ L s.heap m) (N : News h₀ L s.heap (iterLed I q c t ++ lexLed w.params c ln t1 k tp np pbl npb))
    (hq : ∀ p ∈ lexLed w.params c ln t1 k tp np pbl npb, p.1 < q) (hI : @LT.lt Nat _ q I)
    (hitem : ∀ a r t' t1' tp' np' h' tk', z.cps.toList.drop k = a :: r → z.cps.toList.drop (k + 1) = r → k < z.length → Fr h₀ L h' m → News h₀ L h' (iterLed I q c t ++ lexLed w.params c (ln + if a = 10 then 1 else 0) t1' (k + 1) tp' np' pbl npb) → Q (some (.str ⟨#[a]⟩ t')) { s with heap := h', toks := tk' })
    (hend : ∀ t1' tp' np' h' tk', z.cps.toList.drop k = [] → Fr h₀ L h' m → News h₀ L h' (iterOff I q c ++ lexLed w.params c ln t1' (k + 1) tp' np' pbl npb) → Q none { s with heap := h', toks := tk' }) :
    wpAny (model prog w) A (pyNext (.ref I)) Q E s := by
  have N1 : News h₀ L s.heap (lexLed w.params c ln t1 k tp np pbl npb) := newsSub N fun p hp => List.mem_append_right _ hp
  have nI : s.heap.get? I = some (callIt (.ref q) (.str (Str.ofString "") t)) := (N _ (List.mem_append_left _ (.head _))).1
  have nq : s.heap.get? q = some (methodObj (.ref 35) (.ref c.x)) := (N _ (List.mem_append_left _ (.tail _ (.head _)))).1
  have offI : I ∉ [c.dx, c.pl] ∧ q ∉ [c.dx, c.pl] := by
    have h1 := hq (c.dx, _) (.tail _ (.head _))
    have h2 := hq (c.pl, _) (.tail _ (.tail _ (.tail _ (.tail _ (.tail _ (.tail _ (.head _)))))))
    have h1' : @LT.lt Nat _ c.dx q := h1
    have h2' : @LT.lt Nat _ c.pl q := h2
    constructor
    · exact notInCons (by omega) (notInCons (by omega) notInNil)
    · exact notInCons (by omega) (notInCons (by omega) notInNil)
  have hX : ∀ {o}, (hd.heap_39 w.params).lookup 35 = some o → h₀.get? 35 = some o := fun e => by
    obtain ⟨_, _, _, _, _, _, _, _, _, _, _, _, _, _, _, _, _, _, X, _⟩ := S
    exact X _ _ e
  have h35 := hX (by k_is)
  clear hX
  refine pyNext_ci hh nI nq (F.keep _ _ h35) rfl ?_
  refine codeAny_mono (readchar_C (Q := fun v s' => ∃ t' t1' tp' np' h' tk', v = .str ⟨((z.cps.toList.drop k).take 1).toArray⟩ t' ∧ s' = { s with heap := h', toks := tk' } ∧ Fr h₀ L h' m ∧ News h₀ L h' (lexLed w.params c (ln + if (z.cps.toList.drop k).take 1 = [10] then 1 else 0) t1' (k + 1) tp' np' pbl npb) ∧ Kept [c.dx, c.pl] s.heap h')
    C hk S.in1 F N1 fun t' t1' tp' np' h' tk' F' N' K' => ⟨t', t1', tp', np', h', tk', rfl, rfl, F', N', K'⟩) fun r s' h => ?_
  rcases r with e | fl
  · exact h.elim
  cases fl with
  | ret v =>
    obtain ⟨t', t1', tp', np', h', tk', rfl, rfl, F', N', K'⟩ := h
    have nI' := K' _ _ offI.1 nI
    have nq' := K' _ _ offI.2 nq
    refine ⟨_, _, rfl, nI', nq', F'.keep _ _ h35, fun ne => ?_, fun e h₂ x2 e2 => ?_⟩
    · cases hdr : z.cps.toList.drop k with
      | nil => rw [hdr] at ne; exact absurd (by decide) ne
      | cons a r =>
        rw [hdr] at N'
        have hlt : k < z.length := by
          have := congrArg List.length hdr
          simp only [List.length_drop, List.length_cons] at this
          show k < z.cps.size
          rw [← Array.length_toList]; omega
        have e0 : z.cps.toList.drop (k + 1) = r := by rw [← List.drop_drop, hdr]; rfl
        have e1 : (if (a :: r).take 1 = [10] then (1 : Int) else 0) = if a = 10 then 1 else 0 := by simp
        rw [e1] at N'
        exact hitem a r _ _ _ _ _ _ hdr e0 hlt F' fun p hp => by
          rcases List.mem_append.mp hp with hp | hp
          · rcases List.mem_cons.mp hp with rfl | hp
            · exact ⟨nI', (N _ (List.mem_append_left _ (.head _))).2⟩
            · rw [List.mem_singleton.mp hp]
              exact ⟨nq', (N _ (List.mem_append_left _ (.tail _ (.head _)))).2⟩
          · exact N' p hp
    · have hdr : z.cps.toList.drop k = [] := by
        cases hdr : z.cps.toList.drop k with
        | nil => rfl
        | cons a r =>
          rw [hdr] at e
          exact absurd (congrArg (fun x : PySem.Str => x.cps.toList) e) (by rw [show (Str.ofString "").cps.toList = [] from by decide]; simp)
      rw [hdr] at N'
      have N'' : News h₀ L h' (lexLed w.params c ln t1' (k + 1) tp' np' pbl npb) := by
        have : ln + (if ([] : List Nat).take 1 = [10] then (1 : Int) else 0) = ln := by simp
        rw [this] at N'; exact N'
      have NI := (N _ (List.mem_append_left _ (.head _))).2
      have NQ := (N _ (List.mem_append_left _ (.tail _ (.head _)))).2
      refine hend t1' tp' np' h₂ tk' hdr ⟨?_, fun b o eb => x2 _ _ (fun e => by rw [e] at eb; rw [NI.2] at eb; cases eb) (F'.keep _ _ eb), F'.above⟩ fun p hp => ?_
      · obtain ⟨oL, a1, a2, hoL, a3⟩ := F'.ns
        exact ⟨oL, a1, a2, x2 _ _ (Ne.symm NI.1) hoL, a3⟩
      · rcases List.mem_append.mp hp with hp | hp
        · rcases List.mem_cons.mp hp with rfl | hp
          · exact ⟨e2, NI⟩
          · rw [List.mem_singleton.mp hp]
            exact ⟨x2 _ _ (Nat.ne_of_lt hI) nq', NQ⟩
        · refine ⟨x2 _ _ ?_ (N'' p hp).1, (N'' p hp).2⟩
          intro e
          have l : ∀ a ∈ lexAddr c, @LT.lt Nat _ a q := fun a ha => by
            have : a ∈ (lexLed w.params c ln t1 k tp np pbl npb).map (·.1) := ha
            obtain ⟨p, hp, rfl⟩ := List.mem_map.mp this
            exact hq p hp
          have hm : p.1 ∈ lexAddr c := List.mem_map_of_mem (f := (·.1)) hp
          have := l _ hm
          rw [e] at this
          exact absurd this (Nat.not_lt.mpr (Nat.le_of_lt hI))
  | _ => exact h.elim
end

section
open PySem PySem.W PyProof PyProof.Rows PySem.Calls PySem.Spec
set_option Elab.async false
set_option maxRecDepth 100000
set_option pp.deepTerms false
example : True := by k_with_none; w_top off; trivial
example : (PySem.Challenge.rw_wn0020_01 = PySem.Challenge.rw_wn0020_01) ∧ (hd.heap_39 = hd.heap_39) := by k_fill; exact ⟨rfl, rfl⟩

section
variable {prog : Program} {w : World} {A : Around} {E : Value → Shared → Prop} {s : Shared} {h₀ : Heap} {L D : Addr} {m : Str → Option Value} {news news' : List (Addr × Obj)} {n : Nat}
theorem pop_first {v : Value} {r : List Value} {u : Tok} {Q : Value → Shared → Prop} (F : Fr h₀ L s.heap m) (N : News h₀ L s.heap news) (U : Upd D (W.listOf (v :: r).toArray n) (W.listOf r.toArray (n + 1)) news news')
    (hz : r.length ≤ 2 ^ 20) (h : ∀ h', Fr h₀ L h' m → News h₀ L h' news' → Q v { s with heap := h' }) : wpAny (model prog w) A (call (.builtin "list.pop") [.ref D, .int 0 u]) Q E s := by
  refine kl_popAt (p := []) (q := r) (y := v) (k := 0) F N rfl ?_ rfl U ?_ h
  · simp [seqIndex?]
  · simp only [List.length_cons, sizeLine_eq]; omega
theorem truthy_some {v : Value} {r : List Value} {Q : Bool → Shared → Prop} (N : News h₀ L s.heap news) (hm : (D, W.listOf (v :: r).toArray n) ∈ news) (hz : r.length ≤ 2 ^ 20) (h : Q true { s with toks := s.toks + 1 + 1 }) :
    wpAny (model prog w) A (truthy (.ref D)) Q E s := by
  refine wpAny_truthy_list (News.isList N hm) ?_ (by simpa using h)
  simp; omega
end


set_option maxHeartbeats 1000000 in
theorem getpop_c {prog : Program} {w : World} {A : Around} {s : Shared} {h₀ : Heap} {L : Addr} {m : Str → Option Value} {Q E : Value → Shared → Prop} {c : LexC} {z : PySem.Str} {ln : Int} {t1 tp : Tok} {k np npb : Nat} {v : Value} {r : List Value}
    (C : LexOk c z) (hr : r.length ≤ 2 ^ 20)
    (S : Site w 1 A h₀ L) (F : Fr h₀ L s.heap m) (N : News h₀ L s.heap (lexLed w.params c ln t1 k tp np (v :: r) npb))
    (hret : ∀ npb' h' tk', Fr h₀ L h' m → News h₀ L h' (lexLed w.params c ln t1 k tp np r npb') → Kept (lexAddr c) s.heap h' → Q v { s with heap := h', toks := tk' }) :
    wpAny (model prog w) A (call (.ref 42) [.ref c.x]) Q E s := by
  k_with_none
  (k_with "truthy ref" => ((refine truthy_some (by assumption) (by k_mem) (by assumption) ?_)))
  (k_with "getMethod ref" => ((k_dflt (refine kl_method (by k_asm) (by k_mem) PySem.F.slot_list_pop PySem.F.type_list_pop ?_))))
  (k_with "call builtin:list.pop" => ((refine pop_first (by k_asm) (by k_asm) (by k_upd) (by assumption) ?_; intro _ _ _)))
  obtain ⟨R, ⟨vs, tc, hoc, hvs⟩, hz, ord⟩ := C
  have hX : ∀ {o}, (hd.heap_39 w.params).lookup 42 = some o → s.heap.get? 42 = some o := fun e => by
    obtain ⟨_, _, _, _, _, _, _, _, _, _, _, _, _, _, _, _, _, _, X, _⟩ := S
    exact F.keep _ _ (X _ _ e)
  refine enterX (cl := []) [("self", .ref c.x)] S F N (hX (by k_is)) rfl (fun X => codeRec_of (X.keeps F.keep) (by k_is)) (by rfl) (by rfl) (by simp) ?_ (by decide) (by rfl) (by rfl) (by rfl)
  intro p loose mean mg mb dp un gd outer A₀ base g h₁ L' tk B' X' T' hdp hun F' N' l1
  dsimp only [bm] at F'
  dsimp only [lexLed] at N' l1
  k_lt l1
  clear F S hX N
  k_steps
  rename Fr g L' _ _ => F₃
  rename News g L' _ _ => N₃
  exact endCall_ F₃ N₃ fun kF kN kK => hret _ _ _ kF kN kK

theorem append_last {l : List Value} {v : Value} {Q : Value → Shared → Prop} (F : Fr h₀ L s.heap m) (N : News h₀ L s.heap news) (U : Upd D (W.listOf l.toArray n) (W.listOf (l ++ [v]).toArray (n + 1)) news news')
    (hz : l.length ≤ 2 ^ 20) (h : ∀ h', Fr h₀ L h' m → News h₀ L h' news' → Q .none { s with heap := h' }) : wpAny (model prog w) A (call (.builtin "list.append") [.ref D, v]) Q E s := by
  have e : (l ++ [v]).toArray = l.toArray.push v := by simp
  rw [e] at U
  refine append_K F N U h ?_
  simp only [List.size_toArray, sizeLine_eq]; omega


set_option maxHeartbeats 1000000 in
theorem push_c {prog : Program} {w : World} {A : Around} {s : Shared} {h₀ : Heap} {L : Addr} {m : Str → Option Value} {Q E : Value → Shared → Prop} {c : LexC} {z : PySem.Str} {ln : Int} {t1 tp : Tok} {k np npb : Nat} {v : Value} {l : List Value}
    (C : LexOk c z) (hl : l.length ≤ 2 ^ 20)
    (S : Site w 1 A h₀ L) (F : Fr h₀ L s.heap m) (N : News h₀ L s.heap (lexLed w.params c ln t1 k tp np l npb))
    (hret : ∀ npb' h' tk', Fr h₀ L h' m → News h₀ L h' (lexLed w.params c ln t1 k tp np (l ++ [v]) npb') → Kept (lexAddr c) s.heap h' → Q .none { s with heap := h', toks := tk' }) :
    wpAny (model prog w) A (call (.ref 49) [.ref c.x, v]) Q E s := by
  k_with_none
  (k_with "truthy ref" => ((refine truthy_some (by assumption) (by k_mem) (by assumption) ?_)))
  (k_with "getMethod ref" => ((k_dflt (refine kl_method (by k_asm) (by k_mem) PySem.F.slot_list_pop PySem.F.type_list_pop ?_))))
  (k_with "call builtin:list.pop" => ((refine pop_first (by k_asm) (by k_asm) (by k_upd) (by assumption) ?_; intro _ _ _)))
  (k_with "getMethod ref" => ((k_dflt (refine kl_method (by k_asm) (by k_mem) slot_list_append PySem.F.type_list_append ?_))))
  (k_with "call builtin:list.append" => ((refine append_last (by k_asm) (by k_asm) (by k_upd) (by assumption) ?_; intro _ _ _)))
  obtain ⟨R, ⟨vs, tc, hoc, hvs⟩, hz, ord⟩ := C
  have hX : ∀ {o}, (hd.heap_39 w.params).lookup 49 = some o → s.heap.get? 49 = some o := fun e => by
    obtain ⟨_, _, _, _, _, _, _, _, _, _, _, _, _, _, _, _, _, _, X, _⟩ := S
    exact F.keep _ _ (X _ _ e)
  refine enterX (cl := []) [("self", .ref c.x), ("token", v)] S F N (hX (by k_is)) rfl (fun X => codeRec_of (X.keeps F.keep) (by k_is)) (by rfl) (by rfl) (by simp [ofString_inj]) ?_ (by decide) (by rfl) (by rfl) (by rfl)
  intro p loose mean mg mb dp un gd outer A₀ base g h₁ L' tk B' X' T' hdp hun F' N' l1
  dsimp only [bm] at F'
  dsimp only [lexLed] at N' l1
  k_lt l1
  clear F S hX N
  k_steps
  rename Fr g L' _ _ => F₃
  rename News g L' _ _ => N₃
  exact endCall_ F₃ N₃ fun kF kN kK => hret _ _ _ kF kN kK

set_option maxHeartbeats 1000000 in
theorem add_c {prog : Program} {w : World} {A : Around} {s : Shared} {h₀ : Heap} {L : Addr} {m : Str → Option Value} {news : List (Addr × Obj)} {Q E : Value → Shared → Prop} {x y : Int} {t u : Tok}
    (S : Site w 1 A h₀ L) (F : Fr h₀ L s.heap m) (N : News h₀ L s.heap news)
    (hret : ∀ t' h' tk', Fr h₀ L h' m → News h₀ L h' news → Q (.int (x + y) t') { s with heap := h', toks := tk' }) :
    wpAny (model prog w) A (call (.ref 70) [.int x t, .int y u]) Q E s := by
  k_with_none
  (k_with "truthy ref" => ((refine truthy_some (by assumption) (by k_mem) (by assumption) ?_)))
  (k_with "getMethod ref" => ((k_dflt (refine kl_method (by k_asm) (by k_mem) PySem.F.slot_list_pop PySem.F.type_list_pop ?_))))
  (k_with "call builtin:list.pop" => ((refine pop_first (by k_asm) (by k_asm) (by k_upd) (by assumption) ?_; intro _ _ _)))
  (k_with "getMethod ref" => ((k_dflt (refine kl_method (by k_asm) (by k_mem) slot_list_append PySem.F.type_list_append ?_))))
  (k_with "call builtin:list.append" => ((refine append_last (by k_asm) (by k_asm) (by k_upd) (by assumption) ?_; intro _ _ _)))
  refine enter [("a", .int x t), ("b", .int y u)] S F N (by k_is) (by k_is) (by rfl) (by rfl) (by simp [ofString_inj]) ?_
  intro p loose mean mg mb dp un gd outer A₀ base g h₁ L' tk B' X' T' hdp hun FG F' N'
  dsimp only [bm] at F'
  clear F N S
  k_steps
  dsimp only
  exact leaveK_ F' N' fun kF kN => hret _ _ _ kF kN

theorem mulOk {x y : Int} (h : x.natAbs < 2 ^ 64) : IntMulOk x y := .of_left (intBits_le_iff.mpr h)

set_option maxHeartbeats 1000000 in
theorem mul_c {prog : Program} {w : World} {A : Around} {s : Shared} {h₀ : Heap} {L : Addr} {m : Str → Option Value} {news : List (Addr × Obj)} {Q E : Value → Shared → Prop} {x y : Int} {t u : Tok} (hm : IntMulOk x y)
    (S : Site w 1 A h₀ L) (F : Fr h₀ L s.heap m) (N : News h₀ L s.heap news)
    (hret : ∀ t' h' tk', Fr h₀ L h' m → News h₀ L h' news → Q (.int (x * y) t') { s with heap := h', toks := tk' }) :
    wpAny (model prog w) A (call (.ref 77) [.int x t, .int y u]) Q E s := by
  k_with_none
  (k_with "truthy ref" => ((refine truthy_some (by assumption) (by k_mem) (by assumption) ?_)))
  (k_with "getMethod ref" => ((k_dflt (refine kl_method (by k_asm) (by k_mem) PySem.F.slot_list_pop PySem.F.type_list_pop ?_))))
  (k_with "call builtin:list.pop" => ((refine pop_first (by k_asm) (by k_asm) (by k_upd) (by assumption) ?_; intro _ _ _)))
  (k_with "getMethod ref" => ((k_dflt (refine kl_method (by k_asm) (by k_mem) slot_list_append PySem.F.type_list_append ?_))))
  (k_with "call builtin:list.append" => ((refine append_last (by k_asm) (by k_asm) (by k_upd) (by assumption) ?_; intro _ _ _)))
  (k_with "binaryOp Mult int int" => ((refine PyProof.Rows.mul_int ?_ (by assumption))))
  refine enter [("a", .int x t), ("b", .int y u)] S F N (by k_is) (by k_is) (by rfl) (by rfl) (by simp [ofString_inj]) ?_
  intro p loose mean mg mb dp un gd outer A₀ base g h₁ L' tk B' X' T' hdp hun FG F' N'
  dsimp only [bm] at F'
  clear F N S
  k_steps
  dsimp only
  exact leaveK_ F' N' fun kF kN => hret _ _ _ kF kN
end

section
open PySem PySem.W PyProof PyProof.Rows PySem.Calls PySem.Spec
set_option Elab.async false
set_option maxRecDepth 100000
set_option pp.deepTerms false
example : True := by k_with_none; w_top off; trivial
example : (PySem.Challenge.rw_wn0020_01 = PySem.Challenge.rw_wn0020_01) ∧ (hd.heap_39 = hd.heap_39) := by k_fill; exact ⟨rfl, rfl⟩

def isW (a : Nat) : Bool := a == 10 || a == 9 || a == 13 || a == 32
def isQ (a : Nat) : Bool := a == 34
/-- the lexer's inner loops: up to a sign that p knows, a backslash takes the next sign as it is -/
def scan (p : Nat → Bool) (acc : List Nat) : List Nat → List Nat × List Nat
  | [] => (acc, [])
  | a :: r => if p a then (acc, r) else if a = 92 then scan p (acc ++ r.take 1) (r.drop 1) else scan p (acc ++ [a]) r
termination_by l => l.length
decreasing_by all_goals simp; try omega
def lexOf : List Nat → List Nat × List Nat
  | [] => ([], [])
  | a :: r => if isW a then lexOf r else if a = 34 then scan isQ [] r else if a = 92 then scan isW (r.take 1) (r.drop 1) else scan isW [a] r

theorem for_own {prog : Program} {w : World} {A : Around} {s : Shared} {env : Env} {x : Str} {px pos : Pos} {iter : Expr} {body : List Stmt} {Q : Flow → Shared → Prop} {E : Value → Shared → Prop}
    (h : wpAny (model prog w) A (eval iter env) (fun xv s₁ => wpAny (model prog w) A (pyIter xv) (fun it s₂ => ∃ (I : Nat → Shared → Prop) (n : Nat), I n s₂ ∧
      ∀ n s, I n s → wpAny (model prog w) A (pyNext it) (fun r s₁ => match r with
        | none => Q .next s₁
        | some v => wpAny (model prog w) A (storeName env x v) (fun _ s₂ => wpAny (model prog w) A (execs body env) (fun f s₃ => match f with
          | .next | .cont => Stop (∃ m, m < n ∧ I m s₃)
          | .brk => Q .next s₃
          | .ret v => Q (.ret v) s₃) NoE s₂) NoE s₁) NoE s) NoE s₁) NoE s)
    (hs : ∀ x, foldedSetIterable iter env x = pure x := by intro _; rfl) : wpAny (model prog w) A (exec (.For (.Name x px) iter body [] pos) env) Q E s := by
  refine noE (wpAny_For (wpAny_mono h (fun xv s₁ h₁ => wpAny_mono h₁ (fun it s₂ h₂ => ?_) fun _ _ x => x.elim) fun _ _ x => x.elim) hs)
  obtain ⟨I, n, hI, turn⟩ := h₂
  refine for_loop I (fun n s hI => ?_) n hI
  refine wpAny_mono (turn n s hI) (fun r s₁ h₁ => ?_) fun _ _ x => x
  cases r with
  | none => exact h₁
  | some v => exact wpAny_assign_Name h₁

theorem iter_K {prog : Program} {w : World} {A : Around} {E : Value → Shared → Prop} {s : Shared} {h₀ : Heap} {L q : Addr} {m : Str → Option Value} {news : List (Addr × Obj)} {f x sent : Value} {Q : Value → Shared → Prop} (F : Fr h₀ L s.heap m) (N : News h₀ L s.heap news) (hm : (q, methodObj f x) ∈ news)
    (h : ∀ I h', Fr h₀ L h' m → News h₀ L h' ((I, callIt (.ref q) sent) :: news) → (∀ p ∈ news, p.1 < I) → Q (.ref I) { s with heap := h' }) : wpAny (model prog w) A (call (.builtin "iter") [.ref q, sent]) Q E s :=
  iter_two (N _ hm).1 (h _ _ (F.push _) (News.push F N _ rfl) fun q hq => Heap.lt_size (N q hq).1)
/-- a state of get_token -/
def LexSt (g : Heap) (L : Addr) (s₀ : Shared) (fr : List (Str × Option Value)) (led : List (Addr × Obj)) (s : Shared) : Prop := ∃ h tk, s = { s₀ with heap := h, toks := tk } ∧ Fr g L h (bo fr) ∧ News g L h led

def ScanInv (P : Params) (g : Heap) (L : Addr) (s₀ : Shared) (c : LexC) (z : PySem.Str) (p : Nat → Bool) (I q : Addr) (tok rest : List Nat) (T : Int) (e n : Nat) (s : Shared) : Prop :=
  ∃ t acc tt chv ln k t1 tp np npb, LexSt g L s₀ [("self", some (.ref c.x)), ("token", some (.str acc tt)), ("fiter", some (.ref I)), ("ch", chv)] (iterLed I q c t ++ lexLed P c ln t1 k tp np [] npb) s ∧
    scan p acc.cps.toList (z.cps.toList.drop k) = (tok, rest) ∧ ln + ((z.cps.toList.drop k).count 10 : Nat) = T ∧ k ≤ z.length + e + 1 ∧ acc.length ≤ k ∧ n = z.length + e + 3 - k


theorem found_ws (a : Nat) : (Builtin.Str.occurrences (Str.ofString "\n\t\x0d ") ⟨#[a]⟩ 0 (Str.ofString "\n\t\x0d ").length 1).isEmpty = !isW a := by
  have h := StrLaws.found_one (Str.ofString "\n\t\x0d ") a
  rw [show (Str.ofString "\n\t\x0d ").cps.toList = [10, 9, 13, 32] from by decide] at h
  have e : decide (a ∈ [10, 9, 13, 32]) = isW a := by
    simp only [isW, List.mem_cons, List.not_mem_nil, or_false]
    by_cases h1 : a = 10 <;> by_cases h2 : a = 9 <;> by_cases h3 : a = 13 <;> by_cases h4 : a = 32 <;> simp [h1, h2, h3, h4]
  rw [e] at h
  rw [← h, Bool.not_not]
theorem one_eq (a b : Nat) : ((⟨#[a]⟩ : PySem.Str) == ⟨#[b]⟩) = (a == b) := by
  rw [Bool.eq_iff_iff, beq_iff_eq, beq_iff_eq]
  constructor
  · intro h; exact (List.cons.inj (congrArg (fun x : PySem.Str => x.cps.toList) h)).1
  · rintro rfl; rfl
theorem one_quote (a : Nat) : ((⟨#[a]⟩ : PySem.Str) == Str.ofString "\"") = (a == 34) := by
  rw [show Str.ofString "\"" = ⟨#[34]⟩ from by decide]; exact one_eq a 34
theorem one_back (a : Nat) : ((⟨#[a]⟩ : PySem.Str) == Str.ofString "\\") = (a == 92) := by
  rw [show Str.ofString "\\" = ⟨#[92]⟩ from by decide]; exact one_eq a 92

theorem str_app (a b : PySem.Str) : (a ++ b).cps.toList = a.cps.toList ++ b.cps.toList := Array.toList_append
theorem str_app_len (a b : PySem.Str) : (a ++ b).length = a.length + b.length := Array.size_append
theorem count_step (a : Nat) (r : List Nat) (ln : Int) : (ln + if a = 10 then 1 else 0) + ((r.count 10 : Nat) : Int) = ln + (((a :: r).count 10 : Nat) : Int) := by
  rw [List.count_cons]
  by_cases h : a = 10
  · subst h; simp; omega
  · have : (a == 10) = false := beq_eq_false_iff_ne.mpr h
    simp [h]
theorem count_step2 (r : List Nat) (ln : Int) : (ln + if r.take 1 = [10] then 1 else 0) + (((r.drop 1).count 10 : Nat) : Int) = ln + ((r.count 10 : Nat) : Int) := by
  cases r with
  | nil => simp
  | cons b r =>
    have : ((b :: r).take 1 = [10]) = (b = 10) := by simp
    simp only [this]
    exact count_step b r ln

/-- get_token's scope and its two inner loops, out of the given text -/
def getF : Scope × Stmt × Stmt := match PySem.Challenge.pw_wn0020_01.main.body.drop 1 with
  | .ClassDef _ _ _ (_ :: _ :: .FunctionDef _ _ (_ :: _ :: _ :: .For _ _ (_ :: .If _ [fq] [_, _, fb] _ :: _) _ _ :: _) _ _ _ sc _ _ _ :: _) _ _ _ _ _ _ _ :: _ => (sc, fq, fb)
  | _ => (default, .Pass default, .Pass default)


set_option maxHeartbeats 1000000 in
theorem scanQ_c {prog : Program} {w : World} {s₀ s : Shared} {c : LexC} {z : PySem.Str} {e : Nat} {tok rest : List Nat} {p : Program} {loose : List Str} {mean : ExcName → Option Value} {mg mb : Str → Option Value} {dp un : Nat} {gd : Option (List Code)} {outer : List Env} {A₀ : Around} {base g : Heap} {L' I q : Addr} {T : Int} {Q : Flow → Shared → Prop} {n : Nat}
    (C : LexOk c z) (he : e ≤ 1000)
    (B' : Below A₀ base outer g) (X' : (hd.heap_39 w.params).In g) (T' : Top p loose mean mg mb g) (hdp : dp + 3 < recursionLimit) (hun : un + 8 * 3 < cLine)
    (lq : (@LT.lt Nat _ c.x q) ∧ (@LT.lt Nat _ c.dx q) ∧ (@LT.lt Nat _ c.y q) ∧ (@LT.lt Nat _ c.dy q) ∧ (@LT.lt Nat _ c.cT q) ∧ (@LT.lt Nat _ c.cP q) ∧ (@LT.lt Nat _ c.pl q) ∧ (@LT.lt Nat _ c.rf q) ∧ (@LT.lt Nat _ c.cc q) ∧ (@LT.lt Nat _ c.pb q)) (hqI : @LT.lt Nat _ q I)
    (hI : ScanInv w.params g L' s₀ c z isQ I q tok rest T e n s)
    (hret : ∀ t tt chv ln k t1 tp np npb s', LexSt g L' s₀ [("self", some (.ref c.x)), ("token", some (.str ⟨tok.toArray⟩ tt)), ("fiter", some (.ref I)), ("ch", chv)] (iterLed I q c t ++ lexLed w.params c ln t1 k tp np [] npb) s' →
      z.cps.toList.drop k = rest → ln + (rest.count 10 : Nat) = T → k ≤ z.length + e + 3 → Q (.ret (.str ⟨tok.toArray⟩ tt)) s')
    (hend : ∀ tt chv ln k t1 tp np npb s', LexSt g L' s₀ [("self", some (.ref c.x)), ("token", some (.str ⟨tok.toArray⟩ tt)), ("fiter", some (.ref I)), ("ch", chv)] (iterOff I q c ++ lexLed w.params c ln t1 k tp np [] npb) s' →
      z.cps.toList.drop k = [] → rest = [] → ln = T → k ≤ z.length + e + 3 → Q .next s') :
    wpAny (model prog w) (ktrTop dp un gd (Str.ofString "_netrclex.get_token") getF.1 L' 42 (.ref 41) [] outer) (exec getF.2.1 (envX (Str.ofString "_netrclex.get_token") getF.1 L' 42 (.ref 41) [])) Q NoE s := by
  k_with_none
  (k_with "call ref" => ((refine stop ?_)))
  (k_with "pyIter ref" => ((refine stop ?_)))
  (k_with "getMethod ref" => (((with_reducible show wpAny _ _ (getMethod _ (Str.ofString "_read_char") _) _ _ _); walk_at "last getMethod ref")))
  have e1 : getF = getF := rfl
  conv at e1 => rhs; whnf
  rw [e1]
  dsimp only
  clear e1
  have hq : ∀ ln t1 k tp np npb, ∀ p ∈ lexLed w.params c ln t1 k tp np [] npb, p.1 < q := by
    intro ln t1 k tp np npb p hp
    simp only [lexLed, List.mem_cons, List.not_mem_nil, or_false] at hp
    rcases hp with rfl | rfl | rfl | rfl | rfl | rfl | rfl | rfl | rfl | rfl <;> (show @LT.lt Nat _ _ _; dsimp only; omega)
  have hz := C.size
  have ord := C.ord
  refine for_own ?_
  have hI2 := hI
  obtain ⟨t, acc, tt, chv, ln, k, t1, tp, np, npb, ⟨h, tk, rfl, F, N⟩, _⟩ := hI2
  dsimp only [bo] at F
  dsimp only [iterLed, lexLed, List.cons_append, List.nil_append] at N
  k_steps
  refine Stop.go (pyIter_ci (News.get (by assumption) (by k_mem)) rfl ⟨ScanInv w.params g L' s₀ c z isQ I q tok rest T e, n, hI, ?_⟩)
  clear F N hI
  intro n s' hI
  obtain ⟨t, acc, tt, chv, ln, k, t1, tp, np, npb, ⟨h, tk, rfl, F, N⟩, hsc, hT, hk, hac, rfl⟩ := hI
  refine next_c C (by omega) rfl (Site.near B' X' T' rfl (by assumption) (by assumption)) F N (hq _ _ _ _ _ _) hqI ?_ ?_
  · intro a r ta t1' tp' np' h' tk' hd1 hd2 hlt F' N'
    clear F N
    dsimp only [bo] at F'
    dsimp only [iterLed, lexLed, List.cons_append, List.nil_append] at N'
    dsimp only
    k_steps
    · rename Fr g L' _ _ => F₂
      rename News g L' _ _ => N₂
      dsimp only
      have hc : ((⟨#[a]⟩ : PySem.Str) == Str.ofString "\"") = true := by assumption
      rw [one_quote] at hc
      rw [hd1, scan, if_pos (show isQ a = true from hc)] at hsc
      obtain ⟨rfl, rfl⟩ := Prod.mk.inj hsc
      refine hret t _ (some (.str ⟨#[a]⟩ ta)) (ln + if a = 10 then 1 else 0) (k + 1) _ _ _ npb _ ⟨_, _, rfl, frBo F₂ _ ⟨rfl, rfl, rfl, rfl, trivial⟩ (fun y hy => by simp only [Off] at hy; simp [bo, hy]), N₂⟩ hd2 ?_ (by omega)
      rw [count_step, ← hd1]; exact hT
    · rename Fr g L' _ _ => F₂
      rename News g L' _ _ => N₂
      have hc : ((⟨#[a]⟩ : PySem.Str) == Str.ofString "\"") = false := by assumption
      have hb : ((⟨#[a]⟩ : PySem.Str) == Str.ofString "\\") = true := by assumption
      rw [one_quote] at hc
      rw [one_back] at hb
      have hb' : a = 92 := eq_of_beq hb
      rw [hd1, scan, if_neg (by rw [show isQ a = (a == 34) from rfl, hc]; exact Bool.false_ne_true), if_pos hb'] at hsc
      refine Stop.go (readchar_c C (k := k + 1) (by omega) (Site.near B' X' T' rfl (by assumption) (by assumption)) F₂ (newsSub N₂ (fun p hp => .tail _ (.tail _ hp))) ?_)
      intro t₂ t1₂ tp₂ np₂ h₂ tk₂ F₃ N₃ K₃
      have N₄ : News g L' h₂ (iterLed I q c t ++ lexLed w.params c ((ln + if a = 10 then 1 else 0) + if (z.cps.toList.drop (k + 1)).take 1 = [10] then 1 else 0) t1₂ (k + 1 + 1) tp₂ np₂ [] npb) := newsJoin N₂ N₃ K₃ (fun p hp => (List.mem_append.mp hp).elim (fun hp => by
        simp only [iterLed, List.mem_cons, List.not_mem_nil, or_false] at hp
        rcases hp with rfl | rfl
        · exact .inr ⟨.head _, notInCons (by dsimp only; omega) (notInCons (by dsimp only; omega) notInNil)⟩
        · exact .inr ⟨.tail _ (.head _), notInCons (by dsimp only; omega) (notInCons (by dsimp only; omega) notInNil)⟩) .inl)
      clear F₂ N₂ N₃ K₃
      rw [hd2] at N₄
      have hdr : z.cps.toList.drop (k + 1 + 1) = r.drop 1 := by rw [← hd2, List.drop_drop]
      rw [hd2]
      have hlen : (⟨(r.take 1).toArray⟩ : PySem.Str).length ≤ 1 := by simp only [PySem.Str.length, List.size_toArray, List.length_take]; omega
      dsimp only
      k_steps
      rename Fr g L' _ _ => F₅
      rename News g L' _ _ => N₅
      refine Stop.go ⟨z.length + e + 3 - (k + 1 + 1), by omega, t, _, _, some (.str ⟨(r.take 1).toArray⟩ t₂), _, k + 1 + 1, _, _, _, npb, ⟨_, _, rfl, frBo F₅ _ ⟨rfl, rfl, rfl, rfl, trivial⟩ (fun y hy => by simp only [Off] at hy; simp [bo, hy]), N₅⟩, ?_, ?_, by omega, ?_, rfl⟩
      · rw [hdr, ← hsc]; rw [str_app]
      · rw [hdr, count_step2, count_step, ← hd1]; exact hT
      · rw [str_app_len]; omega
    · rename Fr g L' _ _ => F₅
      rename News g L' _ _ => N₅
      have hc : ((⟨#[a]⟩ : PySem.Str) == Str.ofString "\"") = false := by assumption
      have hb : ((⟨#[a]⟩ : PySem.Str) == Str.ofString "\\") = false := by assumption
      rw [one_quote] at hc
      rw [one_back] at hb
      rw [hd1, scan, if_neg (by rw [show isQ a = (a == 34) from rfl, hc]; exact Bool.false_ne_true), if_neg (by intro e; rw [e] at hb; exact absurd hb (by decide))] at hsc
      refine Stop.go ⟨z.length + e + 3 - (k + 1), by omega, t, _, _, some (.str ⟨#[a]⟩ ta), _, k + 1, _, _, _, npb, ⟨_, _, rfl, frBo F₅ _ ⟨rfl, rfl, rfl, rfl, trivial⟩ (fun y hy => by simp only [Off] at hy; simp [bo, hy]), N₅⟩, ?_, ?_, by omega, ?_, rfl⟩
      · rw [hd2, ← hsc]; rw [str_app]
      · rw [hd2, count_step, ← hd1]; exact hT
      · rw [str_app_len]; show _ + 1 ≤ _; omega
  · intro t1' tp' np' h' tk' hd1 F' N'
    dsimp only
    rw [hd1, scan] at hsc
    obtain ⟨rfl, rfl⟩ := Prod.mk.inj hsc
    have hd2 : z.cps.toList.drop (k + 1) = [] := by rw [← List.drop_drop, hd1]; rfl
    rw [hd1] at hT
    refine hend _ chv ln (k + 1) _ _ _ npb _ ⟨_, _, rfl, frBo F' _ ⟨rfl, rfl, rfl, rfl, trivial⟩ (fun y hy => by simp only [Off] at hy; simp [bo, hy]), N'⟩ hd2 rfl (by simpa using hT) (by omega)
set_option maxHeartbeats 1000000 in
theorem scanB_c {prog : Program} {w : World} {s₀ s : Shared} {c : LexC} {z : PySem.Str} {e : Nat} {tok rest : List Nat} {p : Program} {loose : List Str} {mean : ExcName → Option Value} {mg mb : Str → Option Value} {dp un : Nat} {gd : Option (List Code)} {outer : List Env} {A₀ : Around} {base g : Heap} {L' I q : Addr} {T : Int} {Q : Flow → Shared → Prop} {n : Nat}
    (C : LexOk c z) (he : e ≤ 1000)
    (B' : Below A₀ base outer g) (X' : (hd.heap_39 w.params).In g) (T' : Top p loose mean mg mb g) (hdp : dp + 3 < recursionLimit) (hun : un + 8 * 3 < cLine)
    (lq : (@LT.lt Nat _ c.x q) ∧ (@LT.lt Nat _ c.dx q) ∧ (@LT.lt Nat _ c.y q) ∧ (@LT.lt Nat _ c.dy q) ∧ (@LT.lt Nat _ c.cT q) ∧ (@LT.lt Nat _ c.cP q) ∧ (@LT.lt Nat _ c.pl q) ∧ (@LT.lt Nat _ c.rf q) ∧ (@LT.lt Nat _ c.cc q) ∧ (@LT.lt Nat _ c.pb q)) (hqI : @LT.lt Nat _ q I)
    (hI : ScanInv w.params g L' s₀ c z isW I q tok rest T e n s)
    (hret : ∀ t tt chv ln k t1 tp np npb s', LexSt g L' s₀ [("self", some (.ref c.x)), ("token", some (.str ⟨tok.toArray⟩ tt)), ("fiter", some (.ref I)), ("ch", chv)] (iterLed I q c t ++ lexLed w.params c ln t1 k tp np [] npb) s' →
      z.cps.toList.drop k = rest → ln + (rest.count 10 : Nat) = T → k ≤ z.length + e + 3 → Q (.ret (.str ⟨tok.toArray⟩ tt)) s')
    (hend : ∀ tt chv ln k t1 tp np npb s', LexSt g L' s₀ [("self", some (.ref c.x)), ("token", some (.str ⟨tok.toArray⟩ tt)), ("fiter", some (.ref I)), ("ch", chv)] (iterOff I q c ++ lexLed w.params c ln t1 k tp np [] npb) s' →
      z.cps.toList.drop k = [] → rest = [] → ln = T → k ≤ z.length + e + 3 → Q .next s') :
    wpAny (model prog w) (ktrTop dp un gd (Str.ofString "_netrclex.get_token") getF.1 L' 42 (.ref 41) [] outer) (exec getF.2.2 (envX (Str.ofString "_netrclex.get_token") getF.1 L' 42 (.ref 41) [])) Q NoE s := by
  k_with_none
  (k_with "call ref" => ((refine stop ?_)))
  (k_with "pyIter ref" => ((refine stop ?_)))
  (k_with "getMethod ref" => (((with_reducible show wpAny _ _ (getMethod _ (Str.ofString "_read_char") _) _ _ _); walk_at "last getMethod ref")))
  have e1 : getF = getF := rfl
  conv at e1 => rhs; whnf
  rw [e1]
  dsimp only
  clear e1
  have hq : ∀ ln t1 k tp np npb, ∀ p ∈ lexLed w.params c ln t1 k tp np [] npb, p.1 < q := by
    intro ln t1 k tp np npb p hp
    simp only [lexLed, List.mem_cons, List.not_mem_nil, or_false] at hp
    rcases hp with rfl | rfl | rfl | rfl | rfl | rfl | rfl | rfl | rfl | rfl <;> (show @LT.lt Nat _ _ _; dsimp only; omega)
  have hz := C.size
  have ord := C.ord
  refine for_own ?_
  have hI2 := hI
  obtain ⟨t, acc, tt, chv, ln, k, t1, tp, np, npb, ⟨h, tk, rfl, F, N⟩, _⟩ := hI2
  dsimp only [bo] at F
  dsimp only [iterLed, lexLed, List.cons_append, List.nil_append] at N
  k_steps
  refine Stop.go (pyIter_ci (News.get (by assumption) (by k_mem)) rfl ⟨ScanInv w.params g L' s₀ c z isW I q tok rest T e, n, hI, ?_⟩)
  clear F N hI
  intro n s' hI
  obtain ⟨t, acc, tt, chv, ln, k, t1, tp, np, npb, ⟨h, tk, rfl, F, N⟩, hsc, hT, hk, hac, rfl⟩ := hI
  refine next_c C (by omega) rfl (Site.near B' X' T' rfl (by assumption) (by assumption)) F N (hq _ _ _ _ _ _) hqI ?_ ?_
  · intro a r ta t1' tp' np' h' tk' hd1 hd2 hlt F' N'
    clear F N
    dsimp only [bo] at F'
    dsimp only [iterLed, lexLed, List.cons_append, List.nil_append] at N'
    dsimp only
    k_steps
    · rename Fr g L' _ _ => F₂
      rename News g L' _ _ => N₂
      have hc : (Builtin.Str.occurrences (Str.ofString "\n\t\x0d ") ⟨#[a]⟩ 0 (Str.ofString "\n\t\x0d ").length 1).isEmpty = true := by assumption
      have hb : ((⟨#[a]⟩ : PySem.Str) == Str.ofString "\\") = true := by assumption
      rw [found_ws] at hc
      rw [one_back] at hb
      have hb' : a = 92 := eq_of_beq hb
      rw [hd1, scan, if_neg (by simpa using hc), if_pos hb'] at hsc
      refine Stop.go (readchar_c C (k := k + 1) (by omega) (Site.near B' X' T' rfl (by assumption) (by assumption)) F₂ (newsSub N₂ (fun p hp => .tail _ (.tail _ hp))) ?_)
      intro t₂ t1₂ tp₂ np₂ h₂ tk₂ F₃ N₃ K₃
      have N₄ : News g L' h₂ (iterLed I q c t ++ lexLed w.params c ((ln + if a = 10 then 1 else 0) + if (z.cps.toList.drop (k + 1)).take 1 = [10] then 1 else 0) t1₂ (k + 1 + 1) tp₂ np₂ [] npb) := newsJoin N₂ N₃ K₃ (fun p hp => (List.mem_append.mp hp).elim (fun hp => by
        simp only [iterLed, List.mem_cons, List.not_mem_nil, or_false] at hp
        rcases hp with rfl | rfl
        · exact .inr ⟨.head _, notInCons (by dsimp only; omega) (notInCons (by dsimp only; omega) notInNil)⟩
        · exact .inr ⟨.tail _ (.head _), notInCons (by dsimp only; omega) (notInCons (by dsimp only; omega) notInNil)⟩) .inl)
      clear F₂ N₂ N₃ K₃
      rw [hd2] at N₄
      have hdr : z.cps.toList.drop (k + 1 + 1) = r.drop 1 := by rw [← hd2, List.drop_drop]
      rw [hd2]
      have hlen : (⟨(r.take 1).toArray⟩ : PySem.Str).length ≤ 1 := by simp only [PySem.Str.length, List.size_toArray, List.length_take]; omega
      dsimp only
      k_steps
      rename Fr g L' _ _ => F₅
      rename News g L' _ _ => N₅
      refine Stop.go ⟨z.length + e + 3 - (k + 1 + 1), by omega, t, _, _, some (.str ⟨(r.take 1).toArray⟩ t₂), _, k + 1 + 1, _, _, _, npb, ⟨_, _, rfl, frBo F₅ _ ⟨rfl, rfl, rfl, rfl, trivial⟩ (fun y hy => by simp only [Off] at hy; simp [bo, hy]), N₅⟩, ?_, ?_, by omega, ?_, rfl⟩
      · rw [hdr, ← hsc]; rw [str_app]
      · rw [hdr, count_step2, count_step, ← hd1]; exact hT
      · rw [str_app_len]; omega
    · rename Fr g L' _ _ => F₅
      rename News g L' _ _ => N₅
      have hc : (Builtin.Str.occurrences (Str.ofString "\n\t\x0d ") ⟨#[a]⟩ 0 (Str.ofString "\n\t\x0d ").length 1).isEmpty = true := by assumption
      have hb : ((⟨#[a]⟩ : PySem.Str) == Str.ofString "\\") = false := by assumption
      rw [found_ws] at hc
      rw [one_back] at hb
      rw [hd1, scan, if_neg (by simpa using hc), if_neg (by intro e; rw [e] at hb; exact absurd hb (by decide))] at hsc
      refine Stop.go ⟨z.length + e + 3 - (k + 1), by omega, t, _, _, some (.str ⟨#[a]⟩ ta), _, k + 1, _, _, _, npb, ⟨_, _, rfl, frBo F₅ _ ⟨rfl, rfl, rfl, rfl, trivial⟩ (fun y hy => by simp only [Off] at hy; simp [bo, hy]), N₅⟩, ?_, ?_, by omega, ?_, rfl⟩
      · rw [hd2, ← hsc]; rw [str_app]
      · rw [hd2, count_step, ← hd1]; exact hT
      · rw [str_app_len]; show _ + 1 ≤ _; omega
    · rename Fr g L' _ _ => F₂
      rename News g L' _ _ => N₂
      dsimp only
      have hc : (Builtin.Str.occurrences (Str.ofString "\n\t\x0d ") ⟨#[a]⟩ 0 (Str.ofString "\n\t\x0d ").length 1).isEmpty = false := by assumption
      rw [found_ws] at hc
      rw [hd1, scan, if_pos (show isW a = true from by simpa using hc)] at hsc
      obtain ⟨rfl, rfl⟩ := Prod.mk.inj hsc
      refine hret t _ (some (.str ⟨#[a]⟩ ta)) (ln + if a = 10 then 1 else 0) (k + 1) _ _ _ npb _ ⟨_, _, rfl, frBo F₂ _ ⟨rfl, rfl, rfl, rfl, trivial⟩ (fun y hy => by simp only [Off] at hy; simp [bo, hy]), N₂⟩ hd2 ?_ (by omega)
      rw [count_step, ← hd1]; exact hT
  · intro t1' tp' np' h' tk' hd1 F' N'
    dsimp only
    rw [hd1, scan] at hsc
    obtain ⟨rfl, rfl⟩ := Prod.mk.inj hsc
    have hd2 : z.cps.toList.drop (k + 1) = [] := by rw [← List.drop_drop, hd1]; rfl
    rw [hd1] at hT
    refine hend _ chv ln (k + 1) _ _ _ npb _ ⟨_, _, rfl, frBo F' _ ⟨rfl, rfl, rfl, rfl, trivial⟩ (fun y hy => by simp only [Off] at hy; simp [bo, hy]), N'⟩ hd2 rfl (by simpa using hT) (by omega)
end

section
open PySem PySem.W PyProof PyProof.Rows PySem.Calls PySem.Spec
set_option Elab.async false
set_option maxRecDepth 100000
set_option pp.deepTerms false
example : True := by k_with_none; w_top off; trivial
example : (PySem.Challenge.rw_wn0020_01 = PySem.Challenge.rw_wn0020_01) ∧ (hd.heap_39 = hd.heap_39) := by k_fill; exact ⟨rfl, rfl⟩

def OuterInv (P : Params) (g : Heap) (L : Addr) (s₀ : Shared) (c : LexC) (z : PySem.Str) (I q : Addr) (tok rest : List Nat) (T : Int) (e n : Nat) (s : Shared) : Prop :=
  (∃ t tt chv ln k t1 tp np npb, LexSt g L s₀ [("self", some (.ref c.x)), ("token", some (.str (Str.ofString "") tt)), ("fiter", some (.ref I)), ("ch", chv)] (iterLed I q c t ++ lexLed P c ln t1 k tp np [] npb) s ∧
    lexOf (z.cps.toList.drop k) = (tok, rest) ∧ ln + ((z.cps.toList.drop k).count 10 : Nat) = T ∧ k ≤ z.length + e ∧ n = z.length + e + 3 - k) ∨
  (∃ tt chv ln k t1 tp np npb, LexSt g L s₀ [("self", some (.ref c.x)), ("token", some (.str ⟨tok.toArray⟩ tt)), ("fiter", some (.ref I)), ("ch", chv)] (iterOff I q c ++ lexLed P c ln t1 k tp np [] npb) s ∧
    z.cps.toList.drop k = [] ∧ rest = [] ∧ ln = T ∧ k ≤ z.length + e + 3 ∧ n = 0)


set_option maxHeartbeats 1000000 in
theorem getread_c {prog : Program} {w : World} {A : Around} {s : Shared} {h₀ : Heap} {L : Addr} {m : Str → Option Value} {Q E : Value → Shared → Prop} {c : LexC} {z : PySem.Str} {ln : Int} {t1 tp : Tok} {k np npb e : Nat} {tok rest : List Nat}
    (C : LexOk c z) (he : e ≤ 1000) (hk : k ≤ z.length + e) (hl : lexOf (z.cps.toList.drop k) = (tok, rest))
    (S : Site w 4 A h₀ L) (F : Fr h₀ L s.heap m) (N : News h₀ L s.heap (lexLed w.params c ln t1 k tp np [] npb))
    (hret : ∀ t' ln' t1' tp' np' npb' k' h' tk', z.cps.toList.drop k' = rest → k' ≤ z.length + (e + 3) → ln' + (rest.count 10 : Nat) = ln + ((z.cps.toList.drop k).count 10 : Nat) → Fr h₀ L h' m → News h₀ L h' (lexLed w.params c ln' t1' k' tp' np' [] npb') → Kept (lexAddr c) s.heap h' → Q (.str ⟨tok.toArray⟩ t') { s with heap := h', toks := tk' }) :
    wpAny (model prog w) A (call (.ref 42) [.ref c.x]) Q E s := by
  k_with_none
  (k_with "call ref" => ((refine stop ?_)))
  (k_with "pyIter ref" => ((refine stop ?_)))
  (k_with "exec For Name Name cons nil" => ((refine stop ?_)))
  (k_with "getMethod ref" => (((with_reducible show wpAny _ _ (getMethod _ (Str.ofString "_read_char") _) _ _ _); walk_at "last getMethod ref")))
  (k_with "call builtin:iter" => ((refine iter_K (by assumption) (by assumption) (by k_mem) ?_; intro _ _ _ _ l1; k_lt l1; (try (revert l1; intro _)))))
  obtain ⟨R, ⟨vs, tc, hoc, hvs⟩, hz, ord⟩ := id C
  have hX : ∀ {o}, (hd.heap_39 w.params).lookup 42 = some o → s.heap.get? 42 = some o := fun e => by
    obtain ⟨_, _, _, _, _, _, _, _, _, _, _, _, _, _, _, _, _, _, X, _⟩ := S
    exact F.keep _ _ (X _ _ e)
  refine enterX (cl := []) [("self", .ref c.x)] S F N (hX (by k_is)) rfl (fun X => codeRec_of (X.keeps F.keep) (by k_is)) (by rfl) (by rfl) (by simp) ?_ (by decide) (by rfl) (by rfl) (by rfl)
  intro p loose mean mg mb dp un gd outer A₀ base g h₁ L' tk B' X' T' hdp hun F' N' l1
  dsimp only [bm] at F'
  dsimp only [lexLed] at N' l1
  k_lt l1
  clear F S hX N
  k_steps
  rename_i q _ lq I _ lI hh F₂ N₂
  have hq : ∀ ln t1 k tp np npb, ∀ p ∈ lexLed w.params c ln t1 k tp np [] npb, p.1 < q := by
    intro ln t1 k tp np npb p hp
    simp only [lexLed, List.mem_cons, List.not_mem_nil, or_false] at hp
    rcases hp with rfl | rfl | rfl | rfl | rfl | rfl | rfl | rfl | rfl | rfl <;> (show @LT.lt Nat _ _ _; dsimp only; omega)
  have hqI : @LT.lt Nat _ q I := by omega
  refine Stop.go (for_own ?_)
  k_steps
  refine Stop.go (pyIter_ci (News.get N₂ (by k_mem)) rfl ⟨OuterInv w.params g L' s c z I q tok rest (ln + ((z.cps.toList.drop k).count 10 : Nat)) e, z.length + e + 3 - k, ?_, ?_⟩)
  · refine .inl ⟨_, _, none, ln, k, t1, tp, np, npb, ⟨_, _, rfl, frBo F₂ _ ⟨rfl, rfl, rfl, rfl, trivial⟩ (fun y hy => by simp only [Off] at hy; simp [hy]), N₂⟩, hl, rfl, hk, rfl⟩
  clear N₂ F₂ hk hl
  generalize hk₀ : k = k₀ at *
  clear hk₀ k
  intro n s' hI
  rcases hI with ⟨t, tt, chv, ln', k, t1, tp, np, npb, ⟨h, tk, rfl, F, N⟩, hl, hT, hk, rfl⟩ | ⟨tt, chv, ln', k, t1, tp, np, npb, ⟨h, tk, rfl, F, N⟩, hl, hr, hT, hk, rfl⟩
  · refine next_c C (by omega) rfl (Site.near B' X' T' rfl (by assumption) (by assumption)) F N (hq _ _ _ _ _ _) hqI ?_ ?_
    · intro a r ta t1' tp' np' h' tk' hd1 hd2 hlt F' N'
      clear F N
      dsimp only [bo] at F'
      dsimp only [iterLed, lexLed, List.cons_append, List.nil_append] at N'
      dsimp only
      have hacc : ∀ x : PySem.Str, (Str.ofString "" ++ x).cps.toList = x.cps.toList := fun x => by rw [str_app, show (Str.ofString "").cps.toList = [] from by decide]; rfl
      have hacl : ∀ x : PySem.Str, (Str.ofString "" ++ x).length = x.length := fun x => by rw [str_app_len, show (Str.ofString "").length = 0 from by decide, Nat.zero_add]
      have hcnt := count_step a r ln'
      rw [← hd1, hT] at hcnt
      k_steps
      · rename Fr g L' _ _ => F₃
        rename News g L' _ _ => N₃
        have hc : ((⟨#[a]⟩ : PySem.Str) == Str.ofString "\"") = true := by assumption
        have hw : (Builtin.Str.occurrences (Str.ofString "\n\t\x0d ") ⟨#[a]⟩ 0 (Str.ofString "\n\t\x0d ").length 1).isEmpty = true := by assumption
        rw [found_ws] at hw
        rw [one_quote] at hc
        rw [hd1, lexOf, if_neg (by simpa using hw), if_pos (eq_of_beq hc)] at hl
        refine Stop.go (noE (scanQ_c (T := ln + ((z.cps.toList.drop k₀).count 10 : Nat)) (tok := tok) (rest := rest) C he B' X' T' hdp hun lq hqI ⟨t, Str.ofString "", _, some (.str ⟨#[a]⟩ ta), _, k + 1, _, _, _, npb, ⟨_, _, rfl, frBo F₃ _ ⟨rfl, rfl, rfl, rfl, trivial⟩ (fun y hy => by simp only [Off] at hy; simp [hy]), N₃⟩, ?_, ?_, by omega, ?_, rfl⟩ ?_ ?_))
        · rw [hd2]; exact hl
        · rw [hd2]; exact hcnt
        · exact Nat.zero_le _
        · intro t tt chv ln k t1 tp np npb s' hs e1 e2 e3
          obtain ⟨h, tk, rfl, F, N⟩ := hs
          dsimp only
          exact endCall_ F N fun kF kN kK => hret _ _ _ _ _ _ _ _ _ e1 (by omega) e2 kF (newsSub kN fun p hp => .tail _ (.tail _ hp)) kK
        · intro tt chv ln k t1 tp np npb s' hs e1 e2 e3 e4
          obtain ⟨h, tk, rfl, F, N⟩ := hs
          dsimp only
          k_steps
          exact Stop.go ⟨0, by omega, .inr ⟨tt, chv, ln, k, t1, tp, np, npb, ⟨_, _, rfl, F, N⟩, e1, e2, e3, by omega, rfl⟩⟩
      · rename Fr g L' _ _ => F₂
        rename News g L' _ _ => N₂
        have hc : ((⟨#[a]⟩ : PySem.Str) == Str.ofString "\"") = false := by assumption
        have hw : (Builtin.Str.occurrences (Str.ofString "\n\t\x0d ") ⟨#[a]⟩ 0 (Str.ofString "\n\t\x0d ").length 1).isEmpty = true := by assumption
        have hb : ((⟨#[a]⟩ : PySem.Str) == Str.ofString "\\") = true := by assumption
        rw [found_ws] at hw
        rw [one_quote] at hc
        rw [one_back] at hb
        have hb' : a = 92 := eq_of_beq hb
        rw [hd1, lexOf, if_neg (by simpa using hw), if_neg (by intro e; rw [e] at hc; exact absurd hc (by decide)), if_pos hb'] at hl
        refine Stop.go (readchar_c C (k := k + 1) (by omega) (Site.near B' X' T' rfl (by assumption) (by assumption)) F₂ (newsSub N₂ (fun p hp => .tail _ (.tail _ hp))) ?_)
        intro t₂ t1₂ tp₂ np₂ h₂ tk₂ F₃ N₃ K₃
        have N₄ : News g L' h₂ (iterLed I q c t ++ lexLed w.params c ((ln' + if a = 10 then 1 else 0) + if (z.cps.toList.drop (k + 1)).take 1 = [10] then 1 else 0) t1₂ (k + 1 + 1) tp₂ np₂ [] npb) := newsJoin N₂ N₃ K₃ (fun p hp => (List.mem_append.mp hp).elim (fun hp => by
          simp only [iterLed, List.mem_cons, List.not_mem_nil, or_false] at hp
          rcases hp with rfl | rfl
          · exact .inr ⟨.head _, notInCons (by dsimp only; omega) (notInCons (by dsimp only; omega) notInNil)⟩
          · exact .inr ⟨.tail _ (.head _), notInCons (by dsimp only; omega) (notInCons (by dsimp only; omega) notInNil)⟩) .inl)
        clear F₂ N₂ N₃ K₃
        rw [hd2] at N₄
        have hdr : z.cps.toList.drop (k + 1 + 1) = r.drop 1 := by rw [← hd2, List.drop_drop]
        rw [hd2]
        have hlen : (⟨(r.take 1).toArray⟩ : PySem.Str).length ≤ 1 := by simp only [PySem.Str.length, List.size_toArray, List.length_take]; omega
        dsimp only
        k_steps
        rename Fr g L' _ _ => F₃
        rename News g L' _ _ => N₃
        refine Stop.go (noE (scanB_c (T := ln + ((z.cps.toList.drop k₀).count 10 : Nat)) (tok := tok) (rest := rest) C he B' X' T' hdp hun lq hqI ⟨t, _, _, some (.str ⟨(r.take 1).toArray⟩ t₂), _, k + 1 + 1, _, _, _, npb, ⟨_, _, rfl, frBo F₃ _ ⟨rfl, rfl, rfl, rfl, trivial⟩ (fun y hy => by simp only [Off] at hy; simp [hy]), N₃⟩, ?_, ?_, by omega, ?_, rfl⟩ ?_ ?_))
        · rw [hdr, hacc]; exact hl
        · rw [hdr, count_step2]; exact hcnt
        · rw [hacl]; omega
        · intro t tt chv ln k t1 tp np npb s' hs e1 e2 e3
          obtain ⟨h, tk, rfl, F, N⟩ := hs
          dsimp only
          exact endCall_ F N fun kF kN kK => hret _ _ _ _ _ _ _ _ _ e1 (by omega) e2 kF (newsSub kN fun p hp => .tail _ (.tail _ hp)) kK
        · intro tt chv ln k t1 tp np npb s' hs e1 e2 e3 e4
          obtain ⟨h, tk, rfl, F, N⟩ := hs
          dsimp only
          k_steps
          exact Stop.go ⟨0, by omega, .inr ⟨tt, chv, ln, k, t1, tp, np, npb, ⟨_, _, rfl, F, N⟩, e1, e2, e3, by omega, rfl⟩⟩
      · rename Fr g L' _ _ => F₃
        rename News g L' _ _ => N₃
        have hc : ((⟨#[a]⟩ : PySem.Str) == Str.ofString "\"") = false := by assumption
        have hw : (Builtin.Str.occurrences (Str.ofString "\n\t\x0d ") ⟨#[a]⟩ 0 (Str.ofString "\n\t\x0d ").length 1).isEmpty = true := by assumption
        have hb : ((⟨#[a]⟩ : PySem.Str) == Str.ofString "\\") = false := by assumption
        rw [found_ws] at hw
        rw [one_quote] at hc
        rw [one_back] at hb
        rw [hd1, lexOf, if_neg (by simpa using hw), if_neg (by intro e; rw [e] at hc; exact absurd hc (by decide)), if_neg (by intro e; rw [e] at hb; exact absurd hb (by decide))] at hl
        refine Stop.go (noE (scanB_c (T := ln + ((z.cps.toList.drop k₀).count 10 : Nat)) (tok := tok) (rest := rest) C he B' X' T' hdp hun lq hqI ⟨t, _, _, some (.str ⟨#[a]⟩ ta), _, k + 1, _, _, _, npb, ⟨_, _, rfl, frBo F₃ _ ⟨rfl, rfl, rfl, rfl, trivial⟩ (fun y hy => by simp only [Off] at hy; simp [hy]), N₃⟩, ?_, ?_, by omega, ?_, rfl⟩ ?_ ?_))
        · rw [hd2, hacc]; exact hl
        · rw [hd2]; exact hcnt
        · rw [hacl]; show 1 ≤ _; omega
        · intro t tt chv ln k t1 tp np npb s' hs e1 e2 e3
          obtain ⟨h, tk, rfl, F, N⟩ := hs
          dsimp only
          exact endCall_ F N fun kF kN kK => hret _ _ _ _ _ _ _ _ _ e1 (by omega) e2 kF (newsSub kN fun p hp => .tail _ (.tail _ hp)) kK
        · intro tt chv ln k t1 tp np npb s' hs e1 e2 e3 e4
          obtain ⟨h, tk, rfl, F, N⟩ := hs
          dsimp only
          k_steps
          exact Stop.go ⟨0, by omega, .inr ⟨tt, chv, ln, k, t1, tp, np, npb, ⟨_, _, rfl, F, N⟩, e1, e2, e3, by omega, rfl⟩⟩
      · rename Fr g L' _ _ => F₃
        rename News g L' _ _ => N₃
        have hw : (Builtin.Str.occurrences (Str.ofString "\n\t\x0d ") ⟨#[a]⟩ 0 (Str.ofString "\n\t\x0d ").length 1).isEmpty = false := by assumption
        rw [found_ws] at hw
        rw [hd1, lexOf, if_pos (by simpa using hw)] at hl
        dsimp only
        refine Stop.go ⟨z.length + e + 3 - (k + 1), by omega, .inl ⟨t, tt, some (.str ⟨#[a]⟩ ta), _, k + 1, _, _, _, npb, ⟨_, _, rfl, frBo F₃ _ ⟨rfl, rfl, rfl, rfl, trivial⟩ (fun y hy => by simp only [Off] at hy; simp [hy]), N₃⟩, ?_, ?_, by omega, rfl⟩⟩
        · rw [hd2]; exact hl
        · rw [hd2]; exact hcnt
    · intro t1' tp' np' h' tk' hd1 F' N'
      rw [hd1, lexOf] at hl
      obtain ⟨rfl, rfl⟩ := Prod.mk.inj hl
      clear F N
      have hd2 : z.cps.toList.drop (k + 1) = [] := by rw [← List.drop_drop, hd1]; rfl
      rw [hd1] at hT
      dsimp only [bo] at F'
      dsimp only
      k_steps
      exact endCall_ F' N' fun kF kN kK => hret _ _ _ _ _ _ _ _ _ hd2 (by omega) (by simpa using hT) kF (newsSub kN fun p hp => .tail _ (.tail _ hp)) kK
  · refine pyNext_off rfl ((N _ (List.mem_append_left _ (.head _))).1) ?_
    intro h' hk'
    have F' : Fr g L' h' _ := ⟨by obtain ⟨oL, a1, a2, hoL, a3⟩ := F.ns; exact ⟨oL, a1, a2, hk' _ _ hoL, a3⟩, fun b o e => hk' _ _ (F.keep _ _ e), F.above⟩
    have N' : News g L' h' _ := fun p hp => ⟨hk' _ _ (N p hp).1, (N p hp).2⟩
    clear F N
    subst hr
    dsimp only [bo] at F'
    dsimp only
    k_steps
    exact endCall_ F' N' fun kF kN kK => hret _ _ _ _ _ _ _ _ _ hl (by omega) (by simpa using hT) kF (newsSub kN fun p hp => .tail _ (.tail _ hp)) kK
end

section
open PySem PySem.W PyProof PyProof.Rows PySem.Calls PySem.Spec PyProof.Rows.LCg
set_option Elab.async false
set_option maxRecDepth 100000
set_option pp.deepTerms false

/-- a zip over two lists of the ledger is made: what a comprehension's turns then have to show -/
def ZipSrc (prog : Program) (w : World) (A : Around) (h₀ : Heap) (L : Addr) (m : Str → Option Value) (env : Env) (elt : PySem.Expr) (a b : Str) (scope : Scope) (cl : List (Str × Addr)) (Fin : Addr → Addr → Shared → Prop) (zv : Value) (s₁ : Shared) : Prop :=
  ∃ (z TI TO i1 i2 l1 l2 : Addr) (xs ys : List Value) (n1 n2 n : Nat) (news : List (Addr × Obj)) (Acc : Nat → List Value → Prop),
    zv = .ref z ∧ ZipApart z TI TO i1 i2 l1 l2 ∧ IsZip s₁.heap z TI TO .none ∧ IsPair s₁.heap TI (.ref i1) (.ref i2) ∧ (∃ a b, IsPair s₁.heap TO a b) ∧ s₁.heap.IsListIter i1 l1 0 ∧ s₁.heap.IsListIter i2 l2 0 ∧
    Fr h₀ L s₁.heap m ∧ News h₀ L s₁.heap news ∧ (l1, listO xs n1) ∈ news ∧ (l2, listO ys n2) ∈ news ∧ xs.length = n ∧ ys.length = n ∧ n ≤ sizeLine ∧
    (∀ q ∈ [z, TI, TO, i1, i2], q ≠ L ∧ h₀.get? q = none ∧ ∀ p ∈ news, p.1 ≠ q) ∧ Acc 0 [] ∧
    (∀ i x y acc t v1 v2 C oC D (oz oTI oTO o1 o2 : Obj) m₂ h tk, xs[i]? = some x → ys[i]? = some y → Acc i acc → v1 = x → v2 = y → NsObj oC m₂ → m₂ a = some v1 → m₂ b = some v2 → t = tk → Fr h₀ L h m →
      News h₀ L h ((C, oC) :: (D, lst acc) :: (z, oz) :: (TI, oTI) :: (TO, oTO) :: (i1, o1) :: (i2, o2) :: news) →
      wpAny (model prog w) A (eval elt (compEnvC scope cl C env)) (fun v s' => ∃ h' tk', s' = { s₁ with heap := h', toks := tk' } ∧ Fr h₀ L h' m ∧ News h₀ L h' ((C, oC) :: (D, lst acc) :: (z, oz) :: (TI, oTI) :: (TO, oTO) :: (i1, o1) :: (i2, o2) :: news) ∧ Acc (i + 1) (acc ++ [v])) NoE { s₁ with heap := h, toks := tk }) ∧
    (∀ D C acc h tk m', Acc n acc → Fr h₀ L h m → News h₀ L h ((D, lst acc) :: news) → (∀ p ∈ news, p.1 < D) → h.Ns C m' → h₀.get? C = none → C ≠ L → D ≠ C → (∀ p ∈ news, p.1 ≠ C) → Fin D C { s₁ with heap := h, toks := tk })

structure ZipTurn (h₀ : Heap) (L : Addr) (m : Str → Option Value) (s₂ : Shared) (z TI TO i1 i2 l1 l2 C D : Addr) (news : List (Addr × Obj)) (Acc : Nat → List Value → Prop) (n k : Nat) (s' : Shared) (h' : Heap) (tk i : Nat) (acc : List Value) (m' : Str → Option Value) (ta tb : Value) : Prop where
  es : s' = { s₂ with heap := h', toks := tk }
  ei : i ≤ n
  ek : k = n + 1 - i
  el : acc.length = i
  ez : IsZip h' z TI TO .none
  eI : IsPair h' TI (.ref i1) (.ref i2)
  eO : IsPair h' TO ta tb
  e1 : h'.IsListIter i1 l1 i
  e2 : h'.IsListIter i2 l2 i
  eF : Fr h₀ L h' m
  en : h'.Ns C m'
  eN : News h₀ L h' ((D, lst acc) :: news)
  eA : Acc i acc

section
variable {prog : Program} {w : World} {A : Around} {E : Value → Shared → Prop} {s : Shared} {h₀ : Heap} {L : Addr} {m : Str → Option Value} {env : Env}

theorem comp_zipG {elt iter : PySem.Expr} {use : Option (Value → Sem Unit)} {a b : Str} {pa pb tp : Pos} {kk : Nat} {scope : Scope} {cl : List (Str × Addr)} {pos pos₂ : Pos} {Q : Value → Shared → Prop} (hh : A.handled = none)
    (hclos : closureFor scope env = pure cl) (hcell : ∀ y ∈ scope.names, y.2 ≠ .cell) (hkind : scope.kind = .function)
    (hnames : ∀ y ∈ scope.names, y.2 = .local → scope.names.lookup y.1 = some .local) (hxa : scope.names.lookup a = some .local) (hxb : scope.names.lookup b = some .local) (hab : ¬ a = b)
    (h : wpAny (model prog w) A (eval iter env) (ZipSrc prog w A h₀ L m env elt a b scope cl (fun D C s' => compPost (model prog w) A E use Q (.ref D) C (.ok .next) s')) NoE s)
    (hs : ∀ x, foldedSetIterable iter env x = pure x := by intro _; rfl) :
    wpAny (model prog w) A (comprehension (.ListComp elt [⟨.Tuple [.Name a pa, .Name b pb] kk tp, iter, [], 0⟩] scope pos) scope env pos₂ (newList []) false (eval iter env) use) Q E s := by
  refine wpAny_comprehension_free (use := use) rfl hs hclos hkind hnames (wpAny_mono h (fun xv s₂ h₁ => ?_) fun _ _ e => e.elim)
  obtain ⟨z, TI, TO, i1, i2, l1, l2, xs, ys, n1, n2, n, news, Acc, rfl, D0, hz, hTI, hTO, hi1, hi2, F, N, m1, m2, lx, ly, hsz, fresh5, acc0, helt, hfin⟩ := h₁
  refine wpAny_pyIter_zip hz ?_
  refine wpAny_newObj_type (wpAny_newFunctionEnv hcell (by intro y hy; simp at hy) (fun h₁ hns₁ hsb₁ => ?_) hkind)
  dsimp only at hns₁ hsb₁ ⊢
  generalize hH2 : s₂.heap.push { cls := .type "list", dict := none, data := .seq ([] : List Value).toArray } = H2 at hns₁ hsb₁ ⊢
  have hC : H2.objs.size = s₂.heap.objs.size + 1 := by rw [← hH2, Heap.size_push]
  have hDC : s₂.heap.objs.size ≠ H2.objs.size := by rw [hC]; exact Nat.ne_of_lt (Nat.lt_succ_self _)
  have below : ∀ b, b < s₂.heap.objs.size → b ≠ H2.objs.size ∧ b ≠ s₂.heap.objs.size := fun b hb => ⟨by rw [hC]; exact Nat.ne_of_lt (Nat.lt_succ_of_lt hb), Nat.ne_of_lt hb⟩
  have old : ∀ b o, s₂.heap.get? b = some o → h₁.get? b = some o := fun b o e => hsb₁.extBut b o (below b (Heap.lt_size e)).1 (Heap.get?_push_of_some _ (hH2 ▸ Heap.get?_push_of_some _ e))
  have hacc : h₁.get? s₂.heap.objs.size = some (lst []) := hsb₁.extBut _ _ hDC (Heap.get?_push_of_some _ (hH2 ▸ Heap.get?_push_size _ rfl))
  have fresh : ∀ a, s₂.heap.objs.size ≤ a → s₂.heap.get? a = none := fun a ha => by
    cases e : s₂.heap.get? a with
    | none => rfl
    | some o' => exact absurd (Heap.lt_size e) (Nat.not_lt.mpr ha)
  have fresh₀ : ∀ a, s₂.heap.objs.size ≤ a → h₀.get? a = none := fun a ha => by
    cases e : h₀.get? a with
    | none => rfl
    | some o' => have := F.keep a o' e; rw [fresh a ha] at this; cases this
  have hD₀ : h₀.get? s₂.heap.objs.size = none := fresh₀ _ (Nat.le_refl _)
  have hC₀ : h₀.get? H2.objs.size = none := fresh₀ _ (by rw [hC]; exact Nat.le_succ _)
  have hLlt : L < s₂.heap.objs.size := F.ns.lt
  have hDL : s₂.heap.objs.size ≠ L := Ne.symm (below L hLlt).2
  have hCL : H2.objs.size ≠ L := Ne.symm (below L hLlt).1
  obtain ⟨ta, tb, hTO⟩ := hTO
  have bz := below z (Heap.lt_size hz)
  have bTI := below TI (Heap.lt_size hTI)
  have bTO := below TO (Heap.lt_size hTO)
  have bi1 := below i1 (by obtain ⟨_, e, _⟩ := hi1; exact Heap.lt_size e)
  have bi2 := below i2 (by obtain ⟨_, e, _⟩ := hi2; exact Heap.lt_size e)
  have bnews : ∀ p ∈ news, p.1 ≠ H2.objs.size ∧ p.1 ≠ s₂.heap.objs.size := fun p hp => below _ (Heap.lt_size (N p hp).1)
  have fz := fresh5 z (.head _)
  have fTI := fresh5 TI (.tail _ (.head _))
  have fTO := fresh5 TO (.tail _ (.tail _ (.head _)))
  have fi1 := fresh5 i1 (.tail _ (.tail _ (.tail _ (.head _))))
  have fi2 := fresh5 i2 (.tail _ (.tail _ (.tail _ (.tail _ (.head _)))))
  have loop : ∀ s₃ : Shared, s₃ = { s₂ with heap := h₁, toks := s₂.toks + ([] : List (Str × Value)).length } →
      codeAny (model prog w) A (.compLoop (.ListComp elt [⟨.Tuple [.Name a pa, .Name b pb] kk tp, iter, [], 0⟩] scope pos) 0 (.ref z) (.ref s₂.heap.objs.size) (compEnvC scope cl H2.objs.size env))
        (compPost (model prog w) A E use Q (.ref s₂.heap.objs.size) H2.objs.size) s₃ := by
    rintro s₃ rfl
    refine kcp_loop
      (fun k s' => ∃ h' tk i acc m' ta tb, ZipTurn h₀ L m s₂ z TI TO i1 i2 l1 l2 H2.objs.size s₂.heap.objs.size news Acc n k s' h' tk i acc m' ta tb) ?_ (n + 1)
      ⟨h₁, _, 0, [], _, ta, tb, rfl, Nat.zero_le _, rfl, rfl, old _ _ hz, old _ _ hTI, old _ _ hTO, hi1.at (fun o e => old _ o e), hi2.at (fun o e => old _ o e), F.keeps old, hns₁, fun p hp => ?_, acc0⟩
    · rintro k s' ⟨h', tk, i, acc, m', ta, tb, rfl, hi, rfl, hyl, hz', hTI', hTO', hi1', hi2', F', hn', N', hA⟩
      have hl1 : h'.IsList l1 xs.toArray := ⟨_, (N' _ (.tail _ m1)).1, rfl, n1, rfl⟩
      have hl2 : h'.IsList l2 ys.toArray := ⟨_, (N' _ (.tail _ m2)).1, rfl, n2, rfl⟩
      by_cases hlt : i < n
      · have hx : xs[i]? = some (xs[i]'(by omega)) := List.getElem?_eq_getElem (by omega)
        have hy : ys[i]? = some (ys[i]'(by omega)) := List.getElem?_eq_getElem (by omega)
        generalize xs[i]'(by omega) = x at hx
        generalize ys[i]'(by omega) = y at hy
        refine wpAny_pyNext_zip_item D0 hz' hTI' hTO' hi1' hi2' hl1 hl2 (by simpa using hx) (by simpa using hy) fun h₂ z₂ t₂ j1 j2 hT hsz₂ k₂ => ?_
        dsimp only
        refine wpAny_letOwnedTupleGo_zip z₂ fun h₃ z₃ k₃ => ?_
        have up₃ : ∀ c o, c ≠ z → c ≠ TO → c ≠ i1 → c ≠ i2 → h'.get? c = some o → h₃.get? c = some o := fun c o c1 c2 c3 c4 e => k₃.extBut c o c1 (k₂ c o c1 c2 c3 c4 e)
        have hTz : h'.objs.size ≠ z := Nat.ne_of_gt (Heap.lt_size hz')
        have hT₃ : h₃.IsTuple h'.objs.size #[x, y] := ⟨_, k₃.extBut _ _ hTz hT, rfl, _, rfl⟩
        refine kcp_assign (env := compEnvC scope cl H2.objs.size env) hh hT₃ (lookup_relabel_local hxa) (lookup_relabel_local hxb) (by simp [compEnvC, relabel, hkind]) (hn'.at' fun o e => up₃ _ o (Ne.symm bz.1) (Ne.symm bTO.1) (Ne.symm bi1.1) (Ne.symm bi2.1) e) fun h₄ tk₄ hn₄ hs₄ => ?_
        have up : ∀ c o, c ≠ z → c ≠ TO → c ≠ i1 → c ≠ i2 → c ≠ H2.objs.size → h'.get? c = some o → h₄.get? c = some o := fun c o c1 c2 c3 c4 c5 e => hs₄ c o c5 (up₃ c o c1 c2 c3 c4 e)
        have z₄ : IsZip h₄ z TI TO .none := hs₄ _ _ bz.1 z₃
        have TI₄ : IsPair h₄ TI (.ref i1) (.ref i2) := up _ _ D0.TIz D0.TITO D0.TIi1 D0.TIi2 bTI.1 hTI'
        have TO₄ : IsPair h₄ TO x y := hs₄ _ _ bTO.1 (k₃.extBut _ _ D0.TOz t₂)
        have i1₄ : h₄.IsListIter i1 l1 (i + 1) := j1.at fun o e => hs₄ _ _ bi1.1 (k₃.extBut _ _ D0.i1z e)
        have i2₄ : h₄.IsListIter i2 l2 (i + 1) := j2.at fun o e => hs₄ _ _ bi2.1 (k₃.extBut _ _ D0.i2z e)
        obtain ⟨oC, heC, hoC⟩ := ns_obj hn₄
        obtain ⟨o1, e1, c1⟩ := i1₄
        obtain ⟨o2, e2, c2⟩ := i2₄
        have F₄ : Fr h₀ L h₄ m := ⟨F'.ns.at' fun o e => up _ o (Ne.symm fz.1) (Ne.symm fTO.1) (Ne.symm fi1.1) (Ne.symm fi2.1) (Ne.symm hCL) e,
          fun c o e => up c o (fun q => by rw [q, fz.2.1] at e; cases e) (fun q => by rw [q, fTO.2.1] at e; cases e) (fun q => by rw [q, fi1.2.1] at e; cases e) (fun q => by rw [q, fi2.2.1] at e; cases e) (fun q => by rw [q, hC₀] at e; cases e) (F'.keep c o e), F'.above⟩
        have N₄ : News h₀ L h₄ ((H2.objs.size, oC) :: (s₂.heap.objs.size, lst acc) :: (z, { cls := .type "zip", dict := none, data := .fields #[.none, .bool false, .bool false, .ref TI, .ref TO], slots := #[] }) :: (TI, { cls := .type "tuple", data := .seq #[.ref i1, .ref i2] }) :: (TO, { cls := .type "tuple", data := .seq #[x, y] }) :: (i1, o1) :: (i2, o2) :: news) := by
          intro q hq
          rcases List.mem_cons.mp hq with rfl | hq
          · exact ⟨heC, hCL, hC₀⟩
          rcases List.mem_cons.mp hq with rfl | hq
          · have g := N' _ (.head _)
            exact ⟨up _ _ (Ne.symm bz.2) (Ne.symm bTO.2) (Ne.symm bi1.2) (Ne.symm bi2.2) hDC g.1, g.2⟩
          rcases List.mem_cons.mp hq with rfl | hq
          · exact ⟨z₄, fz.1, fz.2.1⟩
          rcases List.mem_cons.mp hq with rfl | hq
          · exact ⟨TI₄, fTI.1, fTI.2.1⟩
          rcases List.mem_cons.mp hq with rfl | hq
          · exact ⟨TO₄, fTO.1, fTO.2.1⟩
          rcases List.mem_cons.mp hq with rfl | hq
          · exact ⟨e1, fi1.1, fi1.2.1⟩
          rcases List.mem_cons.mp hq with rfl | hq
          · exact ⟨e2, fi2.1, fi2.2.1⟩
          · have g := N' _ (.tail _ hq)
            exact ⟨up _ _ (fz.2.2 _ hq) (fTO.2.2 _ hq) (fi1.2.2 _ hq) (fi2.2.2 _ hq) (bnews _ hq).1 g.1, g.2⟩
        refine wpAny_mono (helt i x y acc _ x y H2.objs.size oC s₂.heap.objs.size _ _ _ o1 o2 _ h₄ _ hx hy hA rfl rfl hoC (by simp [hab]) (by simp) rfl F₄ N₄) (fun v s₅ h₅ => ?_) fun _ _ e => e.elim
        obtain ⟨h₅, tk₅, rfl, F₅, N₅, hA₅⟩ := h₅
        have zC := (N₅ _ (.head _)).1
        have zD := (N₅ _ (.tail _ (.head _))).1
        refine append_at (hsz := by show acc.toArray.size ≤ sizeLine; rw [List.size_toArray, hyl]; exact Nat.le_trans hi hsz) zD fun h₆ hs₆ hD₆ => ?_
        refine ⟨n + 1 - (i + 1), by omega, h₆, tk₅, i + 1, acc ++ [v], _, x, y, rfl, hlt, rfl, by rw [List.length_append, List.length_singleton, hyl], hs₆.extBut _ _ bz.2 (N₅ (z, _) (.tail _ (.tail _ (.head _)))).1,
          hs₆.extBut _ _ bTI.2 (N₅ (TI, _) (.tail _ (.tail _ (.tail _ (.head _))))).1, hs₆.extBut _ _ bTO.2 (N₅ (TO, _) (.tail _ (.tail _ (.tail _ (.tail _ (.head _)))))).1,
          ⟨o1, hs₆.extBut _ _ bi1.2 (N₅ (i1, o1) (.tail _ (.tail _ (.tail _ (.tail _ (.tail _ (.head _))))))).1, c1⟩, ⟨o2, hs₆.extBut _ _ bi2.2 (N₅ (i2, o2) (.tail _ (.tail _ (.tail _ (.tail _ (.tail _ (.tail _ (.head _)))))))).1, c2⟩,
          F₅.change hs₆ hDL hD₀, (hoC.ns zC).sameBut hs₆ (Ne.symm hDC), fun q hq => ?_, hA₅⟩
        rcases List.mem_cons.mp hq with rfl | hq
        · exact ⟨hD₆.trans (congrArg some (lst_snoc acc v)), hDL, hD₀⟩
        · have g := N₅ q (.tail _ (.tail _ (.tail _ (.tail _ (.tail _ (.tail _ (.tail _ hq)))))))
          exact ⟨hs₆.extBut _ _ (bnews _ hq).2 g.1, g.2⟩
      · have hin : i = n := Nat.le_antisymm hi (Nat.not_lt.mp hlt)
        subst hin
        refine wpAny_pyNext_zip_end hh D0 hz' hTI' hTO' hi1' hi2' hl1 hl2 (.inl (by simp; omega)) fun h₂ k₂ => ?_
        dsimp only
        have F₂ : Fr h₀ L h₂ m := ⟨F'.ns.at' fun o e => k₂ _ o (Ne.symm fz.1) (Ne.symm fTO.1) (Ne.symm fi1.1) (Ne.symm fi2.1) e,
          fun c o e => k₂ c o (fun q => by rw [q, fz.2.1] at e; cases e) (fun q => by rw [q, fTO.2.1] at e; cases e) (fun q => by rw [q, fi1.2.1] at e; cases e) (fun q => by rw [q, fi2.2.1] at e; cases e) (F'.keep c o e), F'.above⟩
        refine hfin s₂.heap.objs.size H2.objs.size acc h₂ tk m' hA F₂ (fun p hp => ?_) (fun p hp => Heap.lt_size (N p hp).1) (hn'.at' fun o e => k₂ _ o (Ne.symm bz.1) (Ne.symm bTO.1) (Ne.symm bi1.1) (Ne.symm bi2.1) e) hC₀ hCL hDC fun p hp => (bnews p hp).1
        have g := N' p hp
        rcases List.mem_cons.mp hp with rfl | hp
        · exact ⟨k₂ _ _ (Ne.symm bz.2) (Ne.symm bTO.2) (Ne.symm bi1.2) (Ne.symm bi2.2) g.1, g.2⟩
        · exact ⟨k₂ _ _ (fz.2.2 _ hp) (fTO.2.2 _ hp) (fi1.2.2 _ hp) (fi2.2.2 _ hp) g.1, g.2⟩
    · rcases List.mem_cons.mp hp with rfl | hp
      · exact ⟨hacc, hDL, hD₀⟩
      · exact ⟨old _ _ (N p hp).1, (N p hp).2⟩
  exact codeAny_compStart_list (loop _ rfl) (wpAny_pyIter_zip (old _ _ hz) (loop _ rfl))
theorem assign_zip {elt iter : PySem.Expr} {a b y : Str} {pa pb tp py : Pos} {kk : Nat} {scope : Scope} {cl : List (Str × Addr)} {pos spos : Pos} {Q : Flow → Shared → Prop} (hh : A.handled = none)
    (hsw : swapsWith (.ListComp elt [⟨.Tuple [.Name a pa, .Name b pb] kk tp, iter, [], 0⟩] scope pos) (some (.Name y py)) spos.line env = pure true)
    (hclos : closureFor scope env = pure cl) (hcell : ∀ y ∈ scope.names, y.2 ≠ .cell) (hkind : scope.kind = .function)
    (hnames : ∀ y ∈ scope.names, y.2 = .local → scope.names.lookup y.1 = some .local) (hxa : scope.names.lookup a = some .local) (hxb : scope.names.lookup b = some .local) (hab : ¬ a = b)
    (h : wpAny (model prog w) A (eval iter env) (ZipSrc prog w A h₀ L m env elt a b scope cl (fun D C s' => compPost (model prog w) A E (some (assign (.Name y py) env)) (fun _ s' => Q .next s') (.ref D) C (.ok .next) s')) NoE s)
    (hs : ∀ x, foldedSetIterable iter env x = pure x := by intro _; rfl) :
    wpAny (model prog w) A (exec (.Assign [.Name y py] (.ListComp elt [⟨.Tuple [.Name a pa, .Name b pb] kk tp, iter, [], 0⟩] scope pos) spos) env) Q E s := by
  rw [exec_Assign_Name_used _ _ _ _ hsw]
  refine wpAny_bind (wpAny_standAt (wpAny_bind ?_))
  show wpAny _ A (do let _ ← comprehension (.ListComp elt [⟨.Tuple [.Name a pa, .Name b pb] kk tp, iter, [], 0⟩] scope pos) scope env _ (newList []) false (eval iter env) (some (assign (.Name y py) env))) _ _ s
  exact wpAny_bind (wpAny_mono (comp_zipG (use := some (assign (.Name y py) env)) (Q := fun _ s' => Q .next s') hh hclos hcell hkind hnames hxa hxb hab h hs) (fun _ s' hq => wpAny_pure (wpAny_pure hq)) fun _ _ e => e)

theorem zip_src {l1 l2 : Addr} {elt : PySem.Expr} {a b : Str} {scope : Scope} {cl : List (Str × Addr)} {Fin : Addr → Addr → Shared → Prop} {xs ys : List Value} {n1 n2 n : Nat} {news : List (Addr × Obj)} (Acc : Nat → List Value → Prop)
    (F : Fr h₀ L s.heap m) (N : News h₀ L s.heap news) (m1 : (l1, listO xs n1) ∈ news) (m2 : (l2, listO ys n2) ∈ news) (lx : xs.length = n) (ly : ys.length = n) (hsz : n ≤ sizeLine) (acc0 : Acc 0 [])
    (helt : ∀ i x y acc C oC m₂ h tk, xs[i]? = some x → ys[i]? = some y → Acc i acc → NsObj oC m₂ → m₂ a = some x → m₂ b = some y → Fr h₀ L h m → News h₀ L h ((C, oC) :: news) →
      wpAny (model prog w) A (eval elt (compEnvC scope cl C env)) (fun v s' => ∃ tk', s' = { s with heap := h, toks := tk' } ∧ Acc (i + 1) (acc ++ [v])) NoE { s with heap := h, toks := tk })
    (hfin : ∀ D C acc h tk m', Acc n acc → Fr h₀ L h m → News h₀ L h ((D, lst acc) :: news) → (∀ p ∈ news, p.1 < D) → h.Ns C m' → h₀.get? C = none → C ≠ L → D ≠ C → (∀ p ∈ news, p.1 ≠ C) → Fin D C { s with heap := h, toks := tk }) :
    wpAny (model prog w) A (call (.type "zip") [.ref l1, .ref l2]) (ZipSrc prog w A h₀ L m env elt a b scope cl Fin) E s := by
  have hl1 : s.heap.IsList l1 xs.toArray := ⟨_, (N _ m1).1, rfl, n1, rfl⟩
  have hl2 : s.heap.IsList l2 ys.toArray := ⟨_, (N _ m2).1, rfl, n2, rfl⟩
  have a1 : l1 < s.heap.objs.size := by obtain ⟨_, e, _⟩ := hl1; exact Heap.lt_size e
  have a2 : l2 < s.heap.objs.size := by obtain ⟨_, e, _⟩ := hl2; exact Heap.lt_size e
  have hLlt : L < s.heap.objs.size := F.ns.lt
  have fresh : ∀ q : Addr, s.heap.objs.size ≤ q → q ≠ L ∧ h₀.get? q = none ∧ ∀ p ∈ news, p.1 ≠ q := fun q hq => ⟨Nat.ne_of_gt (Nat.lt_of_lt_of_le hLlt hq), by
    cases e : h₀.get? q with
    | none => rfl
    | some o' => exact absurd (Heap.lt_size (F.keep q o' e)) (Nat.not_lt.mpr hq), fun p hp => Nat.ne_of_lt (Nat.lt_of_lt_of_le (Heap.lt_size (N p hp).1) hq)⟩
  refine call_zip_2 hl1 hl2 fun h' hz hTI hTO hi1 hi2 _ hk => ?_
  refine ⟨_, _, _, _, _, l1, l2, xs, ys, n1, n2, n, news, Acc, rfl, zipApart_new a1 a2, hz, hTI, ⟨_, _, hTO⟩, hi1, hi2, F.keeps hk, fun p hp => ⟨hk _ _ (N p hp).1, (N p hp).2⟩, m1, m2, lx, ly, hsz, ?_, acc0, ?_, ?_⟩
  · intro q hq
    simp only [List.mem_cons, List.not_mem_nil, or_false] at hq
    rcases hq with rfl | rfl | rfl | rfl | rfl
    · exact fresh _ (Nat.le_add_right _ _)
    · exact fresh _ (Nat.le_add_right _ _)
    · exact fresh _ (Nat.le_add_right _ _)
    · exact fresh _ (Nat.le_refl _)
    · exact fresh _ (Nat.le_add_right _ _)
  · intro i x y acc t v1 v2 C oC D oz oTI oTO o1 o2 m₂ h tk hx hy hA e1 e2 hoC ha hb et F' N'
    subst e1 e2
    refine wpAny_mono (helt i v1 v2 acc C oC m₂ h tk hx hy hA hoC ha hb F' fun p hp => N' p ?_) (fun v s' hv => ?_) fun _ _ e => e
    · rcases List.mem_cons.mp hp with rfl | hp
      · exact .head _
      · exact .tail _ (.tail _ (.tail _ (.tail _ (.tail _ (.tail _ (.tail _ hp))))))
    · obtain ⟨tk', rfl, hA'⟩ := hv
      exact ⟨h, tk', rfl, F', N', hA'⟩
  · exact hfin
end
end

section
open PySem PySem.W PyProof PyProof.Rows PySem.Calls PySem.Spec PyProof.Rows.LCg
set_option Elab.async false
set_option maxRecDepth 100000
set_option pp.deepTerms false

/-- how a turn ends of a loop whose iterator stands in the ledger -/
def LedEnd (h₀ : Heap) (L I : Addr) (oI : Obj) (J : (Str → Option Value) → List (Addr × Obj) → Prop) (s s₃ : Shared) : Prop :=
  ∃ h' tk' m' news', s₃ = { s with heap := h', toks := tk' } ∧ Fr h₀ L h' m' ∧ News h₀ L h' ((I, oI) :: news') ∧ (∀ p ∈ news', p.1 ≠ I) ∧ J m' news'
theorem LedEnd.intro {h₀ : Heap} {L I : Addr} {oI : Obj} {J : (Str → Option Value) → List (Addr × Obj) → Prop} {s : Shared} {h' : Heap} {tk' : Nat} {m' : Str → Option Value} {news' : List (Addr × Obj)}
    (F : Fr h₀ L h' m') (N : News h₀ L h' ((I, oI) :: news')) (ha : ∀ p ∈ news', p.1 ≠ I) (hJ : J m' news') : LedEnd h₀ L I oI J s { s with heap := h', toks := tk' } := ⟨h', tk', m', news', rfl, F, N, ha, hJ⟩

structure Nexts (prog : Program) (w : World) (A : Around) (I : Addr) (n : Nat) (P : Nat → Value → Prop) (Po : Nat → Obj → Prop) (Side : Heap → Prop) : Prop where
  item : ∀ i (s : Shared) (Q : Option Value → Shared → Prop) (E : Value → Shared → Prop), i < n → (∃ o, s.heap.get? I = some o ∧ Po i o) → Side s.heap →
    (∀ v h' tk o', P i v → h'.get? I = some o' → Po (i + 1) o' → (∀ b o, b ≠ I → s.heap.get? b = some o → h'.get? b = some o) → Q (some v) { s with heap := h', toks := tk }) → wpAny (model prog w) A (pyNext (.ref I)) Q E s
  done : ∀ (s : Shared) (Q : Option Value → Shared → Prop) (E : Value → Shared → Prop), (∃ o, s.heap.get? I = some o ∧ Po n o) → Side s.heap →
    (∀ h' tk, (∀ b o, b ≠ I → s.heap.get? b = some o → h'.get? b = some o) → Q none { s with heap := h', toks := tk }) → wpAny (model prog w) A (pyNext (.ref I)) Q E s

section
variable {prog : Program} {w : World} {A : Around} {s : Shared} {h₀ : Heap} {L : Addr} {m : Str → Option Value} {news : List (Addr × Obj)} {env : Env} {x : Str} {body : List Stmt} {Q : Flow → Shared → Prop}

structure LedSt (prog : Program) (w : World) (A : Around) (h₀ : Heap) (L : Addr) (env : Env) (x : Str) (body : List Stmt) (Q : Flow → Shared → Prop) (it : Value) (s₂ : Shared) (I : Addr) (n : Nat) (P : Nat → Value → Prop) (Po : Nat → Obj → Prop) (Side : Heap → Prop) (m : Str → Option Value) (news : List (Addr × Obj)) (J : Nat → (Str → Option Value) → List (Addr × Obj) → Prop) : Prop where
  eit : it = .ref I
  eW : Nexts prog w A I n P Po Side
  eL : I ≠ L
  e0 : h₀.get? I = none
  eo : ∀ p ∈ news, p.1 ≠ I
  eI : ∃ o, s₂.heap.get? I = some o ∧ Po 0 o
  eS : ∀ i m₁ news₁ h, J i m₁ news₁ → News h₀ L h news₁ → Side h
  eF : Fr h₀ L s₂.heap m
  eN : News h₀ L s₂.heap news
  eJ : J 0 m news
  turn : ∀ i v oI m₁ news₁ h tk, i < n → P i v → J i m₁ news₁ → (∀ p ∈ news₁, p.1 ≠ I) → Fr h₀ L h m₁ → News h₀ L h ((I, oI) :: news₁) →
      wpAny (model prog w) A (storeName env x v) (fun _ s₁ => wpAny (model prog w) A (execs body env) (fun f s₃ => match f with
        | .next | .cont => Stop (LedEnd h₀ L I oI (J (i + 1)) s₂ s₃)
        | .brk => Q .next s₃
        | .ret v => Q (.ret v) s₃) NoE s₁) NoE { s₂ with heap := h, toks := tk }
  done : ∀ m₁ news₁ h tk, J n m₁ news₁ → Fr h₀ L h m₁ → News h₀ L h news₁ → Q .next { s₂ with heap := h, toks := tk }
def LedAt (prog : Program) (w : World) (A : Around) (h₀ : Heap) (L : Addr) (env : Env) (x : Str) (body : List Stmt) (Q : Flow → Shared → Prop) (it : Value) (s₂ : Shared) : Prop :=
  ∃ (I : Addr) (n : Nat) (P : Nat → Value → Prop) (Po : Nat → Obj → Prop) (Side : Heap → Prop) (m : Str → Option Value) (news : List (Addr × Obj)) (J : Nat → (Str → Option Value) → List (Addr × Obj) → Prop), LedSt prog w A h₀ L env x body Q it s₂ I n P Po Side m news J
structure LedTurn (h₀ : Heap) (L I : Addr) (s₂ : Shared) (n : Nat) (Po : Nat → Obj → Prop) (J : Nat → (Str → Option Value) → List (Addr × Obj) → Prop) (k : Nat) (s' : Shared) (i : Nat) (h : Heap) (tk : Nat) (m₁ : Str → Option Value) (news₁ : List (Addr × Obj)) : Prop where
  es : s' = { s₂ with heap := h, toks := tk }
  ei : i ≤ n
  ek : k = n + 1 - i
  eo : ∃ o, h.get? I = some o ∧ Po i o
  eF : Fr h₀ L h m₁
  eN : News h₀ L h news₁
  en : ∀ p ∈ news₁, p.1 ≠ I
  eJ : J i m₁ news₁

theorem for_led {px pos : Pos} {iter : PySem.Expr} {E : Value → Shared → Prop}
    (h : wpAny (model prog w) A (eval iter env) (fun xv s₁ => wpAny (model prog w) A (pyIter xv) (LedAt prog w A h₀ L env x body Q) NoE s₁) NoE s)
    (hs : ∀ x, foldedSetIterable iter env x = pure x := by intro _; rfl) : wpAny (model prog w) A (exec (.For (.Name x px) iter body [] pos) env) Q E s := by
  refine for_own (wpAny_mono h (fun xv s₁ h₁ => wpAny_mono h₁ (fun it s₂ h₂ => ?_) fun _ _ e => e) fun _ _ e => e) hs
  obtain ⟨I, n, P, Po, Side, m, news, J, rfl, W, hIL, hI0, off, hI, hS, F, N, hJ, turn, done⟩ := h₂
  refine ⟨fun k s' => ∃ i h tk m₁ news₁, LedTurn h₀ L I s₂ n Po J k s' i h tk m₁ news₁, n + 1, ⟨0, _, _, m, news, rfl, Nat.zero_le _, rfl, hI, F, N, off, hJ⟩, ?_⟩
  rintro k s' ⟨i, h, tk, m₁, news₁, rfl, hi, rfl, ho, F₁, N₁, off₁, hJ₁⟩
  by_cases hlt : i < n
  · refine W.item i _ _ _ hlt ho (hS _ _ _ _ hJ₁ N₁) fun v h' tk' o' hP ho' hPo' hk => ?_
    have F₂ : Fr h₀ L h' m₁ := ⟨F₁.ns.at' fun o e => hk _ o (Ne.symm hIL) e, fun b o e => hk b o (fun q => by rw [q, hI0] at e; cases e) (F₁.keep b o e), F₁.above⟩
    have N₂ : News h₀ L h' ((I, o') :: news₁) := fun p hp => by
      rcases List.mem_cons.mp hp with rfl | hp
      · exact ⟨ho', hIL, hI0⟩
      · exact ⟨hk _ _ (off₁ p hp) (N₁ p hp).1, (N₁ p hp).2⟩
    have fin : ∀ s₃, LedEnd h₀ L I o' (J (i + 1)) s₂ s₃ → Stop (∃ m, m < n + 1 - i ∧ ∃ i h tk m₁ news₁, LedTurn h₀ L I s₂ n Po J m s₃ i h tk m₁ news₁) := by
      rintro s₃ ⟨h₃, tk₃, m₃, news₃, rfl, F₃, N₃, off₃, hJ₃⟩
      exact Stop.go ⟨n + 1 - (i + 1), by omega, i + 1, h₃, tk₃, m₃, news₃, rfl, hlt, rfl, ⟨o', (N₃ _ (.head _)).1, hPo'⟩, F₃, fun p hp => N₃ p (.tail _ hp), off₃, hJ₃⟩
    refine wpAny_mono (turn i v o' m₁ news₁ h' tk' hlt hP hJ₁ off₁ F₂ N₂) (fun _ s₄ h₄ => wpAny_mono h₄ (fun f s₃ h₃ => ?_) fun _ _ e => e) fun _ _ e => e
    cases f with
    | next => exact fin s₃ h₃
    | cont => exact fin s₃ h₃
    | brk => exact h₃
    | ret v => exact h₃
  · have hin : i = n := Nat.le_antisymm hi (Nat.not_lt.mp hlt)
    subst hin
    refine W.done _ _ _ ho (hS _ _ _ _ hJ₁ N₁) fun h' tk' hk => ?_
    exact done m₁ news₁ h' tk' hJ₁ ⟨F₁.ns.at' fun o e => hk _ o (Ne.symm hIL) e, fun b o e => hk b o (fun q => by rw [q, hI0] at e; cases e) (F₁.keep b o e), F₁.above⟩ fun p hp => ⟨hk _ _ (off₁ p hp) (N₁ p hp).1, (N₁ p hp).2⟩

theorem fresh_next (F : Fr h₀ L s.heap m) : s.heap.objs.size ≠ L ∧ h₀.get? s.heap.objs.size = none := ⟨Nat.ne_of_gt F.ns.lt, by
    cases e : h₀.get? s.heap.objs.size with
    | none => rfl
    | some o' => exact absurd (Heap.lt_size (F.keep _ o' e)) (Nat.lt_irrefl _)⟩

theorem led_range {r : Addr} {a₀ b₀ st : Int} {t₀ u₀ v₀ : Tok} {n : Nat} (hh : A.handled = none) (J : Nat → (Str → Option Value) → List (Addr × Obj) → Prop)
    (hr : IsRange s.heap r a₀ b₀ st t₀ u₀ v₀) (hsmall : Builtin.Range.small a₀ b₀ st = true) (hn : Builtin.Range.rangeSize a₀ b₀ st = (n : Int))
    (F : Fr h₀ L s.heap m) (N : News h₀ L s.heap news) (hJ : J 0 m news)
    (turn : ∀ (i : Nat) t I oI m₁ news₁ h tk, i < n → (∀ p ∈ news, p.1 < I) → J i m₁ news₁ → (∀ p ∈ news₁, p.1 ≠ I) → Fr h₀ L h m₁ → News h₀ L h ((I, oI) :: news₁) →
      wpAny (model prog w) A (storeName env x (.int (a₀ + (i : Int) * st) t)) (fun _ s₁ => wpAny (model prog w) A (execs body env) (fun f s₃ => match f with
        | .next | .cont => Stop (LedEnd h₀ L I oI (J (i + 1)) s s₃)
        | .brk => Q .next s₃
        | .ret v => Q (.ret v) s₃) NoE s₁) NoE { s with heap := h, toks := tk })
    (done : ∀ m₁ news₁ h tk, J n m₁ news₁ → Fr h₀ L h m₁ → News h₀ L h news₁ → Q .next { s with heap := h, toks := tk }) :
    wpAny (model prog w) A (pyIter (.ref r)) (LedAt prog w A h₀ L env x body Q) NoE s := by
  refine wpAny_pyIter_range hr hsmall ?_
  have W := Walks.range (prog := prog) (w := w) (A := A) hh s.heap.objs.size a₀ st n
  refine ⟨s.heap.objs.size, n, fun i v => ∃ t, v = .int (a₀ + (i : Int) * st) t, fun i o => o = { cls := .type "range_iterator", dict := none, data := .fields #[rawInt (a₀ + (i : Int) * st), rawInt ((n : Int) - (i : Int)), rawInt st], slots := #[] }, fun _ => True, m, news, J, rfl, ⟨?_, ?_⟩, (fresh_next F).1, (fresh_next F).2, fun p hp => Nat.ne_of_lt (Heap.lt_size (N p hp).1), ?_, fun _ _ _ _ _ _ => trivial, F.push _, fun p hp => ⟨Heap.get?_push_of_some _ (N p hp).1, (N p hp).2⟩, hJ, ?_, ?_⟩
  · rintro i s Q E hi ⟨o, ho, rfl⟩ _ hQ
    refine W.item i s Q E hi ho fun v h' tk hP hst hk => hQ v h' tk _ hP hst rfl fun b o hb e => hk b o (by simpa using hb) e
  · rintro s Q E ⟨o, ho, rfl⟩ _ hQ
    exact W.done s Q E ho fun h' tk hk => hQ h' tk fun b o hb e => hk b o (by simpa using hb) e
  · refine ⟨_, Heap.get?_push_size _ rfl, ?_⟩
    rw [hn]; simp
  · rintro i v oI m₁ news₁ h tk hi ⟨t, rfl⟩ hJ₁ off F₁ N₁
    exact turn i t _ oI m₁ news₁ h tk hi (fun p hp => Heap.lt_size (N p hp).1) hJ₁ off F₁ N₁
  · exact done

theorem led_list {l : Addr} {vs : List Value} {k : Nat} (hh : A.handled = none) (J : Nat → (Str → Option Value) → List (Addr × Obj) → Prop)
    (F : Fr h₀ L s.heap m) (N : News h₀ L s.heap news) (hl : (l, listO vs k) ∈ news) (hJ : J 0 m news) (hJl : ∀ i m₁ news₁, J i m₁ news₁ → (l, listO vs k) ∈ news₁)
    (turn : ∀ (i : Nat) v I oI m₁ news₁ h tk, vs[i]? = some v → (∀ p ∈ news, p.1 < I) → J i m₁ news₁ → (∀ p ∈ news₁, p.1 ≠ I) → Fr h₀ L h m₁ → News h₀ L h ((I, oI) :: news₁) →
      wpAny (model prog w) A (storeName env x v) (fun _ s₁ => wpAny (model prog w) A (execs body env) (fun f s₃ => match f with
        | .next | .cont => Stop (LedEnd h₀ L I oI (J (i + 1)) s s₃)
        | .brk => Q .next s₃
        | .ret v => Q (.ret v) s₃) NoE s₁) NoE { s with heap := h, toks := tk })
    (done : ∀ m₁ news₁ h tk, J vs.length m₁ news₁ → Fr h₀ L h m₁ → News h₀ L h news₁ → Q .next { s with heap := h, toks := tk }) :
    wpAny (model prog w) A (pyIter (.ref l)) (LedAt prog w A h₀ L env x body Q) NoE s := by
  have hL : s.heap.IsList l vs.toArray := ⟨_, (N _ hl).1, rfl, k, rfl⟩
  refine wpAny_pyIter_list hL ?_
  have hne : l ≠ s.heap.objs.size := Nat.ne_of_lt (Heap.lt_size (N _ hl).1)
  have W := Walks.list (prog := prog) (w := w) (A := A) hh s.heap.objs.size l hne vs.toArray
  refine ⟨s.heap.objs.size, vs.length, fun i v => vs[i]? = some v, fun i o => o.cls = .type "list_iterator" ∧ ∃ t, o.data = .fields #[.ref l, .int i t] ∧ ∀ h : Heap, h.get? s.heap.objs.size = some o → h.IsListIter s.heap.objs.size l i, fun h => h.IsList l vs.toArray, m, news, J, rfl, ⟨?_, ?_⟩, (fresh_next F).1, (fresh_next F).2, fun p hp => Nat.ne_of_lt (Heap.lt_size (N p hp).1), ?_, ?_, F.push _, fun p hp => ⟨Heap.get?_push_of_some _ (N p hp).1, (N p hp).2⟩, hJ, ?_, ?_⟩
  · rintro i s Q E hi ⟨o, ho, _, t, _, hit⟩ hs hQ
    refine W.item i s Q E (by simpa using hi) ⟨hit _ ho, hs⟩ fun v h' tk hP hst hk => ?_
    obtain ⟨o', ho', hc', hd'⟩ := hst.1
    exact hQ v h' tk o' (by simpa using hP) ho' ⟨hc', _, hd', fun h e => ⟨o', e, hc', hd'⟩⟩ fun b o hb e => hk b o (by simpa using hb) e
  · rintro s Q E ⟨o, ho, _, t, _, hit⟩ hs hQ
    exact W.done s Q E (by rw [show vs.toArray.size = vs.length from by simp]; exact ⟨hit _ ho, hs⟩) fun h' tk hk => hQ h' tk fun b o hb e => hk b o (by simpa using hb) e
  · exact ⟨_, Heap.get?_push_size _ rfl, rfl, _, rfl, fun h e => ⟨_, e, rfl, rfl⟩⟩
  · intro i m₁ news₁ h hJ₁ N₁
    exact ⟨_, (N₁ _ (hJl i m₁ news₁ hJ₁)).1, rfl, k, rfl⟩
  · intro i v oI m₁ news₁ h tk hi hv hJ₁ off F₁ N₁
    exact turn i v _ oI m₁ news₁ h tk hv (fun p hp => Heap.lt_size (N p hp).1) hJ₁ off F₁ N₁
  · exact done
end
end

section
open PySem PySem.W PyProof PyProof.Rows PySem.Calls PySem.Spec PyProof.Rows.LCg
set_option Elab.async false
set_option maxRecDepth 100000
set_option pp.deepTerms false
example : True := by k_with_none; w_top off; trivial
example : (PySem.Challenge.rw_wn0020_01 = PySem.Challenge.rw_wn0020_01) ∧ (hd.heap_39 = hd.heap_39) := by k_fill; exact ⟨rfl, rfl⟩

def factorsTo (gains : List Int) (b : Int) : Nat → List Int
  | 0 => List.replicate (gains.getD 0 0 - 1).toNat b
  | i + 1 => factorsTo gains b i ++ List.replicate (gains.getD (i + 1) 0).toNat (b - (i + 1 : Nat))
def stepRow (row : List Int) (f : Int) : List Int := List.zipWith (fun low high => low + f * high) (row ++ [0]) (0 :: row)
def prodRow (start step : Int) (gains : List Int) (b : Int) : List Int := (factorsTo gains b (b - 1).toNat).foldl stepRow [step, start + (b - 1) * step]

theorem stepRow_len (row : List Int) (f : Int) : (stepRow row f).length = row.length + 1 := by simp [stepRow]
theorem foldRow_len (fs : List Int) : ∀ row : List Int, (fs.foldl stepRow row).length = row.length + fs.length := by
  induction fs with
  | nil => intro row; rfl
  | cons f fs ih => intro row; rw [List.foldl_cons, ih, stepRow_len, List.length_cons]; omega
theorem factors_len {gains : List Int} {b : Int} (hg : ∀ j, gains.getD j 0 ≤ 3) : ∀ i, (factorsTo gains b i).length ≤ 3 * (i + 1)
  | 0 => by have := hg 0; simp only [factorsTo, List.length_replicate]; omega
  | i + 1 => by have := factors_len (b := b) hg i; have := hg (i + 1); simp only [factorsTo, List.length_append, List.length_replicate]; omega
theorem factors_small {gains : List Int} {b : Int} (hb : 1 ≤ b ∧ b ≤ 4) : ∀ i, i ≤ 4 → ∀ f ∈ factorsTo gains b i, f.natAbs ≤ 4
  | 0, _, f, hf => by rw [List.eq_of_mem_replicate hf]; omega
  | i + 1, hi, f, hf => by
    rcases List.mem_append.mp hf with h | h
    · exact factors_small hb i (by omega) f h
    · rw [List.eq_of_mem_replicate h]; omega
theorem ints_repl (n : Nat) (x : Int) (t : Tok) : IntsAre (List.replicate n [Value.int x t]).flatten (List.replicate n x) := by
  induction n with
  | zero => exact .nil
  | succ n ih => rw [List.replicate_succ, List.replicate_succ, List.flatten_cons]; exact .cons _ _ ih
theorem ints_at {vs : List Value} {ns : List Int} {j : Nat} {v : Value} (h : IntsAre vs ns) (hv : vs[j]? = some v) : ∃ t, v = .int (ns.getD j 0) t ∧ j < ns.length := by
  obtain ⟨hlt, _⟩ := List.getElem?_eq_some_iff.mp hv
  have hj : j < ns.length := by rw [← h.length]; exact hlt
  obtain ⟨t, e⟩ := h.get j ns[j] (List.getElem?_eq_getElem hj)
  rw [hv] at e
  exact ⟨t, by rw [Option.some.inj e]; simp [List.getD, hj], hj⟩
theorem stepRow_take (R : List Int) (f : Int) {j : Nat} (hj : j < (R ++ [0]).length) : (stepRow R f).take (j + 1) = (stepRow R f).take j ++ [(R ++ [0]).getD j 0 + f * (0 :: R).getD j 0] := by
  have h1 : j < R.length + 1 := by simpa using hj
  have h2 : j < (0 :: R).length := by simpa using h1
  rw [List.take_succ]
  congr 1
  have e1 : (R ++ [0])[j]? = some ((R ++ [0]).getD j 0) := by rw [List.getElem?_eq_getElem hj]; simp [List.getD, List.getElem?_eq_getElem hj]
  have e2 : (0 :: R)[j]? = some ((0 :: R).getD j 0) := by rw [List.getElem?_eq_getElem h2]; simp only [List.getD, List.getElem?_eq_getElem h2, Option.getD_some]
  unfold stepRow
  rw [List.getElem?_zipWith, e1, e2]
  rfl
theorem size_1b {b : Int} (hb : 1 ≤ b ∧ b ≤ 4) : Builtin.Range.small 1 b 1 = true ∧ Builtin.Range.rangeSize 1 b 1 = (((b - 1).toNat : Nat) : Int) := by
  have : b = 1 ∨ b = 2 ∨ b = 3 ∨ b = 4 := by omega
  rcases this with rfl | rfl | rfl | rfl <;> exact ⟨by decide, by rfl⟩

theorem add_lists' {prog : Program} {w : World} {A : Around} {E : Value → Shared → Prop} {s : Shared} {h₀ : Heap} {L l b : Addr} {m : Str → Option Value} {news : List (Addr × Obj)} {vs ws : List Value} {n1 n2 : Nat} {Q : Value → Shared → Prop} (F : Fr h₀ L s.heap m) (N : News h₀ L s.heap news) (hl : (l, listO vs n1) ∈ news) (hb : (b, listO ws n2) ∈ news) (hsz : vs.length + ws.length ≤ sizeLine)
    (h : ∀ D h', Fr h₀ L h' m → News h₀ L h' ((D, listO (vs ++ ws) 0) :: news) → (∀ p ∈ news, p.1 < D) → Q (.ref D) { s with heap := h' }) :
    wpAny (model prog w) A (binaryOp .Add (.ref l) (.ref b)) Q E s :=
  add_lists (hsz := hsz) F N (News.isList N hl) (News.isList N hb) fun h' F' N' => h _ h' F' N' fun p hp => Heap.lt_size (N p hp).1
theorem assign_zip' {prog : Program} {w : World} {A : Around} {E : Value → Shared → Prop} {s : Shared} {h₀ : Heap} {L : Addr} {m : Str → Option Value} {env : Env} {elt iter : PySem.Expr} {a b y : Str} {pa pb tp py : Pos} {kk : Nat} {scope : Scope} {cl : List (Str × Addr)} {pos spos : Pos} {Q : Flow → Shared → Prop} (_F₀ : Fr h₀ L s.heap m) (hh : A.handled = none)
    (hsw : swapsWith (.ListComp elt [⟨.Tuple [.Name a pa, .Name b pb] kk tp, iter, [], 0⟩] scope pos) (some (.Name y py)) spos.line env = pure true)
    (hclos : closureFor scope env = pure cl) (hcell : ∀ y ∈ scope.names, y.2 ≠ .cell) (hkind : scope.kind = .function)
    (hnames : ∀ y ∈ scope.names, y.2 = .local → scope.names.lookup y.1 = some .local) (hxa : scope.names.lookup a = some .local) (hxb : scope.names.lookup b = some .local) (hab : ¬ a = b)
    (h : wpAny (model prog w) A (eval iter env) (ZipSrc prog w A h₀ L m env elt a b scope cl (fun D C s' => compPost (model prog w) A E (some (assign (.Name y py) env)) (fun _ s' => Q .next s') (.ref D) C (.ok .next) s')) NoE s)
    (hs : ∀ x, foldedSetIterable iter env x = pure x := by intro _; rfl) :
    wpAny (model prog w) A (exec (.Assign [.Name y py] (.ListComp elt [⟨.Tuple [.Name a pa, .Name b pb] kk tp, iter, [], 0⟩] scope pos) spos) env) Q E s := assign_zip hh hsw hclos hcell hkind hnames hxa hxb hab h hs
theorem fin_assign' {prog : Program} {w : World} {A : Around} {E : Value → Shared → Prop} {s : Shared} {h₀ : Heap} {L : Addr} {m : Str → Option Value} {env : Env} {D C : Addr} {acc : List Value} {news : List (Addr × Obj)} {m' : Str → Option Value} {y : Str} {py : Pos} {Q : Value → Shared → Prop} (hLe : env.locals = L) (hy : env.kindOf y = some .local)
    (hp : (env.scope.kind == .class || (env.scope.kind == .module && env.locals != env.globals)) = false)
    (F : Fr h₀ L s.heap m) (N : News h₀ L s.heap ((D, lst acc) :: news)) (hn : s.heap.Ns C m') (hC₀ : h₀.get? C = none) (hCL : C ≠ L) (hDC : D ≠ C) (off : ∀ p ∈ news, p.1 ≠ C)
    (k : ∀ h' tk, Fr h₀ L h' (fun z => if z = y then some (.ref D) else m z) → News h₀ L h' ((D, lst acc) :: news) → Q .none { s with heap := h', toks := tk }) : compPost (model prog w) A E (some (assign (.Name y py) env)) Q (.ref D) C (.ok .next) s := by
  subst hLe
  show wpAny _ A (assign (.Name y py) env (.ref D)) _ _ _
  refine wpAny_assign_Name (wpAny_storeName_local hy F.ns (fun h₂ hn₂ hs₂ => ?_) hp)
  have hL₀ : h₀.get? env.locals = none := Heap.get?_none_of_le F.above
  have F₂ : Fr h₀ env.locals h₂ (fun z => if z = y then some (.ref D) else m z) := ⟨hn₂, fun b o e => hs₂.extBut b o (fun q => by rw [q, hL₀] at e; cases e) (F.keep b o e), F.above⟩
  refine ⟨m', hn.sameBut hs₂ hCL, fun h'' hs'' => k h'' _ (F₂.change hs'' hCL hC₀) fun p hp => ?_⟩
  have z : h₂.get? p.1 = some p.2 := hs₂.extBut _ _ (N p hp).2.1 (N p hp).1
  refine ⟨hs''.extBut _ _ ?_ z, (N p hp).2⟩
  rcases List.mem_cons.mp hp with rfl | hp
  · exact hDC
  · exact off p hp
theorem store_cell {M : Model} {A : Around} {E : Value → Shared → Prop} {s : Shared} {env : Env} {name : Str} {h₀ : Heap} {L c : Addr} {m : Str → Option Value} {news : List (Addr × Obj)} {g : Obj → List (Addr × Obj)} {o : Obj} {v : Value} {v₀ : Option Value} {Q : Unit → Shared → Prop}
    (F : Fr h₀ L s.heap m) (N : News h₀ L s.heap news) (hk : env.scope.kind = .function) (hl : env.kindOf name = some .cell) (hc : env.cells.lookup name = some c) (U : UpdF c o news g) (hd : o.data = .cell v₀)
    (h : ∀ h' o', Fr h₀ L h' m → News h₀ L h' (g o') → o'.data = .cell (some v) → Q () { s with heap := h' }) : wpAny M A (storeName env name v) Q E s := by
  obtain ⟨own, rest, rfl, hg, h1, h2⟩ := U.split
  have hmem := N (c, o) (List.mem_append_right _ (.head _))
  unfold storeName
  simp only [hl, hk]
  refine wpAny_bind (wpAny_cellOf hc (wpAny_cellSet ⟨o, hmem.1, hd⟩ fun h' hv hs => ?_))
  obtain ⟨o', ho', hd'⟩ := hv
  refine h h' o' ⟨F.ns.sameBut hs (Ne.symm hmem.2.1), fun b ob e => (hs.2 b (fun q => ?_)).trans (F.keep b ob e), F.above⟩ (hg o' ▸ N.setAt h1 h2 hs ho') hd'
  rw [q, hmem.2.2] at e; cases e
theorem repl_len (n : Nat) (v : Value) : (List.replicate n [v]).flatten.length = n := by simp


set_option maxHeartbeats 4000000 in
theorem product_c {prog : Program} {w : World} {A : Around} {s : Shared} {h₀ : Heap} {L : Addr} {m : Str → Option Value} {news : List (Addr × Obj)} {Q E : Value → Shared → Prop} {aG : Addr} {vG : List Value} {nG : Nat} {gains : List Int} {start step b : Int} {t1 t2 t3 : Tok}
    (hb : 1 ≤ b ∧ b ≤ 4) (iG : IntsAre vG gains) (lG : gains.length = 4) (hs : 0 ≤ start ∧ start < 4096) (hp : 1 ≤ step ∧ step ≤ 4096) (hg0 : 1 ≤ gains.getD 0 0) (hg : ∀ j, 0 ≤ gains.getD j 0 ∧ gains.getD j 0 ≤ 3)
    (S : Site w 4 A h₀ L) (F : Fr h₀ L s.heap m) (N : News h₀ L s.heap ((aG, listO vG nG) :: news))
    (hret : ∀ D vs n h' tk', IntsAre vs (prodRow start step gains b) → Fr h₀ L h' m → News h₀ L h' ((D, listO vs n) :: (aG, listO vG nG) :: news) → (∀ p ∈ (aG, listO vG nG) :: news, p.1 < D) → Q (.ref D) { s with heap := h', toks := tk' }) :
    wpAny (model prog w) A (call (.ref 122) [.int start t1, .int step t2, .ref aG, .int b t3]) Q E s := by
  k_with_none
  (k_with "exec For Name Call cons nil" => (refine stop ?_))
  (k_with "exec For Name Name cons nil" => (refine stop ?_))
  (k_with "pyIter ref" => (refine stop ?_))
  (k_with "subscriptTail Name Constant ref int" => ((refine item_led (by assumption) (by k_mem) (by assumption) (by omega) (by omega) (by omega) ?_; intro _)))
  (k_with "subscriptTail Name Name ref int" => ((refine item_led (by assumption) (by k_mem) (by assumption) (by omega) (by omega) (by omega) ?_; intro _)))
  (k_with "binaryOp Mult int int" => ((refine PyProof.Rows.mul_int ?_ (mulOk (by omega)))))
  (k_with "binaryOp Mult ref int" => ((refine KMa.mul (by assumption) (by assumption) (News.isList (by assumption) (by k_mem)) (by omega) (by omega) (by simp only [List.length_cons, List.length_nil]; omega) rfl ?_; intro _ _ _ _ l1; k_lt l1; (try (revert l1; intro _)))))
  (k_with "binaryOp Add ref ref" => ((refine add_lists' (by assumption) (by assumption) (by k_mem) (by k_mem) (by simp only [repl_len, sizeLine_eq, List.length_cons, List.length_nil]; omega) ?_; intro _ _ _ _ l1; k_lt l1; (try (revert l1; intro _)))))
  (k_with "call type:zip" => (refine stop ?_))
  (k_with "exec Assign cons ListComp" => (refine stop ?_))
  (k_with "mine sub" => (first
      | exact List.forall_mem_nil _
      | exact fun _ h => h
      | exact List.forall_mem_cons.mpr ⟨by k_mem, by walk_at "mine sub"⟩
      | exact fun _ h => .tail _ (by assumption)
      | exact fun _ h => .tail _ (.tail _ (by assumption))
      | exact fun _ h => .tail _ (.tail _ (.tail _ (by assumption)))
      | exact fun _ h => .tail _ (.tail _ (.tail _ (.tail _ (by assumption))))
      | exact fun _ h => .tail _ (.tail _ (.tail _ (.tail _ (.tail _ (by assumption)))))
      | exact fun _ h => .tail _ (.tail _ (.tail _ (.tail _ (.tail _ (.tail _ (by assumption))))))
      | exact fun _ h => .tail _ (.tail _ (.tail _ (.tail _ (.tail _ (.tail _ (.tail _ (by assumption)))))))
      | exact fun _ h => .tail _ (.tail _ (.tail _ (.tail _ (.tail _ (.tail _ (.tail _ (.tail _ (by assumption))))))))))
  refine noE ?_
  obtain ⟨p, loose, mean, mg, mb, dp, un, gd, cn, cs, a, ccd, cl, outer, A₀, base, rfl, B, X, T, hcs, h1, h2⟩ := S
  refine wpAny_call ?_
  refine' code_defC ?k1 ?k2 ?k3 ?k4 ?k5 ?kA ?kF ?kK ?k6 ?k7 ?k8 ?k9 ?kB ?kD ?_ ?c2 ?c3 ?c4; (case kA => exact rfl); (case kF => exact rfl); (case kK => exact hcs); (case k1 => k_asm); (case k2 => k_asm); (case k3 => k_asm); (case k4 => k_asm); (case k5 => k_asm); (case k6 => k_is); (case k7 => k_is); (case k8 => (show dp < recursionLimit; omega)); (case k9 => exact BindsTo.of_eq rfl); (case kB => exact rfl); (case kD => decide +kernel); (case c2 => exact rfl); (case c3 => exact rfl); (case c4 => exact rfl); k_whole; intro g' L' h' tk' cells' FG' F' N' Y' B' X' T' l1; (have lN := l1); (k_lt l1); k_cells Y'; (try simp only [List.cons_append, List.nil_append] at N')
  replace F' : Fr g' L' h' (bm [("block", .int b t3), ("gains", .ref aG), ("step", .int step t2), ("start", .int start t1)]) := F'
  dsimp only [bm] at F'
  clear F N B X T FG'
  have hg00 : 0 ≤ gains.getD (Int.toNat 0) 0 ∧ gains.getD (Int.toNat 0) 0 ≤ 3 := hg 0
  have hg01 : 1 ≤ gains.getD (Int.toNat 0) 0 := hg0
  k_steps
  rename_i oc dc aR _ lR _ _ aT _ lT _ aF _ lF hh F₂ N₂
  replace dc : oc.data = .cell none := dc
  refine Stop.go (for_led (h₀ := g') (L := L') ?_)
  k_steps
  rename IsRange _ _ _ _ _ _ _ _ => hr
  rename Fr g' L' _ _ => F₀
  rename News g' L' _ _ => N₀
  have N₁ : News g' L' _ ((aF, listO (List.replicate (gains.getD (Int.toNat 0) 0 - 1).toNat [Value.int b t3]).flatten 0) :: (aR, listO [Value.int step t2, Value.int (start + (b - 1) * step) (tk' + 1 + 1 + 1)] 0) :: (L' + 1, oc) :: (aG, listO vG nG) :: news) := newsSub N₀ (by walk_at "mine sub")
  refine Stop.go (led_range (n := (b - 1).toNat) rfl (fun i m₁ news₁ => ∃ aF vF nF o, news₁ = (aF, listO vF nF) :: (aR, listO [Value.int step t2, Value.int (start + (b - 1) * step) (tk' + 1 + 1 + 1)] 0) :: (L' + 1, oc) :: (aG, listO vG nG) :: news ∧ @LT.lt Nat _ aR aF ∧ IntsAre vF (factorsTo gains b i) ∧
    m₁ = bo [("factors", some (.ref aF)), ("row", some (.ref aR)), ("block", some (.int b t3)), ("gains", some (.ref aG)), ("step", some (.int step t2)), ("start", some (.int start t1)), ("k", o)]) hr (size_1b hb).1 (size_1b hb).2 F₀ N₁ ?_ ?_ ?_)
  · refine ⟨aF, _, 0, none, rfl, by omega, ints_repl _ _ _, funext (bo_eq _ ⟨rfl, rfl, rfl, rfl, rfl, rfl, rfl, trivial⟩ (fun y hy => by simp only [Off] at hy; simp [hy]))⟩
  · rintro i ti I oI m₁ news₁ h tk hi hl0 ⟨aF, vF, nF, o, rfl, lRF, iF, rfl⟩ off F₁ N₁
    clear hr F₀ N₀
    dsimp only [bo] at F₁
    k_lt hl0
    rw [show (1 + (i : Int) * 1) = ((i + 1 : Nat) : Int) from by omega]
    have hgi : 0 ≤ gains.getD ((i + 1 : Nat) : Int).toNat 0 ∧ gains.getD ((i + 1 : Nat) : Int).toNat 0 ≤ 3 := hg _
    have hvl : vF.length ≤ 48 := by
      have := factors_len (b := b) (fun j => (hg j).2) i
      rw [iF.length]; omega
    k_steps
    rename_i aN _ lN _ F₃ N₃
    dsimp only
    refine Stop.go (LedEnd.intro F₃ (newsSub N₃ (by walk_at "mine sub")) ?_ ⟨aN, _, 0, some (.int ((i + 1 : Nat) : Int) ti), rfl, by omega, iF.append (ints_repl _ _ _), funext (bo_eq _ ⟨rfl, rfl, rfl, rfl, rfl, rfl, rfl, trivial⟩ (fun y hy => by simp only [Off] at hy; simp [hy]))⟩)
    intro p hp
    rcases List.mem_cons.mp hp with rfl | hp
    · show @Ne Nat _ _; dsimp only; omega
    · exact off p (.tail _ hp)
  · clear N₁ F₀ N₀
    rintro m₁ news₁ h tk ⟨aF, vF, nF, o, rfl, lRF, iF, rfl⟩ F₁ N₁
    clear hr
    dsimp only [bo] at F₁
    dsimp only
    generalize hfs : factorsTo gains b (b - 1).toNat = fs at iF
    have hfl : fs.length ≤ 12 := by
      have := factors_len (b := b) (fun j => (hg j).2) (b - 1).toNat
      rw [← hfs]; omega
    have hfb : ∀ f ∈ fs, f.natAbs ≤ 4 := by
      rw [← hfs]; exact factors_small hb _ (by omega)
    k_steps
    refine Stop.go (for_led (h₀ := g') (L := L') ?_)
    k_steps
    refine Stop.go (led_list (l := aF) (vs := vF) (k := nF) rfl (fun i m₁ news₁ => ∃ aR vR nR oc o, news₁ = (aF, listO vF nF) :: (aR, listO vR nR) :: (L' + 1, oc) :: (aG, listO vG nG) :: news ∧ (∃ u, oc.data = .cell u) ∧ @LT.lt Nat _ (L' + 1) aR ∧ @Ne Nat aF aR ∧
      IntsAre vR ((fs.take i).foldl stepRow [step, start + (b - 1) * step]) ∧ m₁ = bo [("factors", some (.ref aF)), ("row", some (.ref aR)), ("block", some (.int b t3)), ("gains", some (.ref aG)), ("step", some (.int step t2)), ("start", some (.int start t1)), ("k", o)]) F₁ N₁ (by k_mem) ?_ ?_ ?_ ?_)
    · exact ⟨aR, _, 0, oc, o, rfl, ⟨_, dc⟩, by omega, by omega, .cons _ _ (.cons _ _ .nil), rfl⟩
    · rintro i m₁ news₁ ⟨aR, vR, nR, oc, o, rfl, _⟩
      exact .head _
    · clear F₁ N₁ dc
      rintro i v I oI m₁ news₁ h tk hv hl0 ⟨aR, vR, nR, oc, o, rfl, ⟨u, dc⟩, lC, lA, iR, rfl⟩ off F₁ N₁
      dsimp only [bo] at F₁
      have hi : i < fs.length := by
        obtain ⟨hlt, _⟩ := List.getElem?_eq_some_iff.mp hv
        rw [← iF.length]; exact hlt
      obtain ⟨tv, hv'⟩ := iF.get i fs[i] (by simp [hi])
      rw [hv] at hv'
      cases hv'
      have hf4 := hfb fs[i] (List.getElem_mem hi)
      generalize hf : fs[i] = f at *
      k_lt hl0
      refine store_cell (c := L' + 1) F₁ N₁ (by rfl) (by rfl) (by rfl) (.tail ?_ (.tail ?_ (.tail ?_ (.head ?_)))) dc ?_
      · show @Ne Nat _ _; dsimp only; omega
      · show @Ne Nat _ _; dsimp only; omega
      · show @Ne Nat _ _; dsimp only; omega
      · exact fun p hp e => absurd (lN p hp) (by rw [e]; exact Nat.not_lt.mpr (Nat.le_succ _))
      intro h' oc' F' N' dc'
      clear F₁ N₁ dc
      have hrl : vR.length = i + 2 := by
        rw [iR.length, foldRow_len, List.length_take]; simp only [List.length_cons, List.length_nil]; omega
      k_steps
      refine Stop.go (assign_zip' F' rfl (by with_unfolding_all rfl) (by with_unfolding_all rfl) (by decide) (by rfl) (by decide) (by rfl) (by rfl) (by decide) ?_)
      k_steps
      rename_i D2 _ F₃ N₃ l3
      have hRl : ((fs.take i).foldl stepRow [step, start + (b - 1) * step]).length = i + 2 := by rw [← iR.length]; exact hrl
      have hR1 : stepRow ((fs.take i).foldl stepRow [step, start + (b - 1) * step]) f = (fs.take (i + 1)).foldl stepRow [step, start + (b - 1) * step] := by
        rw [List.take_succ, List.foldl_append, List.getElem?_eq_getElem hi, hf]; rfl
      generalize (fs.take i).foldl stepRow [step, start + (b - 1) * step] = R at *
      refine Stop.go (zip_src (n := i + 3) (fun j acc => IntsAre acc ((stepRow R f).take j)) F₃ N₃ (by k_mem) (by k_mem) (by simp; omega) (by simp; omega) (by rw [sizeLine_eq]; omega) (by simpa using IntsAre.nil) ?_ ?_)
      · intro j x y acc C oC m₂ h tk hx hy hA hoC ha hb F₄ N₄
        obtain ⟨tx, rfl, hjx⟩ := ints_at (iR.append (.cons 0 _ .nil)) hx
        obtain ⟨ty, rfl, hjy⟩ := ints_at (IntsAre.cons 0 _ iR) hy
        have hst := stepRow_take R f hjx
        generalize (R ++ [0]).getD j 0 = xv at *
        generalize (0 :: R).getD j 0 = yv at *
        k_steps
        rw [hst]
        exact hA.append (.cons _ _ .nil)
      · intro D C acc h tk m' hA F₄ N₄ offD hn hC₀ hCL hDC offC
        dsimp only
        refine' fin_assign' ?k0 ?k1 ?k2 F₄ N₄ hn hC₀ hCL hDC offC fun h' tk' F₅ N₅ => ?k3
        (case k0 => rfl)
        (case k1 => rfl)
        (case k2 => rfl)
        k_lt offD
        k_steps
        rw [List.take_of_length_le (by rw [stepRow_len, hRl]; omega), hR1] at hA
        refine Stop.go (LedEnd.intro F₅ (newsSub N₅ (by walk_at "mine sub")) ?_ ⟨D, acc, _, oc', o, rfl, ⟨_, dc'⟩, by omega, by omega, hA, funext (bo_eq _ ⟨rfl, rfl, rfl, rfl, rfl, rfl, rfl, trivial⟩ (fun y hy => by simp only [Off] at hy; simp [hy]))⟩)
        intro p hp
        rcases List.mem_cons.mp hp with rfl | hp
        · show @Ne Nat _ _; dsimp only; omega
        rcases List.mem_cons.mp hp with rfl | hp
        · show @Ne Nat _ _; dsimp only; omega
        rcases List.mem_cons.mp hp with rfl | hp
        · show @Ne Nat _ _; dsimp only; omega
        · exact off p (.tail _ (.tail _ (.tail _ hp)))
    · rintro m₁ news₁ h tk ⟨aR, vR, nR, oc, o, rfl, ⟨u, dc⟩, lC, lA, iR, rfl⟩ F₁ N₁
      dsimp only [bo] at F₁
      dsimp only
      k_steps
      dsimp only
      rw [List.take_of_length_le (by rw [iF.length]; exact Nat.le_refl _), ← hfs] at iR
      exact leaveK_ F₁ N₁ fun kF kN => hret aR vR nR _ _ iR kF (newsSub kN (by walk_at "mine sub")) fun p hp => Nat.lt_trans (lN p hp) (Nat.lt_of_succ_lt lC)
end

section
open PySem PySem.W PyProof PyProof.Rows PySem.Calls PySem.Spec
set_option Elab.async false
set_option maxRecDepth 100000

theorem scan_letters (p : Nat → Bool) (hp : ∀ c, 65 ≤ c → c < 81 → p c = false) : ∀ (l acc tail : List Nat), (∀ c ∈ l, 65 ≤ c ∧ c < 81) → scan p acc (l ++ tail) = scan p (acc ++ l) tail
  | [], acc, tail, _ => by rw [List.nil_append, List.append_nil]
  | c :: r, acc, tail, h => by
    have hc := h c (.head _)
    rw [List.cons_append, scan, if_neg (by rw [hp c hc.1 hc.2]; decide), if_neg (by omega), scan_letters p hp r _ tail fun x hx => h x (.tail _ hx)]
    rw [List.append_assoc]; rfl
theorem scan_back (p : Nat → Bool) (hp : p 92 = false) : ∀ (l acc tail : List Nat), scan p acc (l.flatMap (fun c => [92, c]) ++ tail) = scan p (acc ++ l) tail
  | [], acc, tail => by rw [List.flatMap_nil, List.nil_append, List.append_nil]
  | c :: r, acc, tail => by
    rw [show (c :: r).flatMap (fun c => [92, c]) ++ tail = 92 :: c :: (r.flatMap (fun c => [92, c]) ++ tail) from rfl, scan, if_neg (by rw [hp]; decide), if_pos rfl]
    rw [show (c :: (r.flatMap (fun c => [92, c]) ++ tail)).take 1 = [c] from rfl, show (c :: (r.flatMap (fun c => [92, c]) ++ tail)).drop 1 = r.flatMap (fun c => [92, c]) ++ tail from rfl, scan_back p hp r _ tail, List.append_assoc]; rfl

theorem isW_letter (c : Nat) (h1 : 65 ≤ c) (h2 : c < 81) : isW c = false := by
  unfold isW
  simp only [Bool.or_eq_false_iff, beq_eq_false_iff_ne, ne_eq]
  omega
theorem isQ_letter (c : Nat) (h1 : 65 ≤ c) (h2 : c < 81) : isQ c = false := by
  unfold isQ
  simp only [beq_eq_false_iff_ne, ne_eq]
  omega
theorem scan_tail (acc tail : List Nat) (ht : tail = [] ∨ ∃ s r, tail = s :: r ∧ isW s = true) : scan isW acc tail = (acc, tail.drop 1) := by
  rcases ht with rfl | ⟨s, r, rfl, hs⟩
  · rw [scan]; rfl
  · rw [scan, if_pos hs]; rfl

theorem lex_piece (l : List Nat) (hl : ∀ c ∈ l, 65 ≤ c ∧ c < 81) (j : Nat) (tail : List Nat) (ht : tail = [] ∨ ∃ s r, tail = s :: r ∧ isW s = true) :
    ∃ tl, lexOf (dressed l j ++ tail) = (l, tl) ∧ (tl = tail ∨ tl = tail.drop 1) := by
  unfold dressed
  split
  · refine ⟨tail, ?_, .inl rfl⟩
    rw [List.append_assoc, List.append_assoc, List.cons_append, List.nil_append, lexOf, if_neg (by decide), if_pos rfl, scan_letters isQ isQ_letter l [] _ hl, List.nil_append, List.cons_append, List.nil_append, scan, if_pos (by decide)]
  · rename_i h
    cases l with
    | nil => exact absurd (.inl rfl) h
    | cons c r =>
      have hc := hl c (.head _)
      refine ⟨tail.drop 1, ?_, .inr rfl⟩
      split
      · rw [show (c :: r).flatMap (fun c => [92, c]) ++ tail = 92 :: c :: (r.flatMap (fun c => [92, c]) ++ tail) from rfl, lexOf, if_neg (by decide), if_neg (by decide), if_pos rfl]
        rw [show (c :: (r.flatMap (fun c => [92, c]) ++ tail)).take 1 = [c] from rfl, show (c :: (r.flatMap (fun c => [92, c]) ++ tail)).drop 1 = r.flatMap (fun c => [92, c]) ++ tail from rfl, scan_back isW (by decide) r _ tail, scan_tail _ _ ht]; rfl
      · rw [List.cons_append, lexOf, if_neg (by rw [isW_letter c hc.1 hc.2]; decide), if_neg (by omega), if_neg (by omega), scan_letters isW isW_letter r _ tail (fun x hx => hl x (.tail _ hx)), scan_tail _ _ ht]; rfl

def restAt (told drawn : List Int) (i : Nat) : List Nat := (List.range' i (6 - i)).flatMap fun k => piece (told.getD k 0) (drawn.getD k 0) ++ if k < 5 then [sepOf (drawn.getD k 0)] else []
def Stage (told drawn : List Int) (i : Nat) (l : List Nat) : Prop := l = restAt told drawn i ∨ ∃ s, isW s = true ∧ l = s :: restAt told drawn i
theorem rest_zero (told drawn : List Int) : textTo told drawn 6 = restAt told drawn 0 := by unfold textTo restAt; rw [List.range_eq_range']
theorem rest_six (told drawn : List Int) : restAt told drawn 6 = [] := rfl
theorem rest_step (told drawn : List Int) {i : Nat} (hi : i < 6) : restAt told drawn i = piece (told.getD i 0) (drawn.getD i 0) ++ ((if i < 5 then [sepOf (drawn.getD i 0)] else []) ++ restAt told drawn (i + 1)) := by
  unfold restAt
  rw [show 6 - i = (6 - (i + 1)) + 1 from by omega, List.range'_succ, List.flatMap_cons, List.append_assoc]
theorem sep_ws (d : Int) : isW (sepOf d) = true := by
  unfold sepOf
  have all : ∀ j : Fin 12, isW ([32, 9, 10, 13].getD (j.val / 3) 0) = true := by decide +kernel
  exact all ⟨choiceOf d, choice_lt d⟩
theorem lexOf_ws {s : Nat} (h : isW s = true) (l : List Nat) : lexOf (s :: l) = lexOf l := by rw [lexOf, if_pos h]

theorem stage_step (told drawn : List Int) {i : Nat} (hi : i < 6) {l : List Nat} (h : Stage told drawn i l) : ∃ l', lexOf l = (letters (told.getD i 0).toNat, l') ∧ Stage told drawn (i + 1) l' := by
  have e : lexOf l = lexOf (restAt told drawn i) := by
    rcases h with rfl | ⟨s, hs, rfl⟩
    · rfl
    · exact lexOf_ws hs _
  rw [e, rest_step told drawn hi]
  unfold piece
  by_cases h5 : i < 5
  · rw [if_pos h5]
    obtain ⟨tl, e1, e2⟩ := lex_piece (letters (told.getD i 0).toNat) (letters_in _) (choiceOf (drawn.getD i 0) % 3) ([sepOf (drawn.getD i 0)] ++ restAt told drawn (i + 1)) (.inr ⟨_, _, rfl, sep_ws _⟩)
    refine ⟨tl, e1, ?_⟩
    rcases e2 with rfl | rfl
    · exact .inr ⟨_, sep_ws _, rfl⟩
    · exact .inl rfl
  · rw [if_neg h5]
    have : i = 5 := by omega
    subst this
    obtain ⟨tl, e1, e2⟩ := lex_piece (letters (told.getD 5 0).toNat) (letters_in _) (choiceOf (drawn.getD 5 0) % 3) ([] ++ restAt told drawn (5 + 1)) (.inl rfl)
    refine ⟨tl, e1, ?_⟩
    rcases e2 with rfl | rfl <;> exact .inl rfl
theorem stage_end (told drawn : List Int) {l : List Nat} (h : Stage told drawn 6 l) : lexOf l = ([], []) := by
  rcases h with rfl | ⟨s, hs, rfl⟩
  · rw [rest_six, lexOf]
  · rw [lexOf_ws hs, rest_six, lexOf]
end

section
open PySem PySem.W PyProof PyProof.Rows PySem.Calls PySem.Spec
set_option Elab.async false
set_option maxRecDepth 100000

section
variable {α : Type} [DecidableEq α]
/-- one block of one turn: the last number is struck out and must be the due one, of each other one the running sum is pushed -/
def runIn (add : α → α → α) (ok : α → Bool) (due : Option α) : Nat → List α → α → Option (List α × α)
  | 0, q, tot => some (q, tot)
  | _ + 1, [], _ => none
  | n + 1, v :: r, tot => if ok v then (if n = 0 then (if due = some v then some (r, tot) else none) else if ok (add tot v) then runIn add ok due n (r ++ [add tot v]) (add tot v) else none) else none
def runBlocks (add : α → α → α) (ok : α → Bool) (due : Nat → Option α) (S : Nat → Nat) (t : Nat) : List Nat → List α → α → Option (List α)
  | [], q, _ => some q
  | k :: ks, q, tot => (runIn add ok (due k) (S k + 1 - t) q tot).bind fun x => runBlocks add ok due S t ks x.1 x.2
def runTurns (add : α → α → α) (zero : α) (ok : α → Bool) (due : Nat → Nat → Option α) (S : Nat → Nat) : List Nat → List α → Option (List α)
  | [], q => some q
  | t :: ts, q => (runBlocks add ok (fun k => due k t) S t [0, 1, 2, 3] q zero).bind fun q' => runTurns add zero ok due S ts q'
end

section
variable {α : Type} [DecidableEq α] {add : α → α → α} {ok : α → Bool}
theorem runIn_zero {due : Option α} {q : List α} {tot : α} : runIn add ok due 0 q tot = some (q, tot) := rfl
theorem runIn_nil {due : Option α} {n : Nat} {tot : α} : runIn add ok due (n + 1) [] tot = none := rfl
theorem runIn_cons {due : Option α} {n : Nat} {v : α} {r : List α} {tot : α} : runIn add ok due (n + 1) (v :: r) tot = if ok v then (if n = 0 then (if due = some v then some (r, tot) else none) else if ok (add tot v) then runIn add ok due n (r ++ [add tot v]) (add tot v) else none) else none := rfl
theorem runBlocks_nil {due : Nat → Option α} {S : Nat → Nat} {t : Nat} {q : List α} {tot : α} : runBlocks add ok due S t [] q tot = some q := rfl
theorem runBlocks_cons {due : Nat → Option α} {S : Nat → Nat} {t k : Nat} {ks : List Nat} {q : List α} {tot : α} : runBlocks add ok due S t (k :: ks) q tot = (runIn add ok (due k) (S k + 1 - t) q tot).bind fun x => runBlocks add ok due S t ks x.1 x.2 := rfl
theorem runTurns_nil {zero : α} {due : Nat → Nat → Option α} {S : Nat → Nat} {q : List α} : runTurns add zero ok due S [] q = some q := rfl
theorem runTurns_cons {zero : α} {due : Nat → Nat → Option α} {S : Nat → Nat} {t : Nat} {ts : List Nat} {q : List α} : runTurns add zero ok due S (t :: ts) q = (runBlocks add ok (fun k => due k t) S t [0, 1, 2, 3] q zero).bind fun q' => runTurns add zero ok due S ts q' := rfl
end

section
variable {α β : Type} [DecidableEq α] [DecidableEq β] (f : α → β) {addA : α → α → α} {addB : β → β → β} {okA : α → Bool} {okB : β → Bool}
theorem runIn_hom (hadd : ∀ a b, f (addA a b) = addB (f a) (f b)) (hok : ∀ a, okA a = true → okB (f a) = true) {dA : Option α} (n : Nat) : ∀ (q : List α) (tot : α) {x : List α × α}, runIn addA okA dA n q tot = some x → runIn addB okB (dA.map f) n (q.map f) (f tot) = some (x.1.map f, f x.2) := by
  induction n with
  | zero =>
    intro q tot x h
    rw [runIn_zero] at h ⊢
    cases h; rfl
  | succ n ih =>
    intro q tot x h
    cases q with
    | nil => rw [runIn_nil] at h; cases h
    | cons v r =>
      rw [runIn_cons] at h
      rw [List.map_cons, runIn_cons]
      split at h
      · rename_i hv
        rw [if_pos (hok v hv)]
        split at h
        · rename_i hn
          rw [if_pos hn]
          split at h
          · rename_i hd
            cases h
            rw [hd]; exact if_pos rfl
          · cases h
        · rename_i hn
          rw [if_neg hn]
          split at h
          · rename_i ht
            have e : addB (f tot) (f v) = f (addA tot v) := (hadd tot v).symm
            rw [e, if_pos (hok _ ht)]
            have := ih _ _ h
            rw [List.map_append] at this
            exact this
          · cases h
      · cases h
theorem runBlocks_hom (hadd : ∀ a b, f (addA a b) = addB (f a) (f b)) (hok : ∀ a, okA a = true → okB (f a) = true) {dA : Nat → Option α} {S : Nat → Nat} {t : Nat} (ks : List Nat) : ∀ (q : List α) (tot : α) {x : List α}, runBlocks addA okA dA S t ks q tot = some x → runBlocks addB okB (fun k => (dA k).map f) S t ks (q.map f) (f tot) = some (x.map f) := by
  induction ks with
  | nil =>
    intro q tot x h
    rw [runBlocks_nil] at h ⊢
    cases h; rfl
  | cons k ks ih =>
    intro q tot x h
    rw [runBlocks_cons, Option.bind_eq_some_iff] at h
    obtain ⟨y, h1, h2⟩ := h
    rw [runBlocks_cons, runIn_hom f hadd hok _ _ _ h1]
    exact ih _ _ h2
theorem runTurns_hom (hadd : ∀ a b, f (addA a b) = addB (f a) (f b)) (hok : ∀ a, okA a = true → okB (f a) = true) {zA : α} {zB : β} (hz : f zA = zB) {dA : Nat → Nat → Option α} {S : Nat → Nat} (ts : List Nat) : ∀ (q : List α) {x : List α}, runTurns addA zA okA dA S ts q = some x → runTurns addB zB okB (fun k t => (dA k t).map f) S ts (q.map f) = some (x.map f) := by
  induction ts with
  | nil =>
    intro q x h
    rw [runTurns_nil] at h ⊢
    cases h; rfl
  | cons t ts ih =>
    intro q x h
    rw [runTurns_cons, Option.bind_eq_some_iff] at h
    obtain ⟨y, h1, h2⟩ := h
    have := runBlocks_hom f hadd hok _ _ _ h1
    rw [hz] at this
    rw [runTurns_cons, this]
    exact ih _ h2
end

/-- linear forms in start and step -/
abbrev Lin := Int × Int
def addP (a b : Lin) : Lin := (a.1 + b.1, a.2 + b.2)
def okP (a : Lin) : Bool := decide (0 ≤ a.1) && decide (0 ≤ a.2) && decide (a.1 + a.2 < 2 ^ 50)
def okI (v : Int) : Bool := decide (0 ≤ v) && decide (v < 2 ^ 64)
def ev (start step : Int) (a : Lin) : Int := a.1 * start + a.2 * step
def stepRowP (row : List Lin) (f : Int) : List Lin := List.zipWith (fun low high => (low.1 + f * high.1, low.2 + f * high.2)) (row ++ [(0, 0)]) ((0, 0) :: row)
def prodP (gains : List Int) (b : Int) : List Lin := (factorsTo gains b (b - 1).toNat).foldl stepRowP [(0, 1), (1, b - 1)]
def sizeS (gains : List Int) (k : Nat) : Nat := ((gains.take (k + 1)).sum).toNat
def allS (gains : List Int) : Nat := sizeS gains 0 + sizeS gains 1 + sizeS gains 2 + sizeS gains 3
def checkP (gains : List Int) : Bool := decide (runTurns addP (0, 0) okP (fun (k t : Nat) => (prodP gains ((k : Int) + 1))[t]?) (sizeS gains) (List.range' 1 (sizeS gains 3)) ((List.range (allS gains)).map fun k : Nat => (1, (k : Int))) = some [])

def gainLists : List (List Int) := [1, 2, 3].flatMap fun a => [0, 1, 2].flatMap fun b => [0, 1].flatMap fun c => [0, 1].map fun d => [a, b, c, d]
theorem all_check : (gainLists.all checkP) = true := by decide +kernel

theorem ev_add (start step : Int) (a b : Lin) : ev start step (addP a b) = ev start step a + ev start step b := by
  unfold ev addP; rw [Int.add_mul, Int.add_mul]; omega
theorem ev_ok {start step : Int} (hs : 0 ≤ start ∧ start < 4096) (hp : 1 ≤ step ∧ step ≤ 4096) (a : Lin) (h : okP a = true) : okI (ev start step a) = true := by
  unfold okP at h
  simp only [Bool.and_eq_true, decide_eq_true_eq] at h
  obtain ⟨⟨h1, h2⟩, h3⟩ := h
  have e1 : 0 ≤ a.1 * start := Int.mul_nonneg h1 hs.1
  have e2 : 0 ≤ a.2 * step := Int.mul_nonneg h2 (by omega)
  have e3 : a.1 * start ≤ a.1 * 4096 := Int.mul_le_mul_of_nonneg_left (by omega) h1
  have e4 : a.2 * step ≤ a.2 * 4096 := Int.mul_le_mul_of_nonneg_left (by omega) h2
  unfold okI ev
  simp only [Bool.and_eq_true, decide_eq_true_eq]
  omega
theorem step_hom (start step : Int) (row : List Lin) (f : Int) : stepRow (row.map (ev start step)) f = (stepRowP row f).map (ev start step) := by
  unfold stepRow stepRowP
  have e1 : row.map (ev start step) ++ [0] = (row ++ [(0, 0)]).map (ev start step) := by rw [List.map_append]; simp [ev]
  have e2 : 0 :: row.map (ev start step) = ((0, 0) :: row).map (ev start step) := by rw [List.map_cons]; simp [ev]
  rw [e1, e2, List.zipWith_map, List.map_zipWith]
  congr 1
  funext low high
  unfold ev
  dsimp only
  rw [Int.mul_add, Int.add_mul, Int.add_mul, Int.mul_assoc, Int.mul_assoc]; omega
theorem fold_hom (start step : Int) (fs : List Int) : ∀ row : List Lin, fs.foldl stepRow (row.map (ev start step)) = (fs.foldl stepRowP row).map (ev start step) := by
  induction fs with
  | nil => intro row; rfl
  | cons f fs ih => intro row; rw [List.foldl_cons, step_hom, ih]; rfl
theorem prod_hom (start step : Int) (gains : List Int) (b : Int) : prodRow start step gains b = (prodP gains b).map (ev start step) := by
  unfold prodRow prodP
  rw [← fold_hom]
  congr 1
  simp [ev]

/-- the law of the turns, on numbers -/
theorem turns_law {start step : Int} {gains : List Int} (hs : 0 ≤ start ∧ start < 4096) (hp : 1 ≤ step ∧ step ≤ 4096) (hg : gains ∈ gainLists) :
    runTurns (· + ·) (0 : Int) okI (fun (k t : Nat) => (prodRow start step gains ((k : Int) + 1))[t]?) (sizeS gains) (List.range' 1 (sizeS gains 3)) ((List.range (allS gains)).map fun k : Nat => start + (k : Int) * step) = some [] := by
  have h := List.all_eq_true.mp all_check gains hg
  unfold checkP at h
  have h' := of_decide_eq_true h
  have r := runTurns_hom (ev start step) (addB := (· + ·)) (okB := okI) (ev_add start step) (ev_ok hs hp) (zB := 0) (by simp [ev]) _ _ h'
  rw [List.map_map] at r
  have e1 : ((ev start step) ∘ fun k : Nat => ((1, (k : Int)) : Lin)) = fun k : Nat => start + (k : Int) * step := by funext k; simp [ev]
  have e2 : (fun (k t : Nat) => ((prodP gains ((k : Int) + 1))[t]?).map (ev start step)) = fun (k t : Nat) => (prodRow start step gains ((k : Int) + 1))[t]? := by
    funext k t; rw [prod_hom, List.getElem?_map]
  rw [e1, e2] at r
  exact r
end

section
open PySem PySem.W PyProof PyProof.Rows PySem.Calls PySem.Spec
set_option Elab.async false
set_option maxRecDepth 100000
set_option pp.deepTerms false
example : True := by k_with_none; w_top off; trivial
example : (PySem.Challenge.rw_wn0020_01 = PySem.Challenge.rw_wn0020_01) ∧ (hd.heap_39 = hd.heap_39) := by k_fill; exact ⟨rfl, rfl⟩

/-- law's scope and its three loops, out of the given text -/
def lawS : Scope × Stmt × Stmt × Stmt := match PySem.Challenge.pw_wn0020_01.main.body.drop 15 with
  | .FunctionDef _ _ (_ :: _ :: _ :: _ :: _ :: _ :: _ :: f1 :: _ :: f2 :: _ :: f3 :: _) _ _ _ sc _ _ _ :: _ => (sc, f1, f2, f3)
  | _ => (default, .Pass default, .Pass default, .Pass default)

/-- law's statements -/
def lawBody : List Stmt := match PySem.Challenge.pw_wn0020_01.main.body.drop 15 with
  | .FunctionDef _ _ b _ _ _ _ _ _ _ :: _ => b
  | _ => []

theorem lexLed_addr {P : Params} {c : LexC} {ln : Int} {t1 tp : Tok} {k np npb : Nat} {pbl : List Value} {D : Addr} (h : ∀ p ∈ lexLed P c ln t1 k tp np pbl npb, p.1 < D) : ∀ a ∈ lexAddr c, @LT.lt Nat _ a D := fun a ha => by
  have : a ∈ (lexLed P c ln t1 k tp np pbl npb).map (·.1) := ha
  obtain ⟨p, hp, rfl⟩ := List.mem_map.mp this
  exact h p hp
/-- a ledger behind a call of the lexer's -/
theorem lexJoin {h₀ h h' : Heap} {L : Addr} {c : LexC} {all part rest : List (Addr × Obj)} (N : News h₀ L h all) (N' : News h₀ L h' part) (K : Kept (lexAddr c) h h') (sub : ∀ p ∈ rest, p ∈ all ∧ p.1 ∉ lexAddr c) : News h₀ L h' (part ++ rest) := fun p hp => by
  rcases List.mem_append.mp hp with q | q
  · exact N' p q
  · exact ⟨K _ _ (sub p q).2 (N p (sub p q).1).1, (N p (sub p q).1).2⟩


set_option maxHeartbeats 4000000 in
theorem told_c {prog : Program} {w : World} {s : Shared} {c : LexC} {z : PySem.Str} {p : Program} {loose : List Str} {mean : ExcName → Option Value} {mg mb : Str → Option Value} {dp un : Nat} {gd : Option (List Code)} {outer : List Env} {A₀ : Around} {base g : Heap} {L fa aT : Addr} {cdv : Value} {cl : List (Str × Addr)} {T : Int} {Q : Flow → Shared → Prop} {E : Value → Shared → Prop}
    {vScript vDrawn vText : Value} {o₀ : Option Value} {told drawn : List Int} {vT : List Value} {nT : Nat} {ln : Int} {t1 tp : Tok} {k np npb : Nat} {rest : List (Addr × Obj)}
    (C : LexOk c z) (hz : z.cps.toList.drop k = textTo told drawn 6) (iT : IntsAre vT told) (lT : told.length = 6) (hb : ∀ x ∈ told, 0 ≤ x ∧ x < 2 ^ 64) (hk : k ≤ z.length)
    (B' : Below A₀ base outer g) (X' : (hd.heap_39 w.params).In g) (T' : Top p loose mean mg mb g) (hdp : dp + 6 < recursionLimit) (hun : un + 8 * 6 < cLine)
    (F : Fr g L s.heap (bo [("script", some vScript), ("drawn", some vDrawn), ("told", some (.ref aT)), ("text", some vText), ("lexer", some (.ref c.x)), ("number", o₀)]))
    (N : News g L s.heap (lexLed w.params c ln t1 k tp np [] npb ++ rest)) (hm : (aT, listO vT nT) ∈ rest) (hoff : ∀ p ∈ rest, p.1 ∉ lexAddr c)
    (hT : ln + ((z.cps.toList.drop k).count 10 : Nat) = T)
    (hret : ∀ ln' t1' k' tp' np' npb' o h' tk', Stage told drawn 6 (z.cps.toList.drop k') → ln' + ((z.cps.toList.drop k').count 10 : Nat) = T → k' ≤ z.length + 18 →
      Fr g L h' (bo [("script", some vScript), ("drawn", some vDrawn), ("told", some (.ref aT)), ("text", some vText), ("lexer", some (.ref c.x)), ("number", o)]) → News g L h' (lexLed w.params c ln' t1' k' tp' np' [] npb' ++ rest) → Q .next { s with heap := h', toks := tk' }) :
    wpAny (model prog w) (ktrTop dp un gd (Str.ofString "law") lawS.1 L fa cdv cl outer) (exec lawS.2.1 (envX (Str.ofString "law") lawS.1 L fa cdv cl)) Q E s := by
  k_with_none
  (k_with "call ref" => ((refine stop ?_)))
  (k_with "pyIter ref" => ((refine stop ?_)))
  (k_with "getMethod ref" => (((with_reducible show wpAny _ _ (getMethod _ (Str.ofString "get_token") _) _ _ _); walk_at "last getMethod ref")))
  have e1 : lawS = lawS := rfl
  conv at e1 => rhs; whnf
  rw [e1]
  dsimp only
  clear e1
  refine for_led (h₀ := g) (L := L) ?_
  dsimp only [bo] at F
  k_steps
  refine Stop.go (led_list (l := aT) (vs := vT) (k := nT) rfl (fun i m₁ news₁ => ∃ ln t1 k tp np npb o, news₁ = lexLed w.params c ln t1 k tp np [] npb ++ rest ∧ m₁ = bo [("script", some vScript), ("drawn", some vDrawn), ("told", some (.ref aT)), ("text", some vText), ("lexer", some (.ref c.x)), ("number", o)] ∧
    Stage told drawn i (z.cps.toList.drop k) ∧ ln + ((z.cps.toList.drop k).count 10 : Nat) = T ∧ k ≤ z.length + 3 * i) F N (List.mem_append_right _ hm) ⟨ln, t1, k, tp, np, npb, o₀, rfl, rfl, .inl (by rw [hz, rest_zero]), hT, by omega⟩ ?_ ?_ ?_)
  · rintro i m₁ news₁ ⟨ln, t1, k, tp, np, npb, o, rfl, _⟩
    exact List.mem_append_right _ hm
  · clear F N hT hk hz
    rintro i v I oI m₁ news₁ h tk hv hl0 ⟨ln, t1, k, tp, np, npb, o, rfl, rfl, hS, hT, hk⟩ off F₁ N₁
    obtain ⟨tv, rfl, hi⟩ := ints_at iT hv
    have hI : I ∉ lexAddr c := fun hm => absurd (lexLed_addr (fun p hp => hl0 p (List.mem_append_left _ hp)) I hm) (Nat.lt_irrefl _)
    obtain ⟨l', hlx, hS'⟩ := stage_step told drawn (by omega) hS
    have hbi := getD_bound hb i
    dsimp only [bo] at F₁
    k_steps
    rename Fr g L _ _ => F₂
    rename News g L _ _ => N₂
    refine Stop.go (getread_c (e := 3 * i) C (by omega) hk hlx (Site.near B' X' T' rfl (by assumption) (by assumption)) F₂ (newsSub N₂ (fun p hp => .tail _ (List.mem_append_left _ hp))) ?_)
    intro t' ln' t1' tp' np' npb' k' h' tk' hd' hk' hT' F₃ N₃ K₃
    have N₄ : News g L h' (lexLed w.params c ln' t1' k' tp' np' [] npb' ++ ((I, oI) :: rest)) := lexJoin N₂ N₃ K₃ fun p hp => by
      rcases List.mem_cons.mp hp with rfl | hp
      · exact ⟨.head _, hI⟩
      · exact ⟨.tail _ (List.mem_append_right _ hp), hoff p hp⟩
    clear N₂ N₃ K₃ F₂
    dsimp only
    k_steps
    refine Stop.go (fits_c (n := (told.getD i 0).toNat) (by omega) (by omega) (Site.near B' X' T' rfl (by assumption) (by assumption)) (by assumption) (by assumption) ?_)
    intro h₅ tk₅ F₅ N₅
    dsimp only
    k_steps
    rename Fr g L _ _ => F₆
    rename News g L _ _ => N₆
    refine Stop.go (LedEnd.intro F₆ (newsSub N₆ (fun p hp => ?_)) (fun p hp => ?_) ⟨ln', t1', k', tp', np', npb', some (.int (told.getD i 0) tv), rfl, funext (bo_eq _ ⟨rfl, rfl, rfl, rfl, rfl, rfl, trivial⟩ (fun y hy => by simp only [Off] at hy; simp [hy])), by rw [hd']; exact hS', by rw [hd', hT']; exact hT, by omega⟩)
    · rcases List.mem_cons.mp hp with rfl | hp
      · exact List.mem_append_right _ (.head _)
      · exact (List.mem_append.mp hp).elim (fun q => List.mem_append_left _ q) fun q => List.mem_append_right _ (.tail _ q)
    · rcases List.mem_append.mp hp with hp | hp
      · exact Nat.ne_of_lt (lexLed_addr (fun p hp => hl0 p (List.mem_append_left _ hp)) _ (List.mem_map_of_mem (f := (·.1)) hp))
      · exact Nat.ne_of_lt (hl0 p (List.mem_append_right _ hp))
  · rintro m₁ news₁ h tk ⟨ln, t1, k, tp, np, npb, o, rfl, rfl, hS, hT, hk⟩ F₁ N₁
    rw [iT.length, lT] at hS hk
    exact hret ln t1 k tp np npb o h tk hS hT hk F₁ N₁
end

section
open PySem PySem.W PyProof PyProof.Rows PySem.Calls PySem.Spec
set_option Elab.async false
set_option maxRecDepth 100000
set_option pp.deepTerms false
example : True := by k_with_none; w_top off; trivial
example : (PySem.Challenge.rw_wn0020_01 = PySem.Challenge.rw_wn0020_01) ∧ (hd.heap_39 = hd.heap_39) := by k_fill; exact ⟨rfl, rfl⟩

inductive WordsAre : List Value → List Int → Prop
  | nil : WordsAre [] []
  | cons (v : Int) (t : Tok) {qv : List Value} {q : List Int} : WordsAre qv q → WordsAre (.str (wordOf v.toNat) t :: qv) (v :: q)
theorem WordsAre.length : ∀ {qv : List Value} {q : List Int}, WordsAre qv q → qv.length = q.length
  | _, _, .nil => rfl
  | _, _, .cons _ _ h => by rw [List.length_cons, List.length_cons, h.length]
theorem WordsAre.snoc (v : Int) (t : Tok) : ∀ {qv : List Value} {q : List Int}, WordsAre qv q → WordsAre (qv ++ [.str (wordOf v.toNat) t]) (q ++ [v])
  | _, _, .nil => .cons v t .nil
  | _, _, .cons a b h => .cons a b (h.snoc v t)

theorem newsSwap {g h : Heap} {L : Addr} {A B : List (Addr × Obj)} {x : Addr × Obj} (N : News g L h (A ++ x :: B)) : News g L h (x :: (A ++ B)) := newsSub N fun p hp => by
  rcases List.mem_cons.mp hp with rfl | hp
  · exact List.mem_append_right _ (.head _)
  · exact (List.mem_append.mp hp).elim (fun q => List.mem_append_left _ q) fun q => List.mem_append_right _ (.tail _ q)
theorem size_up {n : Nat} (h : n ≤ 64) : Builtin.Range.small 0 (n : Int) 1 = true ∧ Builtin.Range.rangeSize 0 (n : Int) 1 = ((n : Nat) : Int) := by
  have all : ∀ j : Fin 65, Builtin.Range.small 0 ((j.val : Nat) : Int) 1 = true ∧ Builtin.Range.rangeSize 0 ((j.val : Nat) : Int) 1 = ((j.val : Nat) : Int) := by decide +kernel
  exact all ⟨n, by omega⟩


set_option maxHeartbeats 4000000 in
theorem pushes_c {prog : Program} {w : World} {s : Shared} {c : LexC} {z : PySem.Str} {p : Program} {loose : List Str} {mean : ExcName → Option Value} {mg mb : Str → Option Value} {dp un : Nat} {gd : Option (List Code)} {outer : List Env} {A₀ : Around} {base g : Heap} {L fa aS a1 a2 a3 : Addr} {cdv : Value} {Q : Flow → Shared → Prop} {E : Value → Shared → Prop}
    {vScript vDrawn vText vTold : Value} {vNumber : Option Value} {o₀ : Option Value} {vS : List Value} {nS n : Nat} {sizes : List Int} {start step : Int} {u1 u2 : Tok} {c1 c2 : Obj} {ln : Int} {t1 tp : Tok} {k np npb : Nat} {rest : List (Addr × Obj)}
    (C : LexOk c z) (iS : IntsAre vS sizes) (hsum : sizes.sum = n) (hn : n ≤ 64) (hs : 0 ≤ start ∧ start < 4096) (hp : 1 ≤ step ∧ step ≤ 4096) (hlS : sizes.length ≤ 8)
    (B' : Below A₀ base outer g) (X' : (hd.heap_39 w.params).In g) (T' : Top p loose mean mg mb g) (hdp : dp + 6 < recursionLimit) (hun : un + 8 * 6 < cLine)
    (F : Fr g L s.heap (bo [("script", some vScript), ("drawn", some vDrawn), ("told", some vTold), ("text", some vText), ("lexer", some (.ref c.x)), ("number", vNumber), ("sizes", some (.ref aS)), ("k", o₀)]))
    (N : News g L s.heap (lexLed w.params c ln t1 k tp np [] npb ++ (a1, c1) :: (a2, c2) :: rest)) (d1 : c1.data = .cell (some (.int start u1))) (d2 : c2.data = .cell (some (.int step u2)))
    (hm : (aS, listO vS nS) ∈ rest) (hoff : ∀ p ∈ (a1, c1) :: (a2, c2) :: rest, p.1 ∉ lexAddr c)
    (hret : ∀ qv npb' o h' tk', WordsAre qv ((List.range n).map fun k : Nat => start + (k : Int) * step) →
      Fr g L h' (bo [("script", some vScript), ("drawn", some vDrawn), ("told", some vTold), ("text", some vText), ("lexer", some (.ref c.x)), ("number", vNumber), ("sizes", some (.ref aS)), ("k", o)]) → News g L h' (lexLed w.params c ln t1 k tp np qv npb' ++ (a1, c1) :: (a2, c2) :: rest) → Q .next { s with heap := h', toks := tk' }) :
    wpAny (model prog w) (ktrTop dp un gd (Str.ofString "law") lawS.1 L fa cdv [("gains", a3), ("step", a2), ("start", a1)] outer) (exec lawS.2.2.1 (envX (Str.ofString "law") lawS.1 L fa cdv [("gains", a3), ("step", a2), ("start", a1)])) Q E s := by
  k_with_none
  (k_with "call ref" => (((with_reducible show wpAny _ _ (call (Value.ref 49) _) _ _ _); refine stop ?_)))
  (k_with "call ref" => (((with_reducible show wpAny _ _ (call (Value.ref 91) _) _ _ _); (refine word_i (by omega) (by omega) (Site.near (by assumption) (by assumption) (by assumption) rfl (by assumption) (by assumption)) (by assumption) (by assumption) ?_); intro _ _ _ _ _; try dsimp only)))
  (k_with "call ref" => (((with_reducible show wpAny _ _ (call (Value.ref 70) _) _ _ _); (refine add_c (Site.near (by assumption) (by assumption) (by assumption) rfl (by assumption) (by assumption)) (by assumption) (by assumption) ?_); intro _ _ _ _ _; try dsimp only)))
  (k_with "call ref" => (((with_reducible show wpAny _ _ (call (Value.ref 77) _) _ _ _); (refine mul_c (mulOk (by omega)) (Site.near (by assumption) (by assumption) (by assumption) rfl (by assumption) (by assumption)) (by assumption) (by assumption) ?_); intro _ _ _ _ _; try dsimp only)))
  (k_with "pyIter ref" => ((refine stop ?_)))
  (k_with "getMethod ref" => (((with_reducible show wpAny _ _ (getMethod _ (Str.ofString "push_token") _) _ _ _); walk_at "last getMethod ref")))
  have e1 : lawS = lawS := rfl
  conv at e1 => rhs; whnf
  rw [e1]
  dsimp only
  clear e1
  refine for_led (h₀ := g) (L := L) ?_
  dsimp only [bo] at F
  have hlist : s.heap.IsList aS vS.toArray := News.isList N (List.mem_append_right _ (.tail _ (.tail _ hm)))
  k_steps
  rename IsRange _ _ _ _ _ _ _ _ => hr
  rename Fr g L _ _ => F₀
  rename News g L _ _ => N₀
  rw [hsum] at hr
  refine Stop.go (led_range (n := n) rfl (fun i m₁ news₁ => ∃ qv npb o, news₁ = lexLed w.params c ln t1 k tp np qv npb ++ (a1, c1) :: (a2, c2) :: rest ∧ m₁ = bo [("script", some vScript), ("drawn", some vDrawn), ("told", some vTold), ("text", some vText), ("lexer", some (.ref c.x)), ("number", vNumber), ("sizes", some (.ref aS)), ("k", o)] ∧
    WordsAre qv ((List.range i).map fun k : Nat => start + (k : Int) * step)) hr (size_up hn).1 (size_up hn).2 F₀ N₀ ⟨[], npb, o₀, rfl, rfl, .nil⟩ ?_ ?_)
  · clear F N hr F₀ N₀ hlist
    rintro i ti I oI m₁ news₁ h tk hi hl0 ⟨qv, npb, o, rfl, rfl, hW⟩ off F₁ N₁
    have hI : I ∉ lexAddr c := fun hm => absurd (lexLed_addr (fun p hp => hl0 p (List.mem_append_left _ hp)) I hm) (Nat.lt_irrefl _)
    rw [show (0 : Int) + (i : Int) * 1 = i from by omega]
    have e0 : 0 ≤ (i : Int) * step := Int.mul_nonneg (by omega) (by omega)
    have e1 : (i : Int) * step ≤ 64 * 4096 := Int.le_trans (Int.mul_le_mul_of_nonneg_right (by omega) (by omega)) (Int.mul_le_mul_of_nonneg_left hp.2 (by decide))
    dsimp only [bo] at F₁
    k_steps
    rename Fr g L _ _ => F₂
    rename News g L _ _ => N₂
    refine Stop.go (push_c C ?_ (Site.near B' X' T' rfl (by assumption) (by assumption)) F₂ (newsSub N₂ (fun p hp => .tail _ (List.mem_append_left _ hp))) ?_)
    · rw [hW.length, List.length_map, List.length_range]; omega
    intro npb' h' tk' F₃ N₃ K₃
    have N₄ : News g L h' (lexLed w.params c ln t1 k tp np (qv ++ _) npb' ++ ((I, oI) :: (a1, c1) :: (a2, c2) :: rest)) := lexJoin N₂ N₃ K₃ fun p hp => by
      rcases List.mem_cons.mp hp with rfl | hp
      · exact ⟨.head _, hI⟩
      · exact ⟨.tail _ (List.mem_append_right _ hp), hoff p hp⟩
    clear N₂ N₃ K₃ F₂
    dsimp only
    k_steps
    rename Fr g L _ _ => F₆
    rename News g L _ _ => N₆
    refine Stop.go (LedEnd.intro F₆ (newsSwap N₆) (fun p hp => ?_) ⟨_, npb', some (.int (i : Int) ti), rfl, funext (bo_eq _ ⟨rfl, rfl, rfl, rfl, rfl, rfl, rfl, rfl, trivial⟩ (fun y hy => by simp only [Off] at hy; simp [hy])), ?_⟩)
    · rcases List.mem_append.mp hp with hp | hp
      · exact Nat.ne_of_lt (lexLed_addr (fun p hp => hl0 p (List.mem_append_left _ hp)) _ (List.mem_map_of_mem (f := (·.1)) hp))
      · exact Nat.ne_of_lt (hl0 p (List.mem_append_right _ hp))
    · rw [List.range_succ, List.map_append]
      exact hW.snoc _ _
  · rintro m₁ news₁ h tk ⟨qv, npb, o, rfl, rfl, hW⟩ F₁ N₁
    exact hret qv npb o h tk hW F₁ N₁
end

section
open PySem PySem.W PyProof PyProof.Rows PySem.Calls PySem.Spec
set_option Elab.async false
set_option maxRecDepth 100000
set_option pp.deepTerms false
example : True := by k_with_none; w_top off; trivial
example : (PySem.Challenge.rw_wn0020_01 = PySem.Challenge.rw_wn0020_01) ∧ (hd.heap_39 = hd.heap_39) := by k_fill; exact ⟨rfl, rfl⟩

/-- the turns' loops within each other -/
def turnK : Stmt := match lawS.2.2.2 with
  | .For _ _ (_ :: f2 :: _) _ _ => f2
  | x => x
def leftS : Stmt := match turnK with
  | .For _ _ (f3 :: _) _ _ => f3
  | x => x

theorem size_down {a : Int} (h : -16 ≤ a ∧ a ≤ 16) : Builtin.Range.small a 0 (-1) = true ∧ Builtin.Range.rangeSize a 0 (-1) = ((a.toNat : Nat) : Int) := by
  have all : ∀ j : Fin 33, Builtin.Range.small ((j.val : Int) - 16) 0 (-1) = true ∧ Builtin.Range.rangeSize ((j.val : Int) - 16) 0 (-1) = ((((j.val : Int) - 16).toNat : Nat) : Int) := by decide +kernel
  have e : (((a + 16).toNat : Nat) : Int) - 16 = a := by omega
  have := all ⟨(a + 16).toNat, by omega⟩
  dsimp only at this
  rw [e] at this
  exact this

theorem item_ref {prog : Program} {w : World} {A : Around} {s : Shared} {h₀ : Heap} {L : Addr} {news : List (Addr × Obj)} {Q E : Value → Shared → Prop} {value slice : PySem.Expr} {l : Addr} {vs : List Value} {n k : Nat} {v : Value} {u : Tok}
    (N : News h₀ L s.heap news) (hm : (l, listO vs n) ∈ news) (hv : vs[k]? = some v) (hz : k ≤ 1000) (h : Q v s)
    (hs : subscripted slice false (.ref l) (.int (k : Int) u) = operate [.ref l, .int (k : Int) u] (getItem (.ref l) (.int (k : Int) u)) := by with_unfolding_all rfl) :
    wpAny (model prog w) A (subscriptTail value slice (.ref l) (.int (k : Int) u)) Q E s := by
  have hl : s.heap.IsList l vs.toArray := ⟨_, (N _ hm).1, rfl, n, rfl⟩
  refine tail_any hl.typeIs slot_list_getitem.lookup (wpAny_getItem_list hl (by omega) (by omega) (by simpa using hv) h) hs

theorem number_v {prog : Program} {w : World} {A : Around} {s : Shared} {h₀ : Heap} {L : Addr} {m : Str → Option Value} {news : List (Addr × Obj)} {Q E : Value → Shared → Prop} {v : Int} {t : Tok} (h0 : 0 ≤ v)
    (S : Site w 1 A h₀ L) (F : Fr h₀ L s.heap m) (N : News h₀ L s.heap news)
    (hret : ∀ t' h' tk', Fr h₀ L h' m → News h₀ L h' news → Q (.int v t') { s with heap := h', toks := tk' }) :
    wpAny (model prog w) A (call (.ref 98) [.str (wordOf v.toNat) t]) Q E s := by
  refine number_c S F N fun t' h' tk' F' N' => ?_
  rw [word_lets, numL_letters, Int.toNat_of_nonneg h0]
  exact hret t' h' tk' F' N'

theorem okI_bound {v : Int} (h : okI v = true) : 0 ≤ v ∧ v < 2 ^ 64 := by
  unfold okI at h
  simpa only [Bool.and_eq_true, decide_eq_true_eq] using h

theorem run_step {due : Option Int} {j : Nat} {q : List Int} {tot : Int} {x : List Int × Int} (h : runIn (· + ·) okI due (j + 1) q tot = some x) :
    ∃ v r, q = v :: r ∧ (0 ≤ v ∧ v < 2 ^ 64) ∧ ((j = 0 ∧ due = some v ∧ x = (r, tot)) ∨ (0 < j ∧ (0 ≤ tot + v ∧ tot + v < 2 ^ 64) ∧ runIn (· + ·) okI due j (r ++ [tot + v]) (tot + v) = some x)) := by
  cases q with
  | nil => rw [runIn_nil] at h; cases h
  | cons v r =>
    rw [runIn_cons] at h
    split at h
    · rename_i hv
      refine ⟨v, r, rfl, okI_bound hv, ?_⟩
      split at h
      · rename_i hj
        split at h
        · rename_i hd
          cases h
          exact .inl ⟨hj, hd, rfl⟩
        · cases h
      · rename_i hj
        split at h
        · rename_i ht
          exact .inr ⟨by omega, okI_bound ht, h⟩
        · cases h
    · cases h

theorem WordsAre.cons_inv {qv : List Value} {v : Int} {r : List Int} (h : WordsAre qv (v :: r)) : ∃ t rv, qv = .str (wordOf v.toNat) t :: rv ∧ WordsAre rv r := by
  cases h with
  | cons v t h => exact ⟨t, _, rfl, h⟩


abbrev turnBo (vScript vDrawn vTold vText : Value) (vNumber : Option Value) (c : LexC) (aS : Addr) (oK : Option Value) (aD : Addr) (oT oTot oL oW : Option Value) : List (Str × Option Value) :=
  [("script", some vScript), ("drawn", some vDrawn), ("told", some vTold), ("text", some vText), ("lexer", some (.ref c.x)), ("number", vNumber), ("sizes", some (.ref aS)), ("k", oK), ("dues", some (.ref aD)), ("turn", oT), ("total", oTot), ("left", oL), ("word", oW)]

set_option maxHeartbeats 4000000 in
theorem left_c {prog : Program} {w : World} {s : Shared} {c : LexC} {z : PySem.Str} {p : Program} {loose : List Str} {mean : ExcName → Option Value} {mg mb : Str → Option Value} {dp un : Nat} {gd : Option (List Code)} {outer : List Env} {A₀ : Around} {base g : Heap} {L fa aS aD pD : Addr} {cl : List (Str × Addr)} {cdv : Value} {Q : Flow → Shared → Prop} {E : Value → Shared → Prop}
    {vScript vDrawn vText vTold : Value} {vNumber : Option Value} {oL oW : Option Value} {vS vD vP : List Value} {nS nD nP t i Si : Nat} {sizes row : List Int} {tI tT tt : Tok} {ln : Int} {t1 tp : Tok} {k np npb : Nat} {rest : List (Addr × Obj)}
    {qv : List Value} {q q' : List Int} {tot tot' : Int}
    (C : LexOk c z) (iS : IntsAre vS sizes) (lS : sizes.length = 4) (hi4 : i < 4) (hSi : sizes.getD i 0 = (Si : Int)) (hS8 : Si ≤ 8) (ht : 1 ≤ t ∧ t ≤ 8) (iP : IntsAre vP row) (hvD : vD[i]? = some (.ref pD))
    (hW : WordsAre qv q) (hql : q.length ≤ 64) (hrun : runIn (· + ·) okI row[t]? (Si + 1 - t) q tot = some (q', tot'))
    (B' : Below A₀ base outer g) (X' : (hd.heap_39 w.params).In g) (T' : Top p loose mean mg mb g) (hdp : dp + 6 < recursionLimit) (hun : un + 8 * 6 < cLine)
    (F : Fr g L s.heap (bo (turnBo vScript vDrawn vTold vText vNumber c aS (some (.int i tI)) aD (some (.int t tT)) (some (.int tot tt)) oL oW)))
    (N : News g L s.heap (lexLed w.params c ln t1 k tp np qv npb ++ rest))
    (hmS : (aS, listO vS nS) ∈ rest) (hmD : (aD, listO vD nD) ∈ rest) (hmP : (pD, listO vP nP) ∈ rest) (hoff : ∀ p ∈ rest, p.1 ∉ lexAddr c)
    (hret : ∀ qv' npb' tt' oL' oW' h' tk', WordsAre qv' q' → q'.length ≤ 64 →
      Fr g L h' (bo (turnBo vScript vDrawn vTold vText vNumber c aS (some (.int i tI)) aD (some (.int t tT)) (some (.int tot' tt')) oL' oW')) → News g L h' (lexLed w.params c ln t1 k tp np qv' npb' ++ rest) → Q .next { s with heap := h', toks := tk' }) :
    wpAny (model prog w) (ktrTop dp un gd (Str.ofString "law") lawS.1 L fa cdv cl outer) (exec leftS (envX (Str.ofString "law") lawS.1 L fa cdv cl)) Q E s := by
  k_with_none
  (k_with "call ref" => (((with_reducible show wpAny _ _ (call (Value.ref 42) _) _ _ _); refine stop ?_)))
  (k_with "call ref" => (((with_reducible show wpAny _ _ (call (Value.ref 49) _) _ _ _); refine stop ?_)))
  (k_with "call ref" => (((with_reducible show wpAny _ _ (call (Value.ref 91) _) _ _ _); (refine word_i (by omega) (by omega) (Site.near (by assumption) (by assumption) (by assumption) rfl (by assumption) (by assumption)) (by assumption) (by assumption) ?_); intro _ _ _ _ _; try dsimp only)))
  (k_with "call ref" => (((with_reducible show wpAny _ _ (call (Value.ref 98) _) _ _ _); (refine number_v (by omega) (Site.near (by assumption) (by assumption) (by assumption) rfl (by assumption) (by assumption)) (by assumption) (by assumption) ?_); intro _ _ _ _ _; try dsimp only)))
  (k_with "call ref" => (((with_reducible show wpAny _ _ (call (Value.ref 105) _) _ _ _); refine stop ?_)))
  (k_with "call ref" => (((with_reducible show wpAny _ _ (call (Value.ref 70) _) _ _ _); (refine add_c (Site.near (by assumption) (by assumption) (by assumption) rfl (by assumption) (by assumption)) (by assumption) (by assumption) ?_); intro _ _ _ _ _; try dsimp only)))
  (k_with "pyIter ref" => ((refine stop ?_)))
  (k_with "getMethod ref" => (((with_reducible show wpAny _ _ (getMethod _ (Str.ofString "push_token") _) _ _ _); walk_at "last getMethod ref")))
  (k_with "getMethod ref" => (((with_reducible show wpAny _ _ (getMethod _ (Str.ofString "get_token") _) _ _ _); walk_at "last getMethod ref")))
  (k_with "subscriptTail Name Name ref int" => (first
      | (refine item_led (by assumption) (by first | exact List.mem_append_right _ (by assumption) | exact List.mem_append_right _ (.tail _ (by assumption)) | exact .tail _ (List.mem_append_right _ (by assumption))) (by assumption) (by omega) (by omega) (by omega) ?_; intro _)
      | (refine item_ref (by assumption) (by first | exact List.mem_append_right _ (by assumption) | exact List.mem_append_right _ (.tail _ (by assumption)) | exact .tail _ (List.mem_append_right _ (by assumption))) (by assumption) (by omega) ?_)))
  (k_with "subscriptTail Subscript Name ref int" => ((refine item_led (by assumption) (by first | exact List.mem_append_right _ (by assumption) | exact List.mem_append_right _ (.tail _ (by assumption)) | exact .tail _ (List.mem_append_right _ (by assumption))) (by assumption) (by omega) (by omega) (by omega) ?_; intro _)))
  have e1 : lawS = lawS := rfl
  conv at e1 => rhs; whnf
  have e2 : leftS = leftS := rfl
  conv at e2 => rhs; whnf
  rw [e1, e2]
  dsimp only
  clear e1 e2
  refine for_led (h₀ := g) (L := L) ?_
  dsimp only [bo, turnBo] at F
  have hli : i < sizes.length := by omega
  k_steps
  rename IsRange _ _ _ _ _ _ _ _ => hr
  rename Fr g L _ _ => F₀
  rename News g L _ _ => N₀
  rw [show (i : Int).toNat = i from rfl, hSi] at hr
  have hsd := size_down (a := (Si : Int) - t + 1) (by omega)
  rw [show ((Si : Int) - t + 1).toNat = Si + 1 - t from by omega] at hsd
  refine Stop.go (led_range (n := Si + 1 - t) rfl (fun j m₁ news₁ => ∃ qv npb q tot tt oL oW, news₁ = lexLed w.params c ln t1 k tp np qv npb ++ rest ∧ m₁ = bo (turnBo vScript vDrawn vTold vText vNumber c aS (some (.int i tI)) aD (some (.int t tT)) (some (.int tot tt)) oL oW) ∧
    WordsAre qv q ∧ q.length ≤ 64 ∧ runIn (· + ·) okI row[t]? (Si + 1 - t - j) q tot = some (q', tot')) hr hsd.1 hsd.2 F₀ N₀ ⟨qv, npb, q, tot, tt, oL, oW, rfl, rfl, hW, hql, hrun⟩ ?_ ?_)
  · rename Fr g L s.heap _ => Fx
    rename News g L s.heap _ => Nx
    clear Fx Nx hr F₀ N₀ hsd hrun hW hql
    rintro j tj I oI m₁ news₁ h tk hj hl0 ⟨qv, npb, q, tot, tt, oL, oW, rfl, rfl, hW, hql, hrun⟩ off F₁ N₁
    have hI : I ∉ lexAddr c := fun hm => absurd (lexLed_addr (fun p hp => hl0 p (List.mem_append_left _ hp)) I hm) (Nat.lt_irrefl _)
    obtain ⟨l, hl⟩ : ∃ l, Si + 1 - t - j = l + 1 := ⟨Si + 1 - t - j - 1, by omega⟩
    rw [hl] at hrun
    obtain ⟨v, r, rfl, hv, hstep⟩ := run_step hrun
    obtain ⟨tv, rv, rfl, hWr⟩ := hW.cons_inv
    rw [show (Si : Int) - t + 1 + (j : Int) * (-1) = ((l + 1 : Nat) : Int) from by omega]
    have hrl : rv.length ≤ 2 ^ 20 := by
      rw [hWr.length]; simp only [List.length_cons] at hql; omega
    dsimp only [bo, turnBo] at F₁
    clear hret
    k_steps
    rename Fr g L _ _ => F₂
    rename News g L _ _ => N₂
    refine Stop.go (getpop_c C hrl (Site.near B' X' T' rfl (by assumption) (by assumption)) F₂ (newsSub N₂ (fun p hp => .tail _ (List.mem_append_left _ hp))) ?_)
    intro npb' h' tk' F₃ N₃ K₃
    have N₄ : News g L h' (lexLed w.params c ln t1 k tp np rv npb' ++ ((I, oI) :: rest)) := lexJoin N₂ N₃ K₃ fun p hp => by
      rcases List.mem_cons.mp hp with rfl | hp
      · exact ⟨.head _, hI⟩
      · exact ⟨.tail _ (List.mem_append_right _ hp), hoff p hp⟩
    clear N₂ N₃ K₃ F₂ hrun
    dsimp only
    rcases hstep with ⟨rfl, hdue, hx⟩ | ⟨hl0', hts, hrun⟩
    · have hrow : row.getD (t : Int).toNat 0 = v := by
        rw [show (t : Int).toNat = t from rfl, List.getD_eq_getElem?_getD, hdue]; rfl
      have hrl' : t < row.length := (List.getElem?_eq_some_iff.mp hdue).1
      cases hx
      k_steps
      rename Fr g L _ _ => F₅
      rename News g L _ _ => N₅
      refine Stop.go (fits_c (n := v.toNat) (by omega) (by rw [hrow]; omega) (Site.near B' X' T' rfl (by assumption) (by assumption)) F₅ N₅ ?_)
      intro h₆ tk₆ F₆ N₆
      dsimp only
      k_steps
      rename Fr g L _ _ => F₇
      rename News g L _ _ => N₇
      refine Stop.go (LedEnd.intro F₇ (newsSwap N₇) (fun p hp => ?_) ⟨rv, npb', _, _, tt, some (.int ((0 + 1 : Nat) : Int) tj), some (.str (wordOf v.toNat) tv), rfl, funext (bo_eq _ ⟨rfl, rfl, rfl, rfl, rfl, rfl, rfl, rfl, rfl, rfl, rfl, rfl, rfl, trivial⟩ (fun y hy => by simp only [Off] at hy; simp [hy])), hWr, ?_, ?_⟩)
      · rcases List.mem_append.mp hp with hp | hp
        · exact Nat.ne_of_lt (lexLed_addr (fun p hp => hl0 p (List.mem_append_left _ hp)) _ (List.mem_map_of_mem (f := (·.1)) hp))
        · exact Nat.ne_of_lt (hl0 p (List.mem_append_right _ hp))
      · simp only [List.length_cons] at hql; omega
      · rw [show Si + 1 - t - (j + 1) = 0 from by omega, runIn_zero]
    · k_steps
      rename Fr g L _ _ => F₅
      rename News g L _ _ => N₅
      refine Stop.go (push_c C hrl (Site.near B' X' T' rfl (by assumption) (by assumption)) F₅ (newsSub N₅ (fun p hp => List.mem_append_left _ hp)) ?_)
      intro npb₆ h₆ tk₆ F₆ N₆ K₆
      have N₇ : News g L h₆ (lexLed w.params c ln t1 k tp np (rv ++ _) npb₆ ++ ((I, oI) :: rest)) := lexJoin N₅ N₆ K₆ fun p hp => ⟨List.mem_append_right _ hp, by
        rcases List.mem_cons.mp hp with rfl | hp
        · exact hI
        · exact hoff p hp⟩
      clear N₅ N₆ K₆ F₅
      dsimp only
      k_steps
      rename Fr g L _ _ => F₇
      rename News g L _ _ => N₈
      refine Stop.go (LedEnd.intro F₇ (newsSwap N₈) (fun p hp => ?_) ⟨_, npb₆, _, tot + v, _, some (.int ((l + 1 : Nat) : Int) tj), some (.str (wordOf v.toNat) tv), rfl, funext (bo_eq _ ⟨rfl, rfl, rfl, rfl, rfl, rfl, rfl, rfl, rfl, rfl, rfl, rfl, rfl, trivial⟩ (fun y hy => by simp only [Off] at hy; simp [hy])), hWr.snoc _ _, ?_, ?_⟩)
      · rcases List.mem_append.mp hp with hp | hp
        · exact Nat.ne_of_lt (lexLed_addr (fun p hp => hl0 p (List.mem_append_left _ hp)) _ (List.mem_map_of_mem (f := (·.1)) hp))
        · exact Nat.ne_of_lt (hl0 p (List.mem_append_right _ hp))
      · simp only [List.length_cons, List.length_append, List.length_nil] at hql ⊢; omega
      · rw [show Si + 1 - t - (j + 1) = l from by omega]; exact hrun
  · rintro m₁ news₁ h tk ⟨qv, npb, q, tot, tt, oL, oW, rfl, rfl, hW, hql, hrun⟩ F₁ N₁
    rw [Nat.sub_self, runIn_zero] at hrun
    cases hrun
    exact hret qv npb tt oL oW h tk hW hql F₁ N₁

theorem four_drop {i : Nat} (h : i < 4) : [0, 1, 2, 3].drop i = i :: [0, 1, 2, 3].drop (i + 1) := by
  have all : ∀ j : Fin 4, [0, 1, 2, 3].drop j.val = j.val :: [0, 1, 2, 3].drop (j.val + 1) := by decide
  exact all ⟨i, h⟩
end

section
open PySem PySem.W PyProof PyProof.Rows PySem.Calls PySem.Spec
set_option Elab.async false
set_option maxRecDepth 100000
set_option pp.deepTerms false
example : True := by k_with_none; w_top off; trivial
example : (PySem.Challenge.rw_wn0020_01 = PySem.Challenge.rw_wn0020_01) ∧ (hd.heap_39 = hd.heap_39) := by k_fill; exact ⟨rfl, rfl⟩


set_option maxHeartbeats 4000000 in
theorem blocks_c {prog : Program} {w : World} {s : Shared} {c : LexC} {z : PySem.Str} {p : Program} {loose : List Str} {mean : ExcName → Option Value} {mg mb : Str → Option Value} {dp un : Nat} {gd : Option (List Code)} {outer : List Env} {A₀ : Around} {base g : Heap} {L fa aS aD : Addr} {cl : List (Str × Addr)} {cdv : Value} {Q : Flow → Shared → Prop} {E : Value → Shared → Prop}
    {vScript vDrawn vText vTold : Value} {vNumber : Option Value} {oK oL oW : Option Value} {vS vD : List Value} {nS nD t : Nat} {S : Nat → Nat} {sizes : List Int} {pD : Nat → Addr} {vP : Nat → List Value} {nP : Nat → Nat} {rows : Nat → List Int} {tT tt : Tok} {ln : Int} {t1 tp : Tok} {k np npb : Nat} {rest : List (Addr × Obj)}
    {qv : List Value} {q q' : List Int} {tot : Int}
    (C : LexOk c z) (iS : IntsAre vS sizes) (lS : sizes.length = 4) (hS : ∀ i, i < 4 → sizes.getD i 0 = (S i : Int) ∧ S i ≤ 8) (ht : 1 ≤ t ∧ t ≤ 8) (iP : ∀ i, i < 4 → IntsAre (vP i) (rows i)) (hvD : ∀ i, i < 4 → vD[i]? = some (.ref (pD i)))
    (hW : WordsAre qv q) (hql : q.length ≤ 64) (hrun : runBlocks (· + ·) okI (fun i => (rows i)[t]?) S t [0, 1, 2, 3] q tot = some q')
    (B' : Below A₀ base outer g) (X' : (hd.heap_39 w.params).In g) (T' : Top p loose mean mg mb g) (hdp : dp + 6 < recursionLimit) (hun : un + 8 * 6 < cLine)
    (F : Fr g L s.heap (bo (turnBo vScript vDrawn vTold vText vNumber c aS oK aD (some (.int t tT)) (some (.int tot tt)) oL oW)))
    (N : News g L s.heap (lexLed w.params c ln t1 k tp np qv npb ++ rest))
    (hmS : (aS, listO vS nS) ∈ rest) (hmD : (aD, listO vD nD) ∈ rest) (hmP : ∀ i, i < 4 → (pD i, listO (vP i) (nP i)) ∈ rest) (hoff : ∀ p ∈ rest, p.1 ∉ lexAddr c)
    (hret : ∀ qv' npb' tot' tt' oK' oL' oW' h' tk', WordsAre qv' q' → q'.length ≤ 64 →
      Fr g L h' (bo (turnBo vScript vDrawn vTold vText vNumber c aS oK' aD (some (.int t tT)) (some (.int tot' tt')) oL' oW')) → News g L h' (lexLed w.params c ln t1 k tp np qv' npb' ++ rest) → Q .next { s with heap := h', toks := tk' }) :
    wpAny (model prog w) (ktrTop dp un gd (Str.ofString "law") lawS.1 L fa cdv cl outer) (exec turnK (envX (Str.ofString "law") lawS.1 L fa cdv cl)) Q E s := by
  k_with_none
  (k_with "pyIter ref" => ((refine stop ?_)))
  (k_with "exec For Name Call cons nil" => ((refine stop ?_)))
  (k_with "subscriptTail Name Constant ref int" => ((refine item_led (by assumption) (by first | exact List.mem_append_right _ (by assumption) | exact List.mem_append_right _ (.tail _ (by assumption)) | exact .tail _ (List.mem_append_right _ (by assumption))) (by assumption) (by omega) (by omega) (by omega) ?_; intro _)))
  have e1 : lawS = lawS := rfl
  conv at e1 => rhs; whnf
  have e2 : turnK = turnK := rfl
  conv at e2 => rhs; whnf
  have e3 : leftS = leftS := rfl
  conv at e3 => rhs; whnf
  have left := @left_c
  rw [e1, e3] at left
  rw [e1, e2]
  dsimp only at left ⊢
  clear e1 e2 e3
  refine for_led (h₀ := g) (L := L) ?_
  dsimp only [bo, turnBo] at F
  k_steps
  rename IsRange _ _ _ _ _ _ _ _ => hr
  rename Fr g L _ _ => F₀
  rename News g L _ _ => N₀
  refine Stop.go (led_range (n := 4) rfl (fun i m₁ news₁ => ∃ qv npb q tot tt oK oL oW, news₁ = lexLed w.params c ln t1 k tp np qv npb ++ rest ∧ m₁ = bo (turnBo vScript vDrawn vTold vText vNumber c aS oK aD (some (.int t tT)) (some (.int tot tt)) oL oW) ∧
    WordsAre qv q ∧ q.length ≤ 64 ∧ runBlocks (· + ·) okI (fun i => (rows i)[t]?) S t ([0, 1, 2, 3].drop i) q tot = some q') hr (by decide) (by rfl) F₀ N₀ ⟨qv, npb, q, tot, tt, oK, oL, oW, rfl, rfl, hW, hql, hrun⟩ ?_ ?_)
  · clear hr F₀ N₀ hrun hW hql
    rintro i ti I oI m₁ news₁ h tk hi hl0 ⟨qv, npb, q, tot, tt, oK, oL, oW, rfl, rfl, hW, hql, hrun⟩ off F₁ N₁
    have hI : I ∉ lexAddr c := fun hm => absurd (lexLed_addr (fun p hp => hl0 p (List.mem_append_left _ hp)) I hm) (Nat.lt_irrefl _)
    rw [show (0 : Int) + (i : Int) * 1 = i from by omega]
    rw [four_drop hi, runBlocks_cons, Option.bind_eq_some_iff] at hrun
    obtain ⟨⟨q₁, tot₁⟩, hin, hrun⟩ := hrun
    dsimp only [bo, turnBo] at F₁
    clear hret
    k_steps
    rename Fr g L _ _ => F₂
    rename News g L _ _ => N₂
    have N₃ : News g L _ (lexLed w.params c ln t1 k tp np qv npb ++ ((I, oI) :: rest)) := newsSub N₂ fun p hp => by
      rcases List.mem_append.mp hp with hp | hp
      · exact .tail _ (List.mem_append_left _ hp)
      · rcases List.mem_cons.mp hp with rfl | hp
        · exact .head _
        · exact .tail _ (List.mem_append_right _ hp)
    refine Stop.go (left C iS lS hi (hS i hi).1 (hS i hi).2 ht (iP i hi) (hvD i hi) hW hql hin B' X' T' hdp hun (frBo F₂ (turnBo vScript vDrawn vTold vText vNumber c aS (some (.int i ti)) aD (some (.int t tT)) (some (.int tot tt)) oL oW) ⟨rfl, rfl, rfl, rfl, rfl, rfl, rfl, rfl, rfl, rfl, rfl, rfl, rfl, trivial⟩ (fun y hy => by simp only [Off] at hy; simp [hy])) N₃ (.tail _ hmS) (.tail _ hmD) (.tail _ (hmP i hi)) (fun p hp => ?_) ?_)
    · rcases List.mem_cons.mp hp with rfl | hp
      · exact hI
      · exact hoff p hp
    · intro qv' npb' tt' oL' oW' h' tk' hW' hql' F₄ N₄
      dsimp only
      k_steps
      refine Stop.go (LedEnd.intro F₄ (newsSwap N₄) (fun p hp => ?_) ⟨qv', npb', q₁, tot₁, tt', some (.int (i : Int) ti), oL', oW', rfl, rfl, hW', hql', hrun⟩)
      rcases List.mem_append.mp hp with hp | hp
      · exact Nat.ne_of_lt (lexLed_addr (fun p hp => hl0 p (List.mem_append_left _ hp)) _ (List.mem_map_of_mem (f := (·.1)) hp))
      · exact Nat.ne_of_lt (hl0 p (List.mem_append_right _ hp))
  · rintro m₁ news₁ h tk ⟨qv, npb, q, tot, tt, oK, oL, oW, rfl, rfl, hW, hql, hrun⟩ F₁ N₁
    rw [show [0, 1, 2, 3].drop 4 = [] from rfl, runBlocks_nil] at hrun
    cases hrun
    exact hret qv npb tot tt oK oL oW h tk hW hql F₁ N₁

theorem size_1up {n : Nat} (h : n ≤ 8) : Builtin.Range.small 1 ((n : Int) + 1) 1 = true ∧ Builtin.Range.rangeSize 1 ((n : Int) + 1) 1 = ((n : Nat) : Int) := by
  have all : ∀ j : Fin 9, Builtin.Range.small 1 ((j.val : Int) + 1) 1 = true ∧ Builtin.Range.rangeSize 1 ((j.val : Int) + 1) 1 = ((j.val : Nat) : Int) := by decide +kernel
  exact all ⟨n, by omega⟩

set_option maxHeartbeats 4000000 in
theorem turns_c {prog : Program} {w : World} {s : Shared} {c : LexC} {z : PySem.Str} {p : Program} {loose : List Str} {mean : ExcName → Option Value} {mg mb : Str → Option Value} {dp un : Nat} {gd : Option (List Code)} {outer : List Env} {A₀ : Around} {base g : Heap} {L fa aS aD : Addr} {cl : List (Str × Addr)} {cdv : Value} {Q : Flow → Shared → Prop} {E : Value → Shared → Prop}
    {vScript vDrawn vText vTold : Value} {vNumber : Option Value} {oK oT oTot oL oW : Option Value} {vS vD : List Value} {nS nD : Nat} {S : Nat → Nat} {sizes : List Int} {pD : Nat → Addr} {vP : Nat → List Value} {nP : Nat → Nat} {rows : Nat → List Int} {ln : Int} {t1 tp : Tok} {k np npb : Nat} {rest : List (Addr × Obj)}
    {qv : List Value} {q q' : List Int}
    (C : LexOk c z) (iS : IntsAre vS sizes) (lS : sizes.length = 4) (hS : ∀ i, i < 4 → sizes.getD i 0 = (S i : Int) ∧ S i ≤ 8) (iP : ∀ i, i < 4 → IntsAre (vP i) (rows i)) (hvD : ∀ i, i < 4 → vD[i]? = some (.ref (pD i)))
    (hW : WordsAre qv q) (hql : q.length ≤ 64) (hrun : runTurns (· + ·) 0 okI (fun i t => (rows i)[t]?) S (List.range' 1 (S 3)) q = some q')
    (B' : Below A₀ base outer g) (X' : (hd.heap_39 w.params).In g) (T' : Top p loose mean mg mb g) (hdp : dp + 6 < recursionLimit) (hun : un + 8 * 6 < cLine)
    (F : Fr g L s.heap (bo (turnBo vScript vDrawn vTold vText vNumber c aS oK aD oT oTot oL oW)))
    (N : News g L s.heap (lexLed w.params c ln t1 k tp np qv npb ++ rest))
    (hmS : (aS, listO vS nS) ∈ rest) (hmD : (aD, listO vD nD) ∈ rest) (hmP : ∀ i, i < 4 → (pD i, listO (vP i) (nP i)) ∈ rest) (hoff : ∀ p ∈ rest, p.1 ∉ lexAddr c)
    (hret : ∀ qv' npb' oK' oT' oTot' oL' oW' h' tk', WordsAre qv' q' →
      Fr g L h' (bo (turnBo vScript vDrawn vTold vText vNumber c aS oK' aD oT' oTot' oL' oW')) → News g L h' (lexLed w.params c ln t1 k tp np qv' npb' ++ rest) → Q .next { s with heap := h', toks := tk' }) :
    wpAny (model prog w) (ktrTop dp un gd (Str.ofString "law") lawS.1 L fa cdv cl outer) (exec lawS.2.2.2 (envX (Str.ofString "law") lawS.1 L fa cdv cl)) Q E s := by
  k_with_none
  (k_with "pyIter ref" => ((refine stop ?_)))
  (k_with "exec For Name Call cons nil" => ((refine stop ?_)))
  (k_with "subscriptTail Name Constant ref int" => ((refine item_led (by assumption) (by first | exact List.mem_append_right _ (by assumption) | exact List.mem_append_right _ (.tail _ (by assumption)) | exact .tail _ (List.mem_append_right _ (by assumption))) (by assumption) (by omega) (by omega) (by omega) ?_; intro _)))
  have e1 : lawS = lawS := rfl
  conv at e1 => rhs; whnf
  have e2 : turnK = turnK := rfl
  conv at e2 => rhs; whnf
  have blocks := @blocks_c
  rw [e1, e2] at blocks
  rw [e1]
  dsimp only at blocks ⊢
  clear e1 e2
  refine for_led (h₀ := g) (L := L) ?_
  dsimp only [bo, turnBo] at F
  have hli : 3 < sizes.length := by omega
  k_steps
  rename IsRange _ _ _ _ _ _ _ _ => hr
  rename Fr g L _ _ => F₀
  rename News g L _ _ => N₀
  rw [show (3 : Int).toNat = 3 from rfl, (hS 3 (by omega)).1] at hr
  have hsd := size_1up (hS 3 (by omega)).2
  refine Stop.go (led_range (n := S 3) rfl (fun i m₁ news₁ => ∃ qv npb q oK oT oTot oL oW, news₁ = lexLed w.params c ln t1 k tp np qv npb ++ rest ∧ m₁ = bo (turnBo vScript vDrawn vTold vText vNumber c aS oK aD oT oTot oL oW) ∧
    WordsAre qv q ∧ q.length ≤ 64 ∧ runTurns (· + ·) 0 okI (fun i t => (rows i)[t]?) S (List.range' (1 + i) (S 3 - i)) q = some q') hr hsd.1 hsd.2 F₀ N₀ ⟨qv, npb, q, oK, oT, oTot, oL, oW, rfl, rfl, hW, hql, hrun⟩ ?_ ?_)
  · rename Fr g L s.heap _ => Fx
    rename News g L s.heap _ => Nx
    clear Fx Nx hr F₀ N₀ hsd hrun hW hql
    rintro i ti I oI m₁ news₁ h tk hi hl0 ⟨qv, npb, q, oK, oT, oTot, oL, oW, rfl, rfl, hW, hql, hrun⟩ off F₁ N₁
    have hI : I ∉ lexAddr c := fun hm => absurd (lexLed_addr (fun p hp => hl0 p (List.mem_append_left _ hp)) I hm) (Nat.lt_irrefl _)
    rw [show (1 : Int) + (i : Int) * 1 = ((1 + i : Nat) : Int) from by omega]
    rw [show S 3 - i = (S 3 - (i + 1)) + 1 from by omega, List.range'_succ, runTurns_cons, Option.bind_eq_some_iff] at hrun
    obtain ⟨q₁, hin, hrun⟩ := hrun
    have hi8 : 1 ≤ 1 + i ∧ 1 + i ≤ 8 := by
      have := (hS 3 (by omega)).2
      omega
    dsimp only [bo, turnBo] at F₁
    clear hret
    k_steps
    rename Fr g L _ _ => F₂
    rename News g L _ _ => N₂
    have N₃ : News g L _ (lexLed w.params c ln t1 k tp np qv npb ++ ((I, oI) :: rest)) := newsSub N₂ fun p hp => by
      rcases List.mem_append.mp hp with hp | hp
      · exact .tail _ (List.mem_append_left _ hp)
      · rcases List.mem_cons.mp hp with rfl | hp
        · exact .head _
        · exact .tail _ (List.mem_append_right _ hp)
    refine Stop.go (blocks (oK := oK) (oL := oL) (oW := oW) C iS lS hS hi8 iP hvD hW hql hin B' X' T' hdp hun (frBo F₂ (turnBo vScript vDrawn vTold vText vNumber c aS oK aD (some (.int ((1 + i : Nat) : Int) ti)) (some (.int 0 _)) oL oW) ⟨rfl, rfl, rfl, rfl, rfl, rfl, rfl, rfl, rfl, rfl, rfl, rfl, rfl, trivial⟩ (fun y hy => by simp only [Off] at hy; simp [hy])) N₃ (.tail _ hmS) (.tail _ hmD) (fun i hi => .tail _ (hmP i hi)) (fun p hp => ?_) ?_)
    · rcases List.mem_cons.mp hp with rfl | hp
      · exact hI
      · exact hoff p hp
    · intro qv' npb' tot' tt' oK' oL' oW' h' tk' hW' hql' F₄ N₄
      dsimp only
      k_steps
      refine Stop.go (LedEnd.intro F₄ (newsSwap N₄) (fun p hp => ?_) ⟨qv', npb', q₁, oK', some (.int ((1 + i : Nat) : Int) ti), some (.int tot' tt'), oL', oW', rfl, rfl, hW', hql', hrun⟩)
      rcases List.mem_append.mp hp with hp | hp
      · exact Nat.ne_of_lt (lexLed_addr (fun p hp => hl0 p (List.mem_append_left _ hp)) _ (List.mem_map_of_mem (f := (·.1)) hp))
      · exact Nat.ne_of_lt (hl0 p (List.mem_append_right _ hp))
  · rintro m₁ news₁ h tk ⟨qv, npb, q, oK, oT, oTot, oL, oW, rfl, rfl, hW, hql, hrun⟩ F₁ N₁
    rw [Nat.sub_self, List.range'_zero, runTurns_nil] at hrun
    cases hrun
    exact hret qv npb oK oT oTot oL oW h tk hW F₁ N₁
end

section
open PySem PySem.W PyProof PyProof.Rows PySem.Calls PySem.Spec
set_option Elab.async false
set_option maxRecDepth 100000
set_option pp.deepTerms false
section
variable {prog : Program} {w : World} {A : Around} {s : Shared} {h₀ : Heap} {L : Addr} {m : Str → Option Value} {news : List (Addr × Obj)}

/-- into a def of the text's own that has cells; what stands outside the ledger handed over is kept -/
theorem enterC {need : Nat} {name qual : Str} {params : Arguments} {body : List Stmt} {scope : Scope} {dV kV doc pm cdv ct oc : Value} {an od : Option Addr} {osl : Array (Option Value)} {f : Addr} {args : List Value} (binds : List (Str × Value)) {Q E : Value → Shared → Prop}
    (S : Site w (need + 1) A h₀ L) (F : Fr h₀ L s.heap m) (N : News h₀ L s.heap news)
    (ho : (hd.heap_39 w.params).lookup f = some ⟨oc, od, .func (fnOf name qual params body scope dV kV doc pm an cdv ct), osl⟩) (hcd : codeIn (hd.heap_39 w.params) cdv qual = true)
    (hbind : bindArgs (fnOf name qual params body scope dV kV doc pm an cdv ct) ⟨args, []⟩ = pure binds)
    (hkind : (binds.all fun y => scope.names.lookup y.1 == some .local || scope.names.lookup y.1 == some .cell) = true)
    (hnd : ((cellsFrom 0 scope.names []).map (·.1)).Nodup)
    (h : ∀ (p : Program) (loose : List Str) (mean : ExcName → Option Value) (mg mb : Str → Option Value) (dp un : Nat) (gd : Option (List Code)) (cn : Str) (cs : Scope) (a : Addr) (ccd : Value) (cl : List (Str × Addr)) (outer : List Env) (base g h₁ : Heap) (L' : Addr) (tk : Nat) (cells : List (Addr × Obj)),
      Below (ktrTop dp un gd cn cs L a ccd cl outer) base (envX cn cs L a ccd cl :: outer) g → s.heap.objs.size ≤ L' → (hd.heap_39 w.params).In g → Top p loose mean mg mb g → dp + (need + 1) < recursionLimit → un + 8 * (need + 1) < cLine → cs.kind = .function → Fr h₀ L g m → Fr g L' h₁ (bindL (envOfC qual scope L' f cdv).kindOf binds fun _ => none) → News g L' h₁ (cells ++ news) →
      CellsAre (bindC (envOfC qual scope L' f cdv).kindOf binds fun _ => none) (cellsFrom (L' + 1) scope.names []) cells → (∀ p ∈ news, p.1 < L') →
      wpAny (model prog w) ((ktrTop dp un gd cn cs L a ccd cl outer).deeper (envOfC qual scope L' f cdv)) (execs body (envOfC qual scope L' f cdv))
        (fun fl s' => EndCall h₀ L m g (news.map (·.1)) s.heap Q (match fl with | .ret v => v | _ => .none) s') NoE
        { s with heap := h₁, toks := tk })
    (hco : scope.isCoroutine = false := by rfl) (hgen : scope.isGenerator = false := by rfl) (hk : scope.kind = .function := by rfl) :
    wpAny (model prog w) A (call (.ref f) args) Q E s := by
  obtain ⟨p, loose, mean, mg, mb, dp, un, gd, cn, cs, a, ccd, cl', outer, A₀, base, rfl, B, X, T, hcs, h1, h2⟩ := S
  refine noE (wpAny_call ?_)
  obtain ⟨FG, BG, st, lv⟩ := groundX (R := fun r s' => match r with | .ok (.ret v) => Q v s' | _ => False) (A := ktrTop dp un gd cn cs L a ccd cl' outer) (env := envX cn cs L a ccd cl') B F N rfl rfl hcs
  refine codeAny_mono (codeAny_call_function (R := fun r s' => match r with | .ok (.ret v) => Q v s' | _ => False) (by show dp < recursionLimit; omega) ((X.keeps F.keep) _ _ ho) rfl hco hgen rfl (codeRec_of (X.keeps F.keep) hcd) (BindsTo.of_eq hbind _ _ _ _ ?_)) (fun r s' x => by
    cases r with
    | ok f => cases f <;> exact x
    | error e => exact x)
  refine wpAny_newFunctionEnv_cells hk (kindsX hkind _) fun env' he s' x => ?_
  subst he
  refine ⟨(T.nolimit.keeps F.keep).keeps x.toInCall.keep, codeAny_func ?_⟩
  obtain ⟨h₁, tk, rfl, _⟩ := x.done
  have hk₁ := x.toInCall.keep
  obtain ⟨cells, NC, Y⟩ := Cl.news (h₀ := s.heap) (Nat.le_refl _) fun n c hm => ⟨x.cell n c (lookup_of_mem_nodup (cellsFrom_names scope.names 0 (s.heap.objs.size + 1) [] [] rfl ▸ hnd) hm), x.above n c hm⟩
  refine wpAny_mono (h p loose mean mg mb dp un gd cn cs a ccd cl' outer base _ h₁ s.heap.objs.size tk cells BG (Nat.le_refl _) (Frag.In.keeps X st) (T.keeps st) h1 h2 hcs FG
    ⟨x.toInCall.ns, fun b o e => hk₁ b o (of_hideAll _ e), Nat.le_of_eq (hideAll_size _ _)⟩ (fun p hp => ?_) Y (fun p hp => Heap.lt_size (N p hp).1)) (fun fl s' hl => endCall_out rfl lv hl) fun _ _ y => y.elim
  rcases List.mem_append.mp hp with hp | hp
  · refine ⟨(NC p hp).1, (NC p hp).2.1, ?_⟩
    cases q : (hideAll s.heap (news.map (·.1))).get? p.1 with
    | none => rfl
    | some o => have := of_hideAll _ q; rw [(NC p hp).2.2] at this; cases this
  · exact ⟨hk₁ _ _ (N p hp).1, Nat.ne_of_lt (Heap.lt_size (N p hp).1), hideAll_none _ (List.mem_map_of_mem hp)⟩
end
end

section
open PySem PySem.W PyProof PyProof.Rows PySem.Calls PySem.Spec
set_option Elab.async false
set_option maxRecDepth 100000
set_option pp.deepTerms false
example : True := by k_with_none; w_top off; trivial
example : (PySem.Challenge.rw_wn0020_01 = PySem.Challenge.rw_wn0020_01) ∧ (hd.heap_39 = hd.heap_39) := by k_fill; exact ⟨rfl, rfl⟩

theorem lexDone {P : Params} {s s' : Shared} {h₀ : Heap} {L L' : Addr} {m : Str → Option Value} {rest : List (Addr × Obj)} {Q : Value → Shared → Prop} {z : PySem.Str} {x dx y dy cT cP pl rf cc pb lp : Addr} {oT oP fo oc olp : Obj} {k1 k2 k3 k4 j1 j2 j3 j4 j5 t3 t1 tp : Tok} {d1 d2 d3 d4 : Value} {np npb : Nat} {ps : Array Value}
    (kF : Fr h₀ L s'.heap m)
    (kN : News h₀ L s'.heap [(pb, W.listOf #[] npb), (x, instObj 52 dx), (dx, dictOf [ent P "lineno" k1 (.int 1 t1), ent P "instream" k2 (.ref y), ent P "whitespace" k3 (.str (Str.ofString "\n\t\x0d ") t3), ent P "pushback" k4 (.ref pb)] 4), (lp, olp),
      (y, instObj 52 dy), (dy, dictOf [ent P "lineno" j1 d1, ent P "instream" j2 d2, ent P "whitespace" j3 d3, ent P "pushback" j4 d4, ent P "read" j5 (.ref rf)] 5), (rf, fo), (cc, oc), (pl, W.listOf #[.int 0 tp] np), (cP, oP), (cT, oT), (79, tabObj ps)])
    (N : News h₀ L s.heap ((79, tabObj #[]) :: rest)) (kK : Kept [79] s.heap s'.heap) (hoff : ∀ p ∈ rest, p.1 ≠ 79) (hL : s.heap.objs.size ≤ L')
    (R : ReadAt rf cT cP fo oT oP z pl (.ref cc)) (hc : ∃ vs t, oc.data = .fields vs ∧ vs[1]? = some (.str (Str.ofString "_law_lexer.<locals>.read") t)) (hz : z.length ≤ 2 ^ 20)
    (lo : @LT.lt Nat _ L' cT) (ord : (@LT.lt Nat _ cT cP) ∧ (@LT.lt Nat _ cP pl) ∧ (@LT.lt Nat _ pl cc) ∧ (@LT.lt Nat _ cc rf) ∧ (@LT.lt Nat _ rf dy) ∧ (@LT.lt Nat _ dy y) ∧ (@LT.lt Nat _ y dx) ∧ (@LT.lt Nat _ dx x) ∧ (@LT.lt Nat _ x pb))
    (hret : ∀ c t1 tp np npb ps h' tk', LexOk c z → Fr h₀ L h' m → News h₀ L h' (lexLed P c 1 t1 0 tp np [] npb ++ (79, tabObj ps) :: rest) → (∀ p ∈ (79, tabObj ps) :: rest, p.1 ∉ lexAddr c) → Q (.ref c.x) { s' with heap := h', toks := tk' }) : Q (.ref x) s' := by
  obtain ⟨o1, o2, o3, o4, o5, o6, o7, o8, o9⟩ := id ord
  have l1 := Nat.lt_trans lo o1
  have l2 := Nat.lt_trans l1 o2
  have l3 := Nat.lt_trans l2 o3
  have l4 := Nat.lt_trans l3 o4
  have l5 := Nat.lt_trans l4 o5
  have l6 := Nat.lt_trans l5 o6
  have l7 := Nat.lt_trans l6 o7
  have l8 := Nat.lt_trans l7 o8
  have l9 := Nat.lt_trans l8 o9
  have hgt : ∀ a ∈ [x, dx, y, dy, cT, cP, pl, rf, cc, pb], @LT.lt Nat _ L' a := List.forall_mem_cons.mpr ⟨l8, List.forall_mem_cons.mpr ⟨l7, List.forall_mem_cons.mpr ⟨l6, List.forall_mem_cons.mpr ⟨l5, List.forall_mem_cons.mpr ⟨lo, List.forall_mem_cons.mpr ⟨l1, List.forall_mem_cons.mpr ⟨l2, List.forall_mem_cons.mpr ⟨l4, List.forall_mem_cons.mpr ⟨l3, List.forall_mem_cons.mpr ⟨l9, List.forall_mem_nil _⟩⟩⟩⟩⟩⟩⟩⟩⟩⟩
  have hout : ∀ b : Nat, b ≤ L' → b ∉ [x, dx, y, dy, cT, cP, pl, rf, cc, pb] := fun b hb hm => absurd (hgt b hm) (Nat.not_lt.mpr hb)
  have h79 : @LT.lt Nat _ 79 s.heap.objs.size := Heap.lt_size (N _ (.head _)).1
  refine hret ⟨x, dx, y, dy, cT, cP, pl, rf, cc, pb, oT, oP, fo, oc, k1, k2, k3, k4, j1, j2, j3, j4, j5, t3, d1, d2, d3, d4⟩ t1 tp np npb ps s'.heap s'.toks ⟨R, hc, hz, ord⟩ kF (fun p hp => ?_) (fun p hp => ?_)
  · rcases List.mem_append.mp hp with hp | hp
    · refine kN p (List.forall_mem_cons.mpr ⟨?_, List.forall_mem_cons.mpr ⟨?_, List.forall_mem_cons.mpr ⟨?_, List.forall_mem_cons.mpr ⟨?_, List.forall_mem_cons.mpr ⟨?_, List.forall_mem_cons.mpr ⟨?_, List.forall_mem_cons.mpr ⟨?_, List.forall_mem_cons.mpr ⟨?_, List.forall_mem_cons.mpr ⟨?_, List.forall_mem_cons.mpr ⟨?_, List.forall_mem_nil _⟩⟩⟩⟩⟩⟩⟩⟩⟩⟩ p hp) <;> (dsimp only; k_mem)
    · rcases List.mem_cons.mp hp with rfl | hp
      · exact kN _ (by k_mem)
      · have n := N p (.tail _ hp)
        exact ⟨kK _ _ (fun hm => hoff p hp (List.mem_singleton.mp hm)) n.1, n.2⟩
  · refine hout p.1 ?_
    rcases List.mem_cons.mp hp with rfl | hp
    · exact Nat.le_of_lt (Nat.lt_of_lt_of_le h79 hL)
    · exact Nat.le_of_lt (Nat.lt_of_lt_of_le (Heap.lt_size (N p (.tail _ hp)).1) hL)

local macro_rules | `(tactic| k_room) => `(tactic| ((try simp only [depth_mark, depth_under_make, depth_under_kw, depth_in1, depth_deeper, depth_caller]); (try dsimp only [ktrTop]); omega))

set_option maxHeartbeats 4000000 in
theorem lexer_c {prog : Program} {w : World} {A : Around} {s : Shared} {h₀ : Heap} {L : Addr} {m : Str → Option Value} {rest : List (Addr × Obj)} {Q E : Value → Shared → Prop} {z : PySem.Str} {t : Tok}
    (C0 : CodeHd h₀ 83 79) (hz : z.length ≤ 2 ^ 20) (hoff : ∀ p ∈ rest, p.1 ≠ 79)
    (S : Site w 4 A h₀ L) (F : Fr h₀ L s.heap m) (N : News h₀ L s.heap ((79, tabObj #[]) :: rest))
    (hret : ∀ c t1 tp np npb ps h' tk', LexOk c z → Fr h₀ L h' m → News h₀ L h' (lexLed w.params c 1 t1 0 tp np [] npb ++ (79, tabObj ps) :: rest) → (∀ p ∈ (79, tabObj ps) :: rest, p.1 ∉ lexAddr c) → Q (.ref c.x) { s with heap := h', toks := tk' }) :
    wpAny (model prog w) A (call (.ref 84) [.str z t]) Q E s := by
  refine enterC (news := [(79, tabObj #[])]) [("text", .str z t)] S F (newsSub N fun p hp => by rw [List.mem_singleton.mp hp]; exact .head _) (by k_is) (by k_is) (by rfl) (by rfl) (by decide +kernel) ?_
  intro p loose mean mg mb dp un gd cn cs a ccd cl outer base g' h₁ L' tk' cells B' hLs X' T' hdp hun hcs FG' F' N' Y' l1
  replace F' : Fr g' L' h₁ (bm []) := F'
  dsimp only [bm] at F'
  k_lt l1
  k_cells Y'
  try simp only [List.cons_append, List.nil_append] at N'
  have C1 := C0.keeps FG'.keep
  k_steps
  rename Fr g' L' _ _ => F₃
  rename News g' L' _ _ => N₃
  refine endCall_ F₃ N₃ fun kF kN kK => ?_
  clear F₃ N₃
  rename _ = some (Value.str (qualnameIn _ _ _) _) => hqn
  refine lexDone kF kN N kK hoff hLs ?_ ?_ hz (by omega) (by omega) hret
  · exact ⟨⟨_, _, _, by with_unfolding_all rfl⟩, ⟨_, by assumption⟩, by assumption⟩
  · exact ⟨_, _, by assumption, hqn⟩
end

section
open PySem PySem.W PyProof PyProof.Rows PySem.Calls PySem.Spec PyProof.Rows.LCg
set_option Elab.async false
set_option maxRecDepth 100000
set_option pp.deepTerms false
example : True := by k_with_none; w_top off; trivial
example : (PySem.Challenge.rw_wn0020_01 = PySem.Challenge.rw_wn0020_01) ∧ (hd.heap_39 = hd.heap_39) := by k_fill; exact ⟨rfl, rfl⟩

def duesS : Stmt := (lawBody.drop 10).headD (.Pass default)

theorem off1_mem {D : Addr} : ∀ {l : List (Addr × Obj)}, Off1 D l → ∀ p ∈ l, p.1 ≠ D
  | [], _, _, h => nomatch h
  | _ :: _, x, p, h => by
    rcases List.mem_cons.mp h with rfl | h
    · exact x.1
    · exact off1_mem x.2 p h

theorem compLoop {prog : Program} {w : World} {A : Around} {h₀ : Heap} {L : Addr} {m : Str → Option Value} {env : Env} {elt : PySem.Expr} {x : Str} {scope : Scope} {cl : List (Str × Addr)} {s : Shared} {S : List (Addr × Obj) → Prop} {P : Nat → Value → Prop} {Fin : List Value → List (Addr × Obj) → Prop} {n : Nat}
    (Inv : Nat → List Value → List (Addr × Obj) → Prop)
    (turn : ∀ i ys news, i < n → Inv i ys news → ∀ v I oI C oC D m₂ h tk, P i v → NsObj oC m₂ → m₂ x = some v → Fr h₀ L h m → News h₀ L h ((I, oI) :: (C, oC) :: (D, lst ys) :: news) → Off3 I C D news → ((@Ne Nat I C) ∧ (@Ne Nat I D) ∧ (@Ne Nat C D)) →
      wpAny (model prog w) A (eval elt (compEnvC scope cl C env)) (CompEnd h₀ L m { s with heap := h, toks := tk } I oI C oC D (lst ys) S (fun y news' => Inv (i + 1) (ys ++ [y]) news')) NoE { s with heap := h, toks := tk })
    (fin : ∀ ys news, Inv n ys news → Fin ys news) : ∀ (k i : Nat) (ys : List Value) (news : List (Addr × Obj)), i + k = n → Inv i ys news → CompRest prog w A h₀ L m env elt x scope cl s S P Fin k i ys news
  | 0, i, ys, news, e, hI => CompRest.zero (fin ys news (by have : i = n := by omega
                                                            rw [← this]; exact hI))
  | k + 1, i, ys, news, e, hI => CompRest.succ fun v I oI C oC D m₂ h tk E' hv hoC hx F N off ne => by
    refine wpAny_mono (turn i ys news (by omega) hI v I oI C oC D m₂ h tk hv hoC hx F N off ne) (fun y s' hy => ?_) fun _ _ z => z.elim
    obtain ⟨h', tk', news', e1, F', N', off', hS, hr⟩ := hy
    exact ⟨h', tk', news', e1, F', N', off', hS, compLoop Inv turn fin k (i + 1) _ _ (by omega) hr⟩

abbrev prodLed (q : Addr × List Value × Nat) : Addr × Obj := (q.1, listO q.2.1 q.2.2)


set_option maxHeartbeats 4000000 in
theorem dues_c {prog : Program} {w : World} {s : Shared} {p : Program} {loose : List Str} {mean : ExcName → Option Value} {mg mb : Str → Option Value} {dp un : Nat} {gd : Option (List Code)} {outer : List Env} {A₀ : Around} {base g : Heap} {L fa aG a1 a2 a3 : Addr} {cdv : Value} {Q : Flow → Shared → Prop} {E : Value → Shared → Prop} {m : Str → Option Value} {rest : List (Addr × Obj)}
    {vG : List Value} {nG : Nat} {gains : List Int} {start step : Int} {u1 u2 : Tok} {c1 c2 c3 : Obj}
    (iG : IntsAre vG gains) (lG : gains.length = 4) (hs : 0 ≤ start ∧ start < 4096) (hp : 1 ≤ step ∧ step ≤ 4096) (hg0 : 1 ≤ gains.getD 0 0) (hg : ∀ j, 0 ≤ gains.getD j 0 ∧ gains.getD j 0 ≤ 3)
    (B' : Below A₀ base outer g) (X' : (hd.heap_39 w.params).In g) (T' : Top p loose mean mg mb g) (hdp : dp + 8 < recursionLimit) (hun : un + 8 * 8 < cLine)
    (F : Fr g L s.heap m) (N : News g L s.heap ((a1, c1) :: (a2, c2) :: (a3, c3) :: (aG, listO vG nG) :: rest)) (d1 : c1.data = .cell (some (.int start u1))) (d2 : c2.data = .cell (some (.int step u2))) (d3 : c3.data = .cell (some (.ref aG)))
    (hret : ∀ (aD : Addr) (q0 q1 q2 q3 : Addr × List Value × Nat) (nD : Nat) h' tk', IntsAre q0.2.1 (prodRow start step gains (((0 : Nat) : Int) + 1)) → IntsAre q1.2.1 (prodRow start step gains (((1 : Nat) : Int) + 1)) → IntsAre q2.2.1 (prodRow start step gains (((2 : Nat) : Int) + 1)) → IntsAre q3.2.1 (prodRow start step gains (((3 : Nat) : Int) + 1)) →
      Fr g L h' (fun z => if z = "dues" then some (.ref aD) else m z) →
      News g L h' ((aD, listO [.ref q0.1, .ref q1.1, .ref q2.1, .ref q3.1] nD) :: prodLed q3 :: prodLed q2 :: prodLed q1 :: prodLed q0 :: (a1, c1) :: (a2, c2) :: (a3, c3) :: (aG, listO vG nG) :: rest) →
      (∀ p ∈ (a1, c1) :: (a2, c2) :: (a3, c3) :: (aG, listO vG nG) :: rest, p.1 ≠ aD ∧ p.1 ≠ q0.1 ∧ p.1 ≠ q1.1 ∧ p.1 ≠ q2.1 ∧ p.1 ≠ q3.1) → Q .next { s with heap := h', toks := tk' }) :
    wpAny (model prog w) (ktrTop dp un gd (Str.ofString "law") lawS.1 L fa cdv [("gains", a3), ("step", a2), ("start", a1)] outer) (exec duesS (envX (Str.ofString "law") lawS.1 L fa cdv [("gains", a3), ("step", a2), ("start", a1)])) Q E s := by
  k_with_none
  (k_with "CompSrc" => ((refine stop ?_)))
  (k_with "call ref" => ((refine stop ?_)))
  have e1 : lawS = lawS := rfl
  conv at e1 => rhs; whnf
  have e2 : duesS = duesS := rfl
  conv at e2 => rhs; whnf
  rw [e1, e2]
  dsimp only
  clear e1 e2
  refine Assign_ListComp_U F rfl (by with_unfolding_all rfl) (by with_unfolding_all rfl) (by decide) rfl (by decide) (by rfl) (by rfl) (by rfl) ?_
  k_steps
  rename IsRange _ _ _ _ _ _ _ _ => hr
  rename Fr g L _ _ => F₀
  rename News g L _ _ => N₀
  refine Stop.go (CompSrc.range (n := 4) rfl F₀ N₀ hr (by decide) (by rfl) (by rw [sizeLine_eq]; decide) fun g₁ => ?_)
  refine compLoop (n := 4) (fun i ys news => ∃ prods : List (Addr × List Value × Nat), prods.length = i ∧ ys = prods.map (fun q => .ref q.1) ∧ news = prods.reverse.map prodLed ++ ((a1, c1) :: (a2, c2) :: (a3, c3) :: (aG, listO vG nG) :: rest) ∧
    (∀ (j : Nat) (q : Addr × List Value × Nat), prods[j]? = some q → IntsAre q.2.1 (prodRow start step gains ((j : Int) + 1))) ∧ ∀ q ∈ prods, ∀ p ∈ (a1, c1) :: (a2, c2) :: (a3, c3) :: (aG, listO vG nG) :: rest, p.1 ≠ q.1) ?_ ?_ 4 0 [] _ (by rfl) ⟨[], rfl, rfl, rfl, (fun j q h => nomatch h), (fun q h => nomatch h)⟩
  · clear F₀ N₀ hr hret
    rintro i ys news hi ⟨prods, hl, rfl, rfl, hP, hne⟩ v I oI C oC D m₂ h tk ⟨t, rfl⟩ hoC hx F₁ N₁ off ne
    generalize hpre : prods.reverse.map prodLed = pre at *
    have N₂ : News g L h ((I, oI) :: (C, oC) :: (D, lst (prods.map fun q => .ref q.1)) :: (a1, c1) :: (a2, c2) :: (a3, c3) :: (aG, listO vG nG) :: (pre ++ rest)) := newsSub N₁ fun p hp => by
      simp only [List.mem_cons, List.mem_append] at hp ⊢
      rcases hp with h | h | h | h | h | h | h | h | h <;> simp only [h, true_or, or_true]
    have hb : 1 ≤ 1 + (i : Int) ∧ 1 + (i : Int) ≤ 4 := by omega
    k_steps
    refine Stop.go (product_c hb iG lG hs hp hg0 hg (Site.near B' X' T' rfl (by assumption) (by assumption)) F₁ (newsSub N₂ (news' := (aG, listO vG nG) :: (I, oI) :: (C, oC) :: (D, lst (prods.map fun q => .ref q.1)) :: (a1, c1) :: (a2, c2) :: (a3, c3) :: (pre ++ rest)) fun p hp => by
      simp only [List.mem_cons, List.mem_append] at hp ⊢
      rcases hp with h | h | h | h | h | h | h | h | h <;> simp only [h, true_or, or_true]) ?_)
    intro D' vs n h' tk' hvs F₃ N₃ l3
    have hne' : ∀ p ∈ pre ++ ((a1, c1) :: (a2, c2) :: (a3, c3) :: (aG, listO vG nG) :: rest), @LT.lt Nat _ p.1 D' := fun p hp => l3 p (by
      simp only [List.mem_cons, List.mem_append] at hp ⊢
      rcases hp with h | h | h | h | h | h <;> simp only [h, true_or, or_true])
    dsimp only
    refine CompEnd.intro F₃ N₃ ((D', listO vs n) :: (pre ++ ((a1, c1) :: (a2, c2) :: (a3, c3) :: (aG, listO vG nG) :: rest))) (fun p hp => ?_) ⟨?_, off⟩ trivial ⟨prods ++ [(D', vs, n)], ?_, ?_, ?_, ?_, ?_⟩
    · simp only [List.mem_cons, List.mem_append] at hp ⊢
      rcases hp with h | h | h | h | h | h | h | h | h | h <;> simp only [h, true_or, or_true]
    · have b1 : @LT.lt Nat _ I D' := l3 (I, oI) (by simp)
      have b2 : @LT.lt Nat _ C D' := l3 (C, oC) (by simp)
      have b3 : @LT.lt Nat _ D D' := l3 (D, lst (prods.map fun q => .ref q.1)) (by simp)
      exact ⟨Nat.ne_of_gt b1, Nat.ne_of_gt b2, Nat.ne_of_gt b3⟩
    · rw [List.length_append, hl]; rfl
    · rw [List.map_append]; rfl
    · rw [List.reverse_append, List.map_append, hpre]; rfl
    · intro j q hq
      by_cases hj : j < prods.length
      · rw [List.getElem?_append_left hj] at hq
        exact hP j q hq
      · rw [List.getElem?_append_right (by omega)] at hq
        have : j - prods.length = 0 := by
          cases hd : j - prods.length with
          | zero => rfl
          | succ d => rw [hd] at hq; cases hq
        rw [this] at hq
        cases hq
        rw [show (j : Int) + 1 = 1 + (i : Int) from by omega]
        exact hvs
    · intro q hq p hp
      rcases List.mem_append.mp hq with hq | hq
      · exact hne q hq p hp
      · rw [List.mem_singleton.mp hq]
        exact Nat.ne_of_lt (hne' p (List.mem_append_right _ hp))
  · rintro ys news ⟨prods, hl, rfl, rfl, hP, hne⟩
    match prods, hl with
    | [q0, q1, q2, q3], _ =>
      intro D h tk F' N' o1
      have o2 := off1_mem o1
      refine hret D q0 q1 q2 q3 _ h tk (hP 0 _ rfl) (hP 1 _ rfl) (hP 2 _ rfl) (hP 3 _ rfl) F' N' fun p hp => ⟨o2 p (List.mem_append_right _ hp), hne q0 (by simp) p hp, hne q1 (by simp) p hp, hne q2 (by simp) p hp, hne q3 (by simp) p hp⟩
end

section
open PySem PySem.W PyProof PyProof.Rows PySem.Calls PySem.Spec PyProof.Rows.LCg
set_option Elab.async false
set_option maxRecDepth 100000
set_option pp.deepTerms false
example : True := by k_with_none; w_top off; trivial
example : (PySem.Challenge.rw_wn0020_01 = PySem.Challenge.rw_wn0020_01) ∧ (hd.heap_39 = hd.heap_39) := by k_fill; exact ⟨rfl, rfl⟩

/-- law's statements from the text on -/
def lawTail : List Stmt := lawBody.drop 5

def gainsOk (g : List Int) : Bool := decide (g.length = 4) && decide (1 ≤ g.getD 0 0) && ([0, 1, 2, 3].all fun j => decide (0 ≤ g.getD j 0) && decide (g.getD j 0 ≤ 3)) && ([0, 1, 2, 3].all fun k => decide (0 ≤ (g.take (k + 1)).sum) && decide ((g.take (k + 1)).sum ≤ 8)) && g.all fun x => decide (0 ≤ x) && decide (x ≤ 3)
theorem gains_ok : (gainLists.all gainsOk) = true := by decide +kernel
structure GainsOk (g : List Int) : Prop where
  len : g.length = 4
  first : 1 ≤ g.getD 0 0
  small : ∀ j, 0 ≤ g.getD j 0 ∧ g.getD j 0 ≤ 3
  size : ∀ k, k < 4 → 0 ≤ (g.take (k + 1)).sum ∧ (g.take (k + 1)).sum ≤ 8
  each : ∀ x ∈ g, 0 ≤ x ∧ x ≤ 3
theorem gainsOk_of {g : List Int} (h : g ∈ gainLists) : GainsOk g := by
  have h1 := List.all_eq_true.mp gains_ok g h
  unfold gainsOk at h1
  simp only [Bool.and_eq_true, decide_eq_true_eq, List.all_eq_true, List.mem_cons, List.not_mem_nil, or_false, forall_eq_or_imp, forall_eq] at h1
  obtain ⟨⟨⟨⟨l, f⟩, s0, s1, s2, s3⟩, z0, z1, z2, z3⟩, e⟩ := h1
  refine ⟨l, f, fun j => ?_, fun k hk => ?_, e⟩
  · by_cases hj : j < 4
    · have : j = 0 ∨ j = 1 ∨ j = 2 ∨ j = 3 := by omega
      rcases this with rfl | rfl | rfl | rfl
      · exact s0
      · exact s1
      · exact s2
      · exact s3
    · rw [List.getD_eq_getElem?_getD, List.getElem?_eq_none (by omega)]; decide
  · have : k = 0 ∨ k = 1 ∨ k = 2 ∨ k = 3 := by omega
    rcases this with rfl | rfl | rfl | rfl
    · exact z0
    · exact z1
    · exact z2
    · exact z3

theorem sizes_eq (gains : List Int) : List.map (fun k' : Int => if (List.take (k' + 1).toNat gains).length = min (k' + 1).toNat gains.length ∧ (List.take (k' + 1).toNat gains).length ≤ gains.length then (List.take (k' + 1).toNat gains).sum else k') (rangeKs 0 ((4 : Int) - 0).toNat) = [(gains.take 1).sum, (gains.take 2).sum, (gains.take 3).sum, (gains.take 4).sum] := by
  have e : rangeKs 0 ((4 : Int) - 0).toNat = [0, 1, 2, 3] := by decide
  have c : ∀ n : Nat, (List.take n gains).length = min n gains.length ∧ (List.take n gains).length ≤ gains.length := fun n => by rw [List.length_take]; exact ⟨rfl, Nat.min_le_right _ _⟩
  rw [e]
  simp only [List.map_cons, List.map_nil, if_pos (c _)]
  rfl

def sizesL (gains : List Int) : List Int := [(gains.take 1).sum, (gains.take 2).sum, (gains.take 3).sum, (gains.take 4).sum]
theorem sizes_at {gains : List Int} (g : GainsOk gains) (i : Nat) (hi : i < 4) : (sizesL gains).getD i 0 = (sizeS gains i : Int) ∧ sizeS gains i ≤ 8 := by
  have hz := g.size i hi
  have e : (sizesL gains).getD i 0 = (gains.take (i + 1)).sum := by
    have : i = 0 ∨ i = 1 ∨ i = 2 ∨ i = 3 := by omega
    rcases this with rfl | rfl | rfl | rfl <;> rfl
  rw [e]
  unfold sizeS
  omega
theorem sizes_sum {gains : List Int} (g : GainsOk gains) : (sizesL gains).sum = (allS gains : Int) ∧ allS gains ≤ 32 := by
  have h0 := sizes_at g 0 (by omega)
  have h1 := sizes_at g 1 (by omega)
  have h2 := sizes_at g 2 (by omega)
  have h3 := sizes_at g 3 (by omega)
  have e : (sizesL gains).sum = (sizesL gains).getD 0 0 + (sizesL gains).getD 1 0 + (sizesL gains).getD 2 0 + (sizesL gains).getD 3 0 := by
    simp only [sizesL, List.sum_cons, List.sum_nil, List.getD_cons_zero, List.getD_cons_succ]; omega
  rw [e, h0.1, h1.1, h2.1, h3.1]
  unfold allS
  omega
theorem cnt_count (c : Nat) : ∀ l : List Nat, cnt c l = ((l.count c : Nat) : Int)
  | [] => rfl
  | n :: r => by
    rw [cnt_cons, cnt_count c r, List.count_cons]
    by_cases h : n = c
    · simp [h]; omega
    · simp [h]
theorem count_nl (z : PySem.Str) : Txt.count z (Str.ofString "\n") = ((z.cps.toList.count 10 : Nat) : Int) := by
  rw [show Str.ofString "\n" = ⟨#[10]⟩ from by decide, count_cnt, cnt_count]
theorem off_lex {P : Params} {c : LexC} {ln : Int} {t1 tp : Tok} {k np npb : Nat} {pbl : List Value} {D : Addr} (h : ∀ p ∈ lexLed P c ln t1 k tp np pbl npb, p.1 ≠ D) : D ∉ lexAddr c := fun hm => by
  have : D ∈ (lexLed P c ln t1 k tp np pbl npb).map (·.1) := hm
  obtain ⟨p, hp, e⟩ := List.mem_map.mp this
  exact h p hp e


set_option maxHeartbeats 4000000 in
theorem tail_c {prog : Program} {w : World} {s : Shared} {p : Program} {loose : List Str} {mean : ExcName → Option Value} {mg mb : Str → Option Value} {dp un : Nat} {gd : Option (List Code)} {outer : List Env} {A₀ : Around} {base g : Heap} {L fa aT aD aG a1 a2 a3 : Addr} {cdv : Value} {Q : Flow → Shared → Prop} {E : Value → Shared → Prop}
    {vScript : Value} {vT vD vG : List Value} {nT nD nG : Nat} {drawn gains : List Int} {start step : Int} {u1 u2 : Tok} {c1 c2 c3 : Obj}
    (C0 : CodeHd g 83 79) (iT : IntsAre vT (start :: step :: gains)) (iD : IntsAre vD drawn) (iG : IntsAre vG gains) (lD : drawn.length = 6) (hs : 0 ≤ start ∧ start < 4096) (hp : 1 ≤ step ∧ step ≤ 4096) (hg : gains ∈ gainLists)
    (B' : Below A₀ base outer g) (X' : (hd.heap_39 w.params).In g) (T' : Top p loose mean mg mb g) (hdp : dp + 8 < recursionLimit) (hun : un + 8 * 8 < cLine)
    (F : Fr g L s.heap (bo [("script", some vScript), ("drawn", some (.ref aD)), ("told", some (.ref aT))]))
    (N : News g L s.heap [(79, tabObj #[]), (aT, listO vT nT), (aD, listO vD nD), (aG, listO vG nG), (a1, c1), (a2, c2), (a3, c3)]) (d1 : c1.data = .cell (some (.int start u1))) (d2 : c2.data = .cell (some (.int step u2))) (d3 : c3.data = .cell (some (.ref aG)))
    (hoff : ∀ p ∈ [(aT, listO vT nT), (aD, listO vD nD), (aG, listO vG nG), (a1, c1), (a2, c2), (a3, c3)], p.1 ≠ 79)
    (hret : ∀ h' tk' m' news' ps, Fr g L h' m' → News g L h' ((79, tabObj ps) :: news') → Q (.ret (.bool true)) { s with heap := h', toks := tk' }) :
    wpAny (model prog w) (ktrTop dp un gd (Str.ofString "law") lawS.1 L fa cdv [("gains", a3), ("step", a2), ("start", a1)] outer) (execs lawTail (envX (Str.ofString "law") lawS.1 L fa cdv [("gains", a3), ("step", a2), ("start", a1)])) Q E s := by
  k_with_none
  (k_with "mine sub" => (first
      | exact List.forall_mem_nil _
      | exact List.forall_mem_cons.mpr ⟨by k_mem, by walk_at "mine sub"⟩))
  (k_with "call ref" => ((refine stop ?_)))
  (k_with "exec Assign cons ListComp" => (((with_reducible show wpAny _ _ (exec (Stmt.Assign [PySem.Expr.Name (Str.ofString "dues") _] _ _) _) _ _ _); refine stop ?_)))
  (k_with "exec For Name Call cons nil" => ((refine stop ?_)))
  (k_with "exec For Name Name cons nil" => ((refine stop ?_)))
  have e1 : lawS = lawS := rfl
  conv at e1 => rhs; whnf
  have e2 : lawTail = lawTail := rfl
  conv at e2 => rhs; whnf
  have hTold := @told_c
  have hPushes := @pushes_c
  have hTurns := @turns_c
  have hDues := @dues_c
  have e3 : duesS = duesS := rfl
  conv at e3 => rhs; whnf
  rw [e1] at hTold hPushes hTurns
  rw [e1, e3] at hDues
  rw [e1, e2]
  dsimp only at hTold hPushes hTurns hDues ⊢
  clear e1 e2 e3
  dsimp only [bo] at F
  have gok := gainsOk_of hg
  have hb : ∀ x ∈ start :: step :: gains, 0 ≤ x ∧ x < 2 ^ 64 := fun x hx => by
    rcases List.mem_cons.mp hx with rfl | hx
    · omega
    rcases List.mem_cons.mp hx with rfl | hx
    · omega
    · have := gok.each x hx; omega
  have lT : (start :: step :: gains).length = 6 := by simp [gok.len]
  k_steps
  refine Stop.go (text_c (vT := vT) (vD := vD) (nT := nT) (nD := nD) (told := start :: step :: gains) (drawn := drawn) (by k_mem) (by k_mem) iT iD lT lD hb (Site.near B' X' T' rfl (by assumption) (by assumption)) F N ?_)
  intro tz h₁ tk₁ F₁ N₁
  have hzl : (⟨(textTo (start :: step :: gains) drawn 6).toArray⟩ : PySem.Str).length ≤ 210 := by
    have := textTo_len (drawn := drawn) hb 6
    simpa [PySem.Str.length] using this
  have hzd : (⟨(textTo (start :: step :: gains) drawn 6).toArray⟩ : PySem.Str).cps.toList.drop 0 = textTo (start :: step :: gains) drawn 6 := by simp
  generalize hz : (⟨(textTo (start :: step :: gains) drawn 6).toArray⟩ : PySem.Str) = z at hzl hzd ⊢
  clear F N
  k_steps
  refine Stop.go (lexer_c C0 (by omega) hoff (Site.near B' X' T' rfl (by assumption) (by assumption)) (by assumption) (by assumption) ?_)
  intro c t1 tp np npb ps h₂ tk₂ C F₂ N₂ hoff₂
  k_steps
  rename Fr g L _ _ => F₃
  rename News g L _ _ => N₃
  refine Stop.go (hTold (told := start :: step :: gains) (drawn := drawn) (k := 0) (o₀ := none) (T := 1 + ((z.cps.toList.drop 0).count 10 : Nat)) C hzd iT lT hb (Nat.zero_le _) B' X' T' (by omega) (by omega) (frBo F₃ _ ⟨rfl, rfl, rfl, rfl, rfl, rfl, trivial⟩ (fun y hy => by simp only [Off] at hy; simp [hy])) N₃ (by k_mem) hoff₂ rfl ?_)
  intro ln t1' k tp' np' npb' o h₃ tk₃ hS hT hk F₄ N₄
  clear F₃ N₃
  have F₅ := F₄
  dsimp only [bo] at F₅
  clear F₄
  have N₅ : News g L h₃ ((aG, listO vG nG) :: (a3, c3) :: (lexLed w.params c ln t1' k tp' np' [] npb' ++ (a1, c1) :: (a2, c2) :: [(79, tabObj ps), (aT, listO vT nT), (aD, listO vD nD), (aG, listO vG nG), (a3, c3)])) := newsSub N₄ fun p hp => by
    rcases List.mem_cons.mp hp with rfl | hp
    · k_mem
    rcases List.mem_cons.mp hp with rfl | hp
    · k_mem
    rcases List.mem_append.mp hp with hp | hp
    · exact List.mem_append_left _ hp
    · simp only [List.mem_cons, List.not_mem_nil, or_false] at hp
      rcases hp with rfl | rfl | rfl | rfl | rfl | rfl | rfl <;> k_mem
  clear N₄
  k_steps
  rename_i aS _ _ F₆ N₆ oS
  rename IntsAre _ (List.map _ _) => iS
  rw [sizes_eq] at iS
  have hsz := sizes_sum gok
  have offS : aS ∉ lexAddr c := off_lex fun p hp => off1_mem oS.2.2 p (List.mem_append_left _ hp)
  have N₇ : News g L _ (lexLed w.params c ln t1' k tp' np' [] npb' ++ (a1, c1) :: (a2, c2) :: [(aS, listO ys ys.length), (79, tabObj ps), (aT, listO vT nT), (aD, listO vD nD), (aG, listO vG nG), (a3, c3)]) := newsSub N₆ (List.forall_mem_append.mpr ⟨fun _ h => .tail _ (.tail _ (.tail _ (List.mem_append_left _ h))), by walk_at "mine sub"⟩)
  refine Stop.go (hPushes (sizes := sizesL gains) (n := allS gains) (o₀ := none) (vNumber := o) C iS hsz.1 (by omega) hs hp (by simp [sizesL]) B' X' T' (by omega) (by omega) (frBo F₆ _ ⟨rfl, rfl, rfl, rfl, rfl, rfl, rfl, rfl, trivial⟩ (fun y hy => by simp only [Off] at hy; simp [hy])) N₇ d1 d2 (by k_mem) (fun p hp => ?_) ?_)
  · rcases List.mem_cons.mp hp with rfl | hp
    · exact hoff₂ _ (by k_mem)
    rcases List.mem_cons.mp hp with rfl | hp
    · exact hoff₂ _ (by k_mem)
    rcases List.mem_cons.mp hp with rfl | hp
    · exact offS
    · exact hoff₂ p (by
        simp only [List.mem_cons, List.not_mem_nil, or_false] at hp ⊢
        rcases hp with h | h | h | h | h <;> simp only [h, true_or, or_true])
  intro qv npb₈ o₈ h₈ tk₈ hW F₈ N₈
  have F₉ := F₈
  dsimp only [bo] at F₉
  clear F₆ N₆ N₇ F₈
  k_steps
  rename Fr g L _ _ => F₁₀
  have N₉ : News g L h₈ ((a1, c1) :: (a2, c2) :: (a3, c3) :: (aG, listO vG nG) :: (lexLed w.params c ln t1' k tp' np' qv npb₈ ++ [(aS, listO ys ys.length), (79, tabObj ps)])) := newsSub N₈ (List.forall_mem_cons.mpr ⟨by k_mem, List.forall_mem_cons.mpr ⟨by k_mem, List.forall_mem_cons.mpr ⟨by k_mem, List.forall_mem_cons.mpr ⟨by k_mem, List.forall_mem_append.mpr ⟨fun _ h => List.mem_append_left _ h, by walk_at "mine sub"⟩⟩⟩⟩⟩)
  refine Stop.go (hDues iG gok.len hs hp gok.first gok.small B' X' T' hdp hun F₁₀ N₉ d1 d2 d3 ?_)
  intro aU q0 q1 q2 q3 nU h₁₀ tk₁₀ i0 i1 i2 i3 F₁₁ N₁₁ offU
  clear F₁₀ N₈ N₉
  k_steps
  have N₁₂ : News g L h₁₀ (lexLed w.params c ln t1' k tp' np' qv npb₈ ++ [(aU, listO [.ref q0.1, .ref q1.1, .ref q2.1, .ref q3.1] nU), prodLed q3, prodLed q2, prodLed q1, prodLed q0, (aS, listO ys ys.length), (79, tabObj ps)]) := newsSub N₁₁ (List.forall_mem_append.mpr ⟨fun _ h => .tail _ (.tail _ (.tail _ (.tail _ (.tail _ (.tail _ (.tail _ (.tail _ (.tail _ (List.mem_append_left _ h))))))))), by walk_at "mine sub"⟩)
  have offL : ∀ p ∈ lexLed w.params c ln t1' k tp' np' qv npb₈, p.1 ≠ aU ∧ p.1 ≠ q0.1 ∧ p.1 ≠ q1.1 ∧ p.1 ≠ q2.1 ∧ p.1 ≠ q3.1 := fun p hp => offU p (.tail _ (.tail _ (.tail _ (.tail _ (List.mem_append_left _ hp)))))
  have four : ∀ i : Nat, i < 4 → i = 0 ∨ i = 1 ∨ i = 2 ∨ i = 3 := fun i h => by omega
  have hlaw := turns_law hs hp hg
  refine Stop.go (hTurns (S := sizeS gains) (sizes := sizesL gains) (pD := fun i => [q0.1, q1.1, q2.1, q3.1].getD i 0) (vP := fun i => [q0.2.1, q1.2.1, q2.2.1, q3.2.1].getD i []) (nP := fun i => [q0.2.2, q1.2.2, q2.2.2, q3.2.2].getD i 0) (rows := fun i => prodRow start step gains ((i : Int) + 1)) (vNumber := o) (oK := o₈) (oT := none) (oTot := none) (oL := none) (oW := none) C iS (by simp [sizesL]) (sizes_at gok)
    (fun i hi => ?_) (fun i hi => ?_) hW ?_ hlaw B' X' T' (by omega) (by omega) (frBo F₁₁ _ ⟨rfl, rfl, rfl, rfl, rfl, rfl, rfl, rfl, rfl, rfl, rfl, rfl, rfl, trivial⟩ (fun y hy => by simp only [Off] at hy; simp [hy])) N₁₂ (by k_mem) (by k_mem) (fun i hi => ?_) (fun p hp => ?_) ?_)
  · rcases four i hi with rfl | rfl | rfl | rfl
    · exact i0
    · exact i1
    · exact i2
    · exact i3
  · rcases four i hi with rfl | rfl | rfl | rfl <;> rfl
  · rw [List.length_map, List.length_range]; omega
  · rcases four i hi with rfl | rfl | rfl | rfl
    · show prodLed q0 ∈ _; k_mem
    · show prodLed q1 ∈ _; k_mem
    · show prodLed q2 ∈ _; k_mem
    · show prodLed q3 ∈ _; k_mem
  · rcases List.mem_cons.mp hp with rfl | hp
    · exact off_lex fun p hp => (offL p hp).1
    rcases List.mem_cons.mp hp with rfl | hp
    · exact off_lex fun p hp => (offL p hp).2.2.2.2
    rcases List.mem_cons.mp hp with rfl | hp
    · exact off_lex fun p hp => (offL p hp).2.2.2.1
    rcases List.mem_cons.mp hp with rfl | hp
    · exact off_lex fun p hp => (offL p hp).2.2.1
    rcases List.mem_cons.mp hp with rfl | hp
    · exact off_lex fun p hp => (offL p hp).2.1
    rcases List.mem_cons.mp hp with rfl | hp
    · exact offS
    rw [List.mem_singleton.mp hp]
    exact hoff₂ _ (by k_mem)
  intro qv' npb₁₁ oK oT oTot oL oW h₁₁ tk₁₁ hW' F₁₂ N₁₃
  cases hW'
  clear F₁₁ N₁₁ N₁₂
  dsimp only [bo, turnBo] at F₁₂
  dsimp only [lexLed] at N₁₃
  k_steps
  rename Fr g L _ _ => F₁₄
  rename News g L _ _ => N₁₄
  refine Stop.go (getread_c (e := 18) (tok := []) (rest := []) (ln := ln) (t1 := t1') (tp := tp') (np := np') (npb := npb₁₁) C (by omega) hk (stage_end _ _ hS) (Site.near B' X' T' rfl (by assumption) (by assumption)) F₁₄ (newsSub N₁₄ (fun p hp => ?_)) ?_)
  · dsimp only [lexLed] at hp
    simp only [List.mem_cons, List.mem_append, List.not_mem_nil, or_false] at hp ⊢
    rcases hp with h | h | h | h | h | h | h | h | h | h <;> simp only [h, true_or, or_true]
  intro t₁₅ ln₁₅ t1₁₅ tp₁₅ np₁₅ npb₁₅ k₁₅ h₁₅ tk₁₅ hd₁₅ hk₁₅ hT₁₅ F₁₅ N₁₅ K₁₅
  have N₁₆ : News g L h₁₅ (lexLed w.params c ln₁₅ t1₁₅ k₁₅ tp₁₅ np₁₅ [] npb₁₅ ++ [(79, tabObj ps)]) := fun p hp => by
    rcases List.mem_append.mp hp with hp | hp
    · exact N₁₅ p hp
    · rw [List.mem_singleton.mp hp]
      have n := N₁₄ (79, tabObj ps) (by k_mem)
      exact ⟨K₁₅ _ _ (hoff₂ (79, tabObj ps) (by k_mem)) n.1, n.2⟩
  clear N₁₄ N₁₅ K₁₅
  dsimp only [lexLed] at N₁₆
  k_steps
  rename Fr g L _ _ => F₁₇
  have hend : (ln₁₅ == 1 + Txt.count z (Str.ofString "\n")) = true := by
    rw [count_nl, beq_iff_eq]
    rw [List.drop_zero] at hT
    simp only [List.count_nil] at hT₁₅
    omega
  rw [hend]
  exact hret _ _ _ _ _ F₁₇ (newsSub N₁₆ fun p hp => List.mem_append_right _ hp)
end

section
open PySem PySem.W PyProof PyProof.Rows PySem.Calls PySem.Spec PyProof.Rows.LCg
set_option Elab.async false
set_option maxRecDepth 100000
set_option pp.deepTerms false
example : True := by k_with_none; w_top off; trivial
example : (PySem.Challenge.rw_wn0020_01 = PySem.Challenge.rw_wn0020_01) ∧ (hd.heap_39 = hd.heap_39) := by k_fill; exact ⟨rfl, rfl⟩

theorem bodyLed {g h : Heap} {L aT lx aG aD b1 b2 b3 : Addr} {x0 x1 x2 x3 x4 x5 : Int} {t0 t1 t2 t3 t4 t5 s2 s3 s4 s5 : Tok} {olx o1 o2 o3 : Obj} {wD : List Value}
    (N : News g L h [(aT, W.listOf #[.int x0 t0, .int x1 t1, .int x2 t2, .int x3 t3, .int x4 t4, .int x5 t5] 0), (lx, olx), (aG, W.listOf #[.int x2 s2, .int x3 s3, .int x4 s4, .int x5 s5] 0), (aD, listO wD 0), (b3, o3), (b2, o2), (b1, o1), (79, tabObj #[])]) :
    ∃ vT vG, IntsAre vT [x0, x1, x2, x3, x4, x5] ∧ IntsAre vG [x2, x3, x4, x5] ∧ News g L h [(79, tabObj #[]), (aT, listO vT 0), (aD, listO wD 0), (aG, listO vG 0), (b1, o1), (b2, o2), (b3, o3)] :=
  ⟨[.int x0 t0, .int x1 t1, .int x2 t2, .int x3 t3, .int x4 t4, .int x5 t5], [.int x2 s2, .int x3 s3, .int x4 s4, .int x5 s5], .cons _ _ (.cons _ _ (.cons _ _ (.cons _ _ (.cons _ _ (.cons _ _ .nil))))), .cons _ _ (.cons _ _ (.cons _ _ (.cons _ _ .nil))), newsSub N fun p hp => by
    simp only [List.mem_cons, List.not_mem_nil, or_false] at hp ⊢
    rcases hp with h | h | h | h | h | h | h <;> simp only [h, true_or, or_true]⟩
theorem gains_mem {a b c d : Int} (ha : 1 ≤ a ∧ a ≤ 3) (hb : 0 ≤ b ∧ b ≤ 2) (hc : 0 ≤ c ∧ c ≤ 1) (hd : 0 ≤ d ∧ d ≤ 1) : [a, b, c, d] ∈ gainLists := by
  unfold gainLists
  refine List.mem_flatMap.mpr ⟨a, ?_, List.mem_flatMap.mpr ⟨b, ?_, List.mem_flatMap.mpr ⟨c, ?_, List.mem_map.mpr ⟨d, ?_, rfl⟩⟩⟩⟩
  · simp only [List.mem_cons, List.not_mem_nil, or_false]; omega
  · simp only [List.mem_cons, List.not_mem_nil, or_false]; omega
  · simp only [List.mem_cons, List.not_mem_nil, or_false]; omega
  · simp only [List.mem_cons, List.not_mem_nil, or_false]; omega
theorem mod_in (x : Int) (n : Int) (h : 0 < n) : 0 ≤ x.fmod n ∧ x.fmod n < n := ⟨Int.fmod_nonneg_of_pos x h, Int.fmod_lt_of_pos x h⟩



set_option maxHeartbeats 4000000 in
theorem body_c {prog : Program} {w : World} {s : Shared} {p : Program} {loose : List Str} {mean : ExcName → Option Value} {mg mb : Str → Option Value} {dp un : Nat} {gd : Option (List Code)} {outer : List Env} {A₀ : Around} {base g : Heap} {L fa aX : Addr} {cdv : Value} {Q : Flow → Shared → Prop} {E : Value → Shared → Prop}
    {vs : List Value} {ns : List Int} {c1 c2 c3 : Obj}
    (C0 : CodeHd g 83 79) (hL : g.IsList aX vs.toArray) (hI : IntsAre vs ns) (hlen : ns.length ≤ 63) (h79 : @LT.lt Nat _ 79 L)
    (B' : Below A₀ base outer g) (X' : (hd.heap_39 w.params).In g) (T' : Top p loose mean mg mb g) (hdp : dp + 8 < recursionLimit) (hun : un + 8 * 8 < cLine)
    (F : Fr g L s.heap (bo [("script", some (.ref aX))]))
    (N : News g L s.heap [(L + 1 + 1 + 1, c3), (L + 1 + 1, c2), (L + 1, c1), (79, tabObj #[])]) (d1 : c1.data = .cell none) (d2 : c2.data = .cell none) (d3 : c3.data = .cell none)
    (hret : ∀ h' tk' m' news' ps, Fr g L h' m' → News g L h' ((79, tabObj ps) :: news') → Q (.ret (.bool true)) { s with heap := h', toks := tk' }) :
    wpAny (model prog w) (ktrTop dp un gd (Str.ofString "law") lawS.1 L fa cdv [("gains", L + 1 + 1 + 1), ("step", L + 1 + 1), ("start", L + 1)] outer) (execs lawBody (envX (Str.ofString "law") lawS.1 L fa cdv [("gains", L + 1 + 1 + 1), ("step", L + 1 + 1), ("start", L + 1)])) Q E s := by
  k_with_none
  (k_with "execs cons" => (((with_reducible show wpAny _ _ (execs (Stmt.Assign [PySem.Expr.Name (Str.ofString "text") _] _ _ :: _) _) _ _ _); refine stop ?_)))
  (k_with "execs cons" => (((with_reducible show wpAny _ _ (execs (Stmt.Assign [PySem.Expr.Name (Str.ofString "start") _] _ _ :: _) _) _ _ _); refine stop ?_)))
  (k_with "subscriptTail Name Slice ref ref" => (((with_reducible show wpAny _ _ (subscriptTail _ (PySem.Expr.Slice (some _) none none _) _ _) _ _ _); k_dflt (refine kmk_slice_ints (by k_asm) (by k_asm) (News.isList (by k_asm) (by k_mem)) (by kmk_part) (by kmk_part) (by l_ints) (kmk_from (by l_ints) (by omega)) (by kmk_len) ?_ (by with_unfolding_all rfl) (by kmk_pure) (by kmk_size)); intro _ _ _ _ _ l1 _ _ _; k_lt l1; (try (revert l1; intro _)))))
  have e1 : lawS = lawS := rfl
  conv at e1 => rhs; whnf
  have e2 : lawBody = lawBody := rfl
  conv at e2 => rhs; whnf
  have e3 : lawTail = lawTail := rfl
  conv at e3 => rhs; whnf
  have hTail := @tail_c
  rw [e1, e3] at hTail
  rw [e1, e2]
  dsimp only at hTail ⊢
  clear e1 e2 e3
  dsimp only [bo] at F
  k_steps
  rename IntsAre _ (_ ++ _) => iD
  rename Fr g L _ _ => F₁
  rename_i aD wD _ lA _ N₁
  have lD : (List.take 6 ns ++ List.drop (((List.take 6 ns).length : Int)).toNat [5, 16386, 32770, 36865, 0, 4097]).length = 6 := by
    rw [List.length_append, List.length_drop, Int.toNat_natCast, List.length_take]
    simp only [List.length_cons, List.length_nil]
    omega
  generalize (List.take 6 ns ++ List.drop (((List.take 6 ns).length : Int)).toNat [5, 16386, 32770, 36865, 0, 4097]) = dr at iD lD
  have N₂ : News g L _ [(aD, listO wD 0), (L + 1 + 1 + 1, c3), (L + 1 + 1, c2), (L + 1, c1), (79, tabObj #[])] := newsSub N₁ fun p hp => by
    simp only [List.mem_cons, List.not_mem_nil, or_false] at hp ⊢
    rcases hp with h | h | h | h | h <;> simp only [h, true_or, or_true]
  clear N₁
  refine Stop.go (wpAny_execs_cons ?_)
  k_steps
  rename Fr g L _ _ => F₃
  rename News g L _ _ => N₃
  rename_i o1 dd1 _ _ o2 dd2 _ _ _ _ aG _ lG _ o3 dd3 lx _ l1b aT _ lT _
  obtain ⟨vT, vG, iT, iG, N₄⟩ := bodyLed N₃
  clear N₃
  have m0 := mod_in (dr.getD (Int.toNat 0) 0) 4096 (by decide)
  have m1 := mod_in (dr.getD (Int.toNat 1) 0) 4096 (by decide)
  have m2 := mod_in (dr.getD (Int.toNat 2) 0) 3 (by decide)
  have m3 := mod_in (dr.getD (Int.toNat 3) 0) 3 (by decide)
  have m4 := mod_in (dr.getD (Int.toNat 4) 0) 2 (by decide)
  have m5 := mod_in (dr.getD (Int.toNat 5) 0) 2 (by decide)
  refine Stop.go (hTail (aT := aT) (aD := aD) (aG := aG) (a1 := L + 1) (a2 := L + 1 + 1) (a3 := L + 1 + 1 + 1) (c1 := o1) (c2 := o2) (c3 := o3) (vD := wD) (vT := vT) (vG := vG) (nD := 0) (nT := 0) (nG := 0) (drawn := dr) (vScript := .ref aX)
    (gains := [(dr.getD (Int.toNat 2) 0).fmod 3 + 1, (dr.getD (Int.toNat 3) 0).fmod 3, (dr.getD (Int.toNat 4) 0).fmod 2, (dr.getD (Int.toNat 5) 0).fmod 2]) (start := (dr.getD (Int.toNat 0) 0).fmod 4096) (step := (dr.getD (Int.toNat 1) 0).fmod 4096 + 1)
    C0 iT iD iG lD m0 (by omega) (gains_mem (by omega) (by omega) (by omega) (by omega)) B' X' T' hdp hun
    (frBo F₃ _ ⟨rfl, rfl, rfl, trivial⟩ (fun y hy => by simp only [Off] at hy; simp [hy])) N₄ dd1 dd2 dd3 (fun p hp => ?_) ?_)
  · simp only [List.mem_cons, List.not_mem_nil, or_false] at hp
    rcases hp with rfl | rfl | rfl | rfl | rfl | rfl <;> (show @Ne Nat _ _; dsimp only; omega)
  · exact fun h' tk' m' news' ps F' N' => hret h' tk' m' news' ps F' N'
end

section
open PySem PySem.W PyProof PyProof.Rows PySem.Calls PySem.Spec PyProof.Rows.LCg
set_option Elab.async false
set_option maxRecDepth 100000
set_option pp.deepTerms false
example : True := by k_with_none; w_top off; trivial
set_option maxHeartbeats 8000000 in
theorem law1 : PySem.Challenge.rw_wn0020_01.Holds := hd (by
  k_go0
  all_goals (try k_fold)
  clear hT8 hT9
  have e1 : lawS = lawS := rfl
  conv at e1 => rhs; whnf
  have e2 : lawBody = lawBody := rfl
  conv at e2 => rhs; whnf
  have hB := @body_c
  rw [e1, e2] at hB
  dsimp only at hB ⊢
  clear e1 e2
  refine hB (dp := 302) (un := 7) (gd := some []) (outer := []) codeHd lifted (by assumption) (by omega) (by omega) (by assumption) (by assumption) (by assumption) (by decide) (by decide) (by assumption) (by assumption) (by assumption) (by assumption) (by assumption) ?_
  intro h' tk' m' news' ps F' N'
  clear hB
  k_steps)
end

end Mine

theorem PySem.Challenge.cw_wn0020_01_holds : PySem.Challenge.rw_wn0020_01.Holds :=
  Mine.law1
