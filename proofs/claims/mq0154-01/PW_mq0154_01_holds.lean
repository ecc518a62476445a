import PyProof.Rows.All
import Wide.All
import OpenK.AllK
import Wide.FinOn
import Lean
import PySem.Challenge.RW_mq0154_01
set_option Elab.async false
set_option maxRecDepth 100000
set_option linter.all false

namespace Mine
open PySem PySem.W PyProof.Rows
set_option maxHeartbeats 8000000 in
open_top hd for PySem.Challenge.rw_mq0154_01
end Mine

/- part MBase -/
theorem Mine.offMBase : True := by
  w_top off
  trivial
namespace Mine
open PySem PySem.Spec PySem.Calls PySem.W PyProof.Rows

abbrev aTop (dp un : Nat) (gd : Option (List Code)) (outer : List Env) : Around := { handled := none, depth := dp, frames := some outer, guards := gd, units := un }

section
variable {prog : Program} {w : World} {A : Around} {s : Shared} {K : Frag} {p : Program} {loose : List Str} {mean : ExcName → Option Value} {mg mb : Str → Option Value}
  {R : Result → Shared → Prop} {name qual : Str} {params : Arguments} {body : List Stmt} {scope : Scope} {dV kV doc pm cdv ct oc : Value} {an od : Option Addr} {osl : Array (Option Value)} {f : Addr} {args : Args} {binds : List (Str × Value)}

theorem enterP (X : K.In s.heap) (T : Top p loose mean mg mb s.heap)
    (ho : K.lookup f = some ⟨oc, od, .func (fnOf name qual params body scope dV kV doc pm an cdv ct), osl⟩) (hcd : codeIn K cdv qual = true) (hroom : A.depth < recursionLimit)
    (hbind : BindsTo s (fnOf name qual params body scope dV kV doc pm an cdv ct) args binds) (hloc : ∀ y ∈ binds, scope.names.lookup y.1 = some .local)
    (h : ∀ L' h₁, Fr s.heap L' h₁ (fun y => binds.reverse.lookup y) → News s.heap L' h₁ [] →
      wpAny (model prog w) (A.deeper (envOf qual scope L' f cdv)) (execs body (envOf qual scope L' f cdv))
        (fun fl s' => R (.ok (.ret (match fl with | .ret v => v | _ => .none))) s')
        (fun e s' => wpAny (model prog w) (A.deeper (envOf qual scope L' f cdv)) (leaving (envOf qual scope L' f cdv) e) (fun _ s'' => R (.error e) s'') (fun e' s'' => R (.error e') s'') s')
        { s with heap := h₁, toks := s.toks + binds.length })
    (hco : scope.isCoroutine = false) (hgen : scope.isGenerator = false) (hk : scope.kind = .function)
    (hcell : ∀ x ∈ scope.names, x.2 ≠ .cell) : codeAny (model prog w) A (.call (.ref f) args) R s :=
  codeAny_call_def (fd := fnX name qual params body scope [] dV kV doc pm an cdv ct) (body := body) (binds := binds) hroom (X _ _ ho) rfl T.nolimit (codeRec_of X hcd) rfl hbind hcell hloc
    (fun h₁ hns hk₁ => h s.heap.objs.size h₁ ⟨hns, hk₁, Nat.le_refl _⟩ News.nil) hco hgen hk

theorem enterC (X : K.In s.heap) (T : Top p loose mean mg mb s.heap)
    (ho : K.lookup f = some ⟨oc, od, .func (fnOf name qual params body scope dV kV doc pm an cdv ct), osl⟩) (hcd : codeIn K cdv qual = true) (hroom : A.depth < recursionLimit)
    (hbind : BindsTo s (fnOf name qual params body scope dV kV doc pm an cdv ct) args binds)
    (hkind : (binds.all fun y => scope.names.lookup y.1 == some .local || scope.names.lookup y.1 == some .cell) = true)
    (hnd : ((cellsFrom 0 scope.names []).map (·.1)).Nodup)
    (h : ∀ L' h₁ tk cells, Fr s.heap L' h₁ (bindL (envOfC qual scope L' f cdv).kindOf binds fun _ => none) → News s.heap L' h₁ cells →
      CellsAre (bindC (envOfC qual scope L' f cdv).kindOf binds fun _ => none) (cellsFrom (L' + 1) scope.names []) cells →
      wpAny (model prog w) (A.deeper (envOfC qual scope L' f cdv)) (execs body (envOfC qual scope L' f cdv))
        (fun fl s' => R (.ok (.ret (match fl with | .ret v => v | _ => .none))) s')
        (fun e s' => wpAny (model prog w) (A.deeper (envOfC qual scope L' f cdv)) (leaving (envOfC qual scope L' f cdv) e) (fun _ s'' => R (.error e) s'') (fun e' s'' => R (.error e') s'') s')
        { s with heap := h₁, toks := tk })
    (hco : scope.isCoroutine = false) (hgen : scope.isGenerator = false) (hk : scope.kind = .function) : codeAny (model prog w) A (.call (.ref f) args) R s := by
  refine codeAny_call_function hroom (X _ _ ho) rfl hco hgen rfl (codeRec_of X hcd) (hbind _ _ _ _ ?_)
  refine wpAny_newFunctionEnv_cells hk (kindsX hkind _) fun env' he s' x => ?_
  subst he
  refine ⟨T.nolimit.keeps x.toInCall.keep, codeAny_func ?_⟩
  obtain ⟨h₁, tk, rfl, _⟩ := x.done
  obtain ⟨cells, NC, Y⟩ := Cl.news (h₀ := s.heap) (Nat.le_refl _) fun n c hm => ⟨x.cell n c (lookup_of_mem_nodup (cellsFrom_names scope.names 0 (s.heap.objs.size + 1) [] [] rfl ▸ hnd) hm), x.above n c hm⟩
  exact h s.heap.objs.size h₁ tk cells ⟨x.toInCall.ns, x.toInCall.keep, Nat.le_refl _⟩ NC Y
end
end Mine

/- part MStr -/
theorem Mine.offMStr : True := by
  w_top off
  trivial
namespace Mine
open PySem PySem.Spec PySem.Calls PySem.W PyProof.Rows PySem.Builtin PySem.Builtin.Str

inductive Hold (P : Prop) : Prop
  | mk : P → Hold P
structure Stop (P : Prop) : Prop where
  out : P
def find4 (x y : Str) (i j : Int) : Int := match occurrences x y (fromIndex x.length i) (min (fromIndex x.length j) x.length) 1 with | k :: _ => (k : Int) | [] => -1
theorem gives_find4 (x y : Str) (i j : Int) (t u v v' : Tok) : Gives («str.find» ⟨[.str x t, .str y u, .int i v, .int j v'], []⟩) (.int (find4 x y i j)) := by
  show Gives (match occurrences x y (fromIndex x.length i) (min (fromIndex x.length j) x.length) 1 with | k :: _ => retInt k | [] => (do rule "str.find.not-found"; retInt (-1))) _
  unfold find4
  cases occurrences x y (fromIndex x.length i) (min (fromIndex x.length j) x.length) 1 with
  | nil => exact .rule (.of_eq rfl)
  | cons k _ => exact .of_eq rfl
section
variable {prog : Program} {w : World} {A : Around} {E : Value → Shared → Prop} {s : Shared} {x y : Str} {t u v v' : Tok} {i j : Int} {Q : Value → Shared → Prop}
theorem call_find4 (hq : Q (.int (find4 x y i j) s.toks) { s with toks := s.toks + 1 }) : wpAny (model prog w) A (call (.builtin "str.find") [.str x t, .str y u, .int i v, .int j v']) Q E s :=
  call_gives F.slot_str_find (typeIs_str _ _ _) F.entry_str_find (F.args_str_find_4 _ _ _ _) (gives_find4 x y i j t u v v') hq
end

section
variable {M : Model} {A : Around} {E : Value → Shared → Prop} {s : Shared} {env : Env} {Q : Flow → Shared → Prop}
theorem execs_cons' {st : Stmt} {rest : List Stmt} (h : wpAny M A (exec st env) (fun f s' => match f with | .next => wpAny M A (execs rest env) Q E s' | f => Q f s') E s) : wpAny M A (execs (st :: rest) env) Q E s := by
  rw [execs]
  refine wpAny_bind (wpAny_mono h (fun f s' hf => ?_) fun _ _ e => e)
  cases f <;> first | exact hf | exact wpAny_pure hf
theorem execs_nil' (h : Q .next s) : wpAny M A (execs [] env) Q E s := by
  rw [execs]; exact wpAny_pure h

theorem execs_app_wp (Γ : PySem.Ctx) {QQ : Flow → Pos → Shared → Prop} {EE : Value → Pos → Shared → Prop} : ∀ (a b : List Stmt) (p : Pos) (s : Shared),
    Sem.wp M Γ (execs a env) (fun f p' s' => match f with | .next => Sem.wp M Γ (execs b env) QQ EE p' s' | f => QQ f p' s') EE p s → Sem.wp M Γ (execs (a ++ b) env) QQ EE p s
  | [], b, p, s, h => by rw [execs] at h; exact h
  | st :: a, b, p, s, h => by
    rw [execs, Sem.wp_bind'] at h
    rw [List.cons_append, execs, Sem.wp_bind']
    refine Sem.wp_mono M Γ _ (fun f p' s' hf => ?_) (fun _ _ _ e => e) p s h
    cases f with
    | next => exact execs_app_wp Γ a b p' s' hf
    | brk => exact hf
    | cont => exact hf
    | ret v => exact hf

theorem execs_cut (n : Nat) {stmts : List Stmt} (Mid : Shared → Prop)
    (h1 : wpAny M A (execs (stmts.take n) env) (fun f s' => match f with | .next => Mid s' | f => Q f s') E s)
    (h2 : ∀ s', Mid s' → wpAny M A (execs (stmts.drop n) env) Q E s') : wpAny M A (execs stmts env) Q E s := by
  intro Γ p hΓ
  have := execs_app_wp (M := M) (env := env) Γ (QQ := fun f _ s' => Q f s') (EE := fun e _ s' => E e s') (stmts.take n) (stmts.drop n) p s (Sem.wp_mono M Γ _ (fun f p' s' hf => by
    cases f with
    | next => exact h2 s' hf Γ p' hΓ
    | brk => exact hf
    | cont => exact hf
    | ret v => exact hf) (fun _ _ _ e => e) p s (h1 Γ p hΓ))
  rwa [List.take_append_drop] at this

theorem Fr_pin {h₀ h : Heap} {L : Addr} {m : Str → Option Value} {x : Str} {v : Value} (F : Fr h₀ L h m) (hx : m x = some v) : Fr h₀ L h (fun y => if y = x then some v else m y) := by
  have e : (fun y => if y = x then some v else m y) = m := by
    funext y
    by_cases hy : y = x
    · subst hy; simp [hx]
    · simp [hy]
  rw [e]; exact F

def pinL : List (Str × Value) → (Str → Option Value) → Str → Option Value
  | [], m => m
  | (x, v) :: r, m => fun y => if y = x then some v else pinL r m y
theorem pinL_eq {m : Str → Option Value} : ∀ {ps : List (Str × Value)}, (∀ p ∈ ps, m p.1 = some p.2) → pinL ps m = m
  | [], _ => rfl
  | (x, v) :: r, h => by
    have ih := pinL_eq (m := m) (ps := r) fun p hp => h p (.tail _ hp)
    have hx := h (x, v) (.head _)
    funext y
    show (if y = x then some v else pinL r m y) = m y
    rw [ih]
    by_cases hy : y = x
    · subst hy; rw [if_pos rfl]; exact hx.symm
    · rw [if_neg hy]
theorem Fr_pins {h₀ h : Heap} {L : Addr} {m : Str → Option Value} (F : Fr h₀ L h m) (ps : List (Str × Value)) (hp : ∀ p ∈ ps, m p.1 = some p.2) : Fr h₀ L h (pinL ps m) := by
  rw [pinL_eq hp]; exact F
section
variable {prog : Program} {w : World} {A : Around} {E : Value → Shared → Prop} {s s₂ : Shared} {env : Env} {h₀ : Heap} {x : Str} {body : List Stmt} {Q : Flow → Shared → Prop}
theorem loopW {I : Addr} {fp : List Addr} {n : Nat} {P : Nat → Value → Prop} {St : Nat → Heap → Prop} {m₀ : Str → Option Value} {xs₀ news : List (Addr × Obj)} (J : Nat → (Str → Option Value) → List (Addr × Obj) → Prop)
    (W : Walks prog w A I fp [I] n P St) (hLf : env.locals ∉ fp) (hI0 : h₀.get? I = none) (hxI : ∀ p ∈ xs₀, p.1 ≠ I) (hnI : ∀ p ∈ news, p.1 ≠ I)
    (hfp : ∀ b ∈ fp, b = I ∨ (∃ o, h₀.get? b = some o) ∨ ∃ o, (b, o) ∈ news) (hIo : ∀ i h, St i h → ∃ o, h.get? I = some o)
    (hst : St 0 s₂.heap) (F : Fr h₀ env.locals s₂.heap m₀) (N : News h₀ env.locals s₂.heap (xs₀ ++ news)) (hj : J 0 m₀ xs₀)
    (turn : ∀ i v m₁ xs h tk oI, i < n → P i v → J i m₁ xs → Fr h₀ env.locals h (fun y => if y = x then some v else m₁ y) → News h₀ env.locals h ((I, oI) :: (xs ++ news)) → (∀ p ∈ xs, p.1 ≠ I) →
      wpAny (model prog w) A (execs body env) (fun f s' => match f with
        | .ret v => Q (.ret v) s'
        | .brk => Q .next s'
        | _ => Hold (∃ h' tk' m' xs', s' = { s₂ with heap := h', toks := tk' } ∧ Fr h₀ env.locals h' m' ∧ News h₀ env.locals h' ((I, oI) :: (xs' ++ news)) ∧ (∀ p ∈ xs', p.1 ≠ I) ∧ J (i + 1) m' xs')) E { s₂ with heap := h, toks := tk })
    (done : ∀ m₁ xs h tk, J n m₁ xs → Fr h₀ env.locals h m₁ → News h₀ env.locals h (xs ++ news) → Q .next { s₂ with heap := h, toks := tk }) :
    LoopAtV prog w A h₀ env x body Q E (.ref I) s₂ := by
  refine ⟨I, fp, [I], n, P, St, m₀, xs₀ ++ news, fun i m nw => ∃ xs, nw = xs ++ news ∧ (∀ p ∈ xs, p.1 ≠ I) ∧ J i m xs, rfl, W, hLf, ?_, ?_, hst, F, N, ⟨xs₀, rfl, hxI, hj⟩, ?_, ?_⟩
  · intro b hb; rw [List.mem_singleton.mp hb]; exact hI0
  · intro p hp hm
    rcases List.mem_append.mp hp with h | h
    · exact hxI p h (List.mem_singleton.mp hm)
    · exact hnI p h (List.mem_singleton.mp hm)
  · rintro i v m₁ news₁ s₁ own ⟨h, tk, rfl⟩ hi hP ⟨xs, rfl, hxs, hJ⟩ _ hown howng hmem st F₁ N₁
    obtain ⟨oI, heI⟩ := hIo _ _ st
    have hIown : (I, oI) ∈ own := hmem I (W.sub I (List.mem_singleton.mpr rfl)) hI0 oI heI
    have N₂ : News h₀ env.locals h ((I, oI) :: (xs ++ news)) := fun p hp => by
      rcases List.mem_cons.mp hp with rfl | hp
      · exact N₁ _ (List.mem_append_left _ hIown)
      · exact N₁ _ (List.mem_append_right _ hp)
    refine wpAny_mono (turn i v m₁ xs h tk oI hi hP hJ F₁ N₂ hxs) (fun f s' hf => ?_) fun _ _ e => e
    have back : Hold (∃ h' tk' m' xs', s' = { s₂ with heap := h', toks := tk' } ∧ Fr h₀ env.locals h' m' ∧ News h₀ env.locals h' ((I, oI) :: (xs' ++ news)) ∧ (∀ p ∈ xs', p.1 ≠ I) ∧ J (i + 1) m' xs') →
        LoopStepU h₀ env.locals [I] own (fun m nw => ∃ xs, nw = xs ++ news ∧ (∀ p ∈ xs, p.1 ≠ I) ∧ J (i + 1) m xs) { s₂ with heap := h, toks := tk } .next s' := by
      rintro ⟨h', tk', m', xs', rfl, F', N', hx', hJ'⟩
      refine ⟨rfl, h', tk', m', xs' ++ news, rfl, F', fun p hp => ?_, ?_, xs', rfl, hx', hJ'⟩
      · rcases List.mem_append.mp hp with hp | hp
        · have e := howng p hp
          rcases hfp _ (hown p hp) with q | ⟨o, q⟩ | ⟨o, q⟩
          · have : p.2 = oI := by rw [q] at e; exact Option.some.inj (e.symm.trans heI)
            have e2 : p = (I, oI) := by rw [← q, ← this]
            rw [e2]; exact N' _ (.head _)
          · have := (N₁ p (List.mem_append_left _ hp)).2.2
            rw [q] at this; cases this
          · have h1 := (N₁ (p.1, o) (List.mem_append_right _ (List.mem_append_right _ q))).1
            have : p.2 = o := Option.some.inj (e.symm.trans h1)
            have e2 : p = (p.1, o) := by rw [← this]
            rw [e2]; exact N' _ (.tail _ (List.mem_append_right _ q))
        · exact N' _ (.tail _ hp)
      · intro p hp hm
        rcases List.mem_append.mp hp with h | h
        · exact hx' p h (List.mem_singleton.mp hm)
        · exact hnI p h (List.mem_singleton.mp hm)
    cases f with
    | ret v => exact .ret hf
    | brk => exact .brk hf
    | next => exact .next (back hf)
    | cont => exact .cont (back hf)
  · rintro h' tk m' news' F' N' _ ⟨xs, rfl, _, hJ⟩
    exact done m' xs h' tk hJ F' N'

theorem iterLed {ax : Addr} {its : Array Value} {k : Nat} {m₀ : Str → Option Value} {news : List (Addr × Obj)} (J : Nat → (Str → Option Value) → Prop) (hh : A.handled = none)
    (F : Fr h₀ env.locals s.heap m₀) (N : News h₀ env.locals s.heap news) (hm : (ax, ({ cls := .type "list", data := .seq its k } : Obj)) ∈ news) (hj : J 0 m₀)
    (turn : ∀ i v m₁ h tk I oI, its[i]? = some v → J i m₁ → Fr h₀ env.locals h (fun y => if y = x then some v else m₁ y) → News h₀ env.locals h ((I, oI) :: news) → (∀ p ∈ news, p.1 ≠ I) →
      wpAny (model prog w) A (execs body env) (fun f s' => match f with
        | .ret v => Q (.ret v) s'
        | .brk => Q .next s'
        | _ => Hold (∃ h' tk' m', s' = { s with heap := h', toks := tk' } ∧ Fr h₀ env.locals h' m' ∧ News h₀ env.locals h' ((I, oI) :: news) ∧ J (i + 1) m')) E { s with heap := h, toks := tk })
    (done : ∀ m₁ h tk, J its.size m₁ → Fr h₀ env.locals h m₁ → News h₀ env.locals h news → Q .next { s with heap := h, toks := tk }) :
    wpAny (model prog w) A (pyIter (.ref ax)) (fun it s₂ => LoopAtV prog w A h₀ env x body Q E it s₂) E s := by
  have hls : s.heap.IsList ax its := ⟨_, (N _ hm).1, rfl, _, rfl⟩
  have hlt : ax < s.heap.objs.size := Heap.lt_size (N _ hm).1
  refine wpAny_pyIter_list hls ?_
  have up : ∀ b o, s.heap.get? b = some o → (s.heap.push { cls := .type "list_iterator", data := .fields #[.ref ax, .int 0 0] }).get? b = some o := fun b o e => Heap.get?_push_of_some _ e
  have hnI : ∀ p ∈ news, p.1 ≠ s.heap.objs.size := fun p hp => Nat.ne_of_lt (Heap.lt_size (N p hp).1)
  refine loopW (xs₀ := []) (fun i m xs => xs = [] ∧ J i m) (Walks.list hh s.heap.objs.size ax (Nat.ne_of_lt hlt) its) ?_ (next_is_new F) (by intro p hp; cases hp) hnI ?_ (fun i h st => by obtain ⟨o, e, _⟩ := st.1; exact ⟨o, e⟩)
    ⟨⟨_, Heap.get?_push_size _ rfl, rfl, rfl⟩, hls.push _⟩ (F.keeps up) (N.grown up) ⟨rfl, hj⟩ ?_ ?_
  · intro hm'
    rcases List.mem_cons.mp hm' with e | hm'
    · exact absurd F.ns.lt (e ▸ Nat.lt_irrefl _)
    · exact (N _ hm).2.1 (List.mem_singleton.mp hm').symm
  · intro b hb
    rcases List.mem_cons.mp hb with e | hb
    · exact .inl e
    · rw [List.mem_singleton.mp hb]; exact .inr (.inr ⟨_, hm⟩)
  · rintro i v m₁ xs h tk oI hi hP ⟨rfl, hJ⟩ F₁ N₁ _
    refine wpAny_mono (turn i v m₁ h tk _ oI hP hJ F₁ N₁ hnI) (fun f s' hf => ?_) fun _ _ e => e
    have back : Hold (∃ h' tk' m', s' = { s with heap := h', toks := tk' } ∧ Fr h₀ env.locals h' m' ∧ News h₀ env.locals h' ((s.heap.objs.size, oI) :: news) ∧ J (i + 1) m') →
      Hold (∃ h' tk' m' xs', s' = { s with heap := h', toks := tk' } ∧ Fr h₀ env.locals h' m' ∧ News h₀ env.locals h' ((s.heap.objs.size, oI) :: (xs' ++ news)) ∧ (∀ p ∈ xs', p.1 ≠ s.heap.objs.size) ∧ xs' = [] ∧ J (i + 1) m') := by
      rintro ⟨h', tk', m', e, F', N', hJ'⟩
      exact Hold.mk ⟨h', tk', m', [], e, F', N', (by intro p hp; cases hp), rfl, hJ'⟩
    cases f with
    | ret v => exact hf
    | brk => exact hf
    | next => exact back hf
    | cont => exact back hf
  · rintro m₁ xs h tk ⟨rfl, hJ⟩ F₁ N₁
    exact done m₁ h tk hJ F₁ N₁
end
end
end Mine

/- part MExc -/
theorem Mine.offMExc : True := by
  w_top off
  trivial
namespace Mine
open PySem PySem.Spec PySem.Calls PySem.W PyProof.Rows PySem.Builtin

structure NewX (h h' : Heap) (e : Addr) (c : Value) : Prop where
  keeps : ∀ b o, h.get? b = some o → h'.get? b = some o
  new : h.get? e = none
  there : ∃ ob t, h'.get? e = some ob ∧ ob.cls = .type "IndexError" ∧ ob.data = .fields #[t, .none, c, .none, .bool false, .none]

def Hok (A : Around) (h : Heap) (c : Value) : Prop :=
  (A.handled = none ∧ c = .none) ∨ ∃ e1 o1 vs, A.handled = some (.ref e1) ∧ c = .ref e1 ∧ h.get? e1 = some o1 ∧ o1.data = .fields vs ∧ vs[2]? = some .none

theorem entry_unchain : entryFor table "proto.unchain" = some Builtin.«proto.unchain» := entryFor_of_tree (by kernel_rfl)

section
variable {α : Type} {prog : Program} {w : World} {A : Around} {E : Value → Shared → Prop} {s : Shared} {c : Value}

theorem raiseNewX {e : Addr} {t : Value} {Q : α → Shared → Prop} {h₀ : Heap} (hk : ∀ b o, h₀.get? b = some o → s.heap.get? b = some o) (hnew : h₀.get? e = none)
    (he : s.heap.get? e = some { cls := .type "IndexError", dict := none, data := .fields #[t, .none, .none, .none, .bool false, .none] })
    (hH : Hok A h₀ c) (h : ∀ h', NewX h₀ h' e c → E (.ref e) { s with heap := h' }) : wpAny (model prog w) A (raiseNew (.ref e) : Sem α) Q E s := by
  unfold raiseNew
  refine wpAny_bind (wpAny_handled ?_)
  rcases hH with ⟨hh, rfl⟩ | ⟨e1, o1, vs, hh, rfl, ho1, hd1, h2⟩
  · rw [hh]
    first
      | exact wpAny_throw (h s.heap ⟨hk, hnew, _, t, he, rfl, rfl⟩)
      | exact wpAny_bind (wpAny_pure (wpAny_throw (h s.heap ⟨hk, hnew, _, t, he, rfl, rfl⟩)))
  · rw [hh]
    have hne : e1 ≠ e := fun q => by rw [q, hnew] at ho1; cases ho1
    have hb : (Value.ref e1 != Value.ref e) = true := by simp [hne]
    dsimp only
    rw [hb]
    simp only [if_true]
    have tail : wpAny (model prog w) A (do updateField e 2 (.ref e1); throw (.ref e) : Sem α) Q E s := by
      refine wpAny_bind ?_
      unfold updateField
      refine wpAny_bind (wpAny_load he ?_)
      dsimp only
      rw [if_pos (by simp)]
      refine wpAny_update he (wpAny_throw (h _ ⟨fun b o hb => ?_, hnew, _, t, Heap.get?_update_self _ he rfl, rfl, rfl⟩))
      have hbe : b ≠ e := fun q => by rw [q, hnew] at hb; cases hb
      rw [Heap.get?_update_other _ _ (Ne.symm hbe)]
      exact hk b o hb
    have run : ∀ {Q' : Value → Shared → Prop}, Q' .none s → wpAny (model prog w) A (runValue (.builtin "proto.unchain" ⟨[.ref e, .ref e1, .ref e1, .bool false], []⟩)) Q' E s := fun {Q'} hq => by
      refine wpAny_runValue (codeAny_builtin entry_unchain ?_)
      unfold Builtin.«proto.unchain»
      dsimp only
      refine wpAny_bind (wpAny_field (hk _ _ ho1) hd1 h2 ?_)
      simp only [beq_self_eq_true, if_true]
      first
        | exact wpAny_pure hq
        | exact wpAny_bind (wpAny_pure (wpAny_pure hq))
    first
      | exact wpAny_bind (wpAny_bind (wpAny_holding (run (wpAny_mono tail (fun _ _ q => q) fun _ _ q => q))))
      | exact wpAny_bind (wpAny_holding (run tail))

theorem raiseWordsX {msg : String} {Q : α → Shared → Prop} (hH : Hok A s.heap c) (h : ∀ h' tk e, NewX s.heap h' e c → E (.ref e) { s with heap := h', toks := tk }) :
    wpAny (model prog w) A (raiseErrorWords "IndexError" msg : Sem α) Q E s := by
  unfold raiseErrorWords
  refine wpAny_bind (wpAny_mkText (wpAny_bind ?_))
  refine wpAny_newExc_plain plainExc_IndexError fun h' e hm => ?_
  obtain ⟨T, he, hTn, hT⟩ := hm.there
  refine raiseNewX (h₀ := s.heap) (t := .ref T) hm.keeps hm.new he hH fun h'' hx => h h'' _ e hx

theorem getItem_outX {l : Addr} {items : Array Value} {k : Int} {t : Tok} {Q : Value → Shared → Prop} (hH : Hok A s.heap c) (hl : s.heap.IsList l items)
    (h0 : 0 ≤ k) (hout : (items.size : Int) ≤ k) (hhi : k < 2 ^ 63)
    (hE : ∀ h' tk e, NewX s.heap h' e c → E (.ref e) { s with heap := h', toks := tk }) :
    wpAny (model prog w) A (getItem (.ref l) (.int k t)) Q E s := by
  obtain ⟨o, ho, hc, ne, hd⟩ := id hl
  unfold getItem
  try with_reducible refine wpAny_holding ?_
  first | refine wpAny_bind (wpAny_pure ?_) | skip
  refine wpAny_bind (wpAny_sequenceKey hl.typeIs (by decide) ?_)
  refine wpAny_bind (wpAny_callSpecial?_slot (name := Str.ofString "__getitem__") hl.typeIs slot_list_getitem
    (wpAny_call_entry slot_list_getitem hl.typeIs entry_list_getitem ?_ (args_list_getitem _ _)))
  show wpAny _ _ (Builtin.List.listSubscript? (.int k t) >>= _) _ _ s
  refine wpAny_bind (wpAny_listSubscript_int (fitsIndex_of h0 hhi) ?_)
  clear hhi
  obtain ⟨j, rfl⟩ := Int.eq_ofNat_of_zero_le h0
  have hx : items[j]? = none := Array.getElem?_eq_none (by omega)
  show wpAny _ _ ((seqItemAt l j >>= fun r => pure (r.map (j, ·))) >>= _) _ _ s
  refine wpAny_bind (wpAny_bind (wpAny_seqItemAt ho hd (wpAny_pure ?_)))
  rw [hx]
  have hH' : Hok A.in1 s.heap c := hH
  first
    | exact wpAny_bind (wpAny_rule (raiseWordsX hH' hE))
    | exact wpAny_bind (wpAny_rule (wpAny_bind (raiseWordsX hH' hE)))
    | exact wpAny_bind (wpAny_bind (wpAny_rule (raiseWordsX hH' hE)))
    | exact wpAny_rule (raiseWordsX hH' hE)

theorem item_outX {value slice : PySem.Expr} {l : Addr} {items : Array Value} {k : Int} {u : Tok} {Q : Value → Shared → Prop} (hH : Hok A s.heap c) (hl : s.heap.IsList l items)
    (h0 : 0 ≤ k) (hout : (items.size : Int) ≤ k) (hhi : k < 2 ^ 63)
    (hE : ∀ h' tk e, NewX s.heap h' e c → E (.ref e) { s with heap := h', toks := tk })
    (hs : subscripted slice false (.ref l) (.int k u) = operate [.ref l, .int k u] (getItem (.ref l) (.int k u)) := by with_unfolding_all rfl) :
    wpAny (model prog w) A (subscriptTail value slice (.ref l) (.int k u)) Q E s :=
  tail_any hl.typeIs slot_list_getitem.lookup (getItem_outX hH hl h0 hout hhi hE) hs
theorem item_inX {value slice : PySem.Expr} {l : Addr} {items : Array Value} {k : Int} {u : Tok} {x : Value} {Q : Value → Shared → Prop} (hl : s.heap.IsList l items)
    (h0 : 0 ≤ k) (hhi : k < 2 ^ 63) (hx : items[k.toNat]? = some x) (h : Q x s)
    (hs : subscripted slice false (.ref l) (.int k u) = operate [.ref l, .int k u] (getItem (.ref l) (.int k u)) := by with_unfolding_all rfl) :
    wpAny (model prog w) A (subscriptTail value slice (.ref l) (.int k u)) Q E s :=
  tail_any hl.typeIs slot_list_getitem.lookup (wpAny_getItem_list hl h0 hhi hx h) hs
end

structure EX (B : Heap) (L L1 : Addr) (u : Str → Option Value) (o1 : Obj) (c : Value) (e : Addr) (h : Heap) : Prop where
  stays : B.StaysIn h
  newE : B.get? e = none
  newL : B.get? L = none
  newL1 : B.get? L1 = none
  ns : h.Ns L u
  top : ∃ sl, h.get? L1 = some { o1 with slots := sl }
  notRec : ∀ vs, o1.data ≠ .fields vs
  exc : ∃ oe vs, h.get? e = some oe ∧ oe.cls = .type "IndexError" ∧ oe.data = .fields vs ∧ 2 < vs.size ∧ vs[2]? = some c ∧
    (vs[1]? = some .none ∨ ∃ T oT ts, vs[1]? = some (.ref T) ∧ B.get? T = none ∧ T ≠ e ∧ h.get? T = some oT ∧ oT.data = .fields ts ∧ 3 < ts.size)

theorem EX.frames {B : Heap} {L L1 : Addr} {u : Str → Option Value} {o1 : Obj} {c : Value} {e : Addr} {h : Heap} {env env1 : Env} (x : EX B L L1 u o1 c e h)
    (hf : env.frame = some L) (hk : env.scope.kind = .function) (hf1 : env1.frame = some L1) (hk1 : env1.scope.kind = .function) : h.FunFrames B [env, env1] := by
  obtain ⟨sl, hsl⟩ := x.top
  exact .cons (by rw [hk]; decide) hf x.ns x.newL ⟨by rw [hk1]; decide, ⟨L1, _, hf1, x.newL1, hsl, x.notRec⟩, trivial⟩

theorem EX.neL {B : Heap} {L L1 : Addr} {u : Str → Option Value} {o1 : Obj} {c : Value} {e : Addr} {h : Heap} (x : EX B L L1 u o1 c e h) : L ≠ e := by
  obtain ⟨oe, vs, he, _, hd, _⟩ := x.exc
  obtain ⟨o, es, ep, ho, hdd, _⟩ := x.ns
  intro q
  rw [q, he] at ho
  cases ho
  rw [hd] at hdd
  cases hdd
theorem EX.neL1 {B : Heap} {L L1 : Addr} {u : Str → Option Value} {o1 : Obj} {c : Value} {e : Addr} {h : Heap} (x : EX B L L1 u o1 c e h) : L1 ≠ e := by
  obtain ⟨oe, vs, he, _, hd, _⟩ := x.exc
  obtain ⟨sl, hsl⟩ := x.top
  intro q
  rw [q, he] at hsl
  cases hsl
  exact x.notRec _ hd

theorem EX.traced {B : Heap} {L L1 : Addr} {u : Str → Option Value} {o1 : Obj} {c : Value} {e : Addr} {h : Heap} (x : EX B L L1 u o1 c e h) (ht : ∃ oe vs T, h.get? e = some oe ∧ oe.data = .fields vs ∧ vs[1]? = some (.ref T)) :
    ∃ oe vs T oT ts, h.get? e = some oe ∧ oe.cls = .type "IndexError" ∧ oe.data = .fields vs ∧ 2 < vs.size ∧ vs[2]? = some c ∧ vs[1]? = some (.ref T) ∧ B.get? T = none ∧ T ≠ e ∧ h.get? T = some oT ∧ oT.data = .fields ts ∧ 3 < ts.size := by
  obtain ⟨oe, vs, he, hcl, hde, hsz, h2, htr⟩ := x.exc
  rcases htr with q | ⟨T, oT, ts, h1, hnT, hTe, hT, hdT, h3⟩
  · obtain ⟨oe', vs', T, he', hd', h1'⟩ := ht
    rw [he] at he'
    cases he'
    rw [hde] at hd'
    cases hd'
    rw [q] at h1'
    cases h1'
  · exact ⟨oe, vs, T, oT, ts, he, hcl, hde, hsz, h2, h1, hnT, hTe, hT, hdT, h3⟩
section
variable {M : Model} {A : Around} {E : Value → Shared → Prop} {s : Shared} {c : Value} {B : Heap} {L L1 e : Addr} {u : Str → Option Value} {o1 : Obj} {env env1 : Env}

theorem ex_entry {hadNext : Bool} {head : Value} {Q : Unit → Shared → Prop} (hfr : A.frames = some [env, env1]) (hf : env.frame = some L) (hk : env.scope.kind = .function) (hf1 : env1.frame = some L1) (hk1 : env1.scope.kind = .function)
    (x : EX B L L1 u o1 c e s.heap) (h : ∀ h', EX B L L1 u o1 c e h' → (∃ oe vs T, h'.get? e = some oe ∧ oe.data = .fields vs ∧ vs[1]? = some (.ref T)) → Q () { s with heap := h' }) :
    wpAny M A (do let a ← frameOf env; let pl ← entryPlaceOf L hadNext; let b ← EntryCells.newEntry head a .none (rawInt L) .none pl; setField (.ref e) 1 b) Q E s := by
  have hl := x.frames hf hk hf1 hk1
  obtain ⟨oe, vs, he, hcl, hd, hsz, h2, _⟩ := x.exc
  have hsz1 : 1 < vs.size := by omega
  refine wpAny_bind (wpAny_frameOf_fun hfr hl hf fun h₁ hs₁ => ?_)
  refine wpAny_bind (wpAny_entryPlaceOf fun pl hpl => ?_)
  unfold EntryCells.newEntry newFields
  refine wpAny_bind (wpAny_newObj_type ?_ (hpl.sizeOk5 _ _ _ _ _))
  have hene : e ∉ [env, env1].filterMap (·.frame) := by
    simp only [List.filterMap_cons, hf, hf1, List.filterMap_nil, List.mem_cons, List.not_mem_nil, or_false, not_or]
    exact ⟨Ne.symm x.neL, Ne.symm x.neL1⟩
  have he₁ : h₁.get? e = some oe := (hs₁.2.1 e hene).trans he
  have kb₁ : B.StaysIn h₁ := fun b o hbo => (hs₁.2.1 b fun hm => by rw [(hl.mem hm).1] at hbo; cases hbo).trans (x.stays b o hbo)
  have he₂ := Heap.get?_push_of_some (h := h₁) { cls := .type "traceback", dict := none, data := .fields ([head, .ref L, .none, rawInt L, .none] ++ (if pl.isEmpty then List.replicate 6 Value.none else pl)).toArray } he₁
  refine wpAny_setField he₂ hd (by omega) ?_
  have hTe : h₁.objs.size ≠ e := Nat.ne_of_gt (Heap.lt_size he₁)
  have hd₃ := Obj.data_mapFields hd (·.setIfInBounds 1 (Value.ref h₁.objs.size))
  have he₃ := Heap.get?_update_self (Obj.mapFields (·.setIfInBounds 1 (Value.ref h₁.objs.size))) he₂ (Obj.isFreed_of_fields hd₃)
  have hT₃ := (Heap.get?_update_other (h₁.push { cls := .type "traceback", dict := none, data := .fields ([head, .ref L, .none, rawInt L, .none] ++ (if pl.isEmpty then List.replicate 6 Value.none else pl)).toArray })
    (Obj.mapFields (·.setIfInBounds 1 (Value.ref h₁.objs.size))) (Ne.symm hTe)).trans (Heap.get?_push_size h₁ rfl)
  have keep : ∀ b o, b ≠ e → h₁.get? b = some o →
      ((h₁.push { cls := .type "traceback", dict := none, data := .fields ([head, .ref L, .none, rawInt L, .none] ++ (if pl.isEmpty then List.replicate 6 Value.none else pl)).toArray }).update e (Obj.mapFields (·.setIfInBounds 1 (Value.ref h₁.objs.size)))).get? b = some o :=
    fun b o hbe hb => by
      rw [Heap.get?_update_other _ _ (Ne.symm hbe)]
      exact Heap.get?_push_of_some _ hb
  refine h _ ⟨fun b o hbo => keep b o (fun q => by rw [q, x.newE] at hbo; cases hbo) (kb₁ b o hbo), x.newE, x.newL, x.newL1, ?_, ?_, x.notRec, ?_⟩ ⟨_, _, h₁.objs.size, he₃, hd₃, by simp [hsz1]⟩
  · obtain ⟨o, es, ep, ho, hdd, r⟩ := x.ns
    obtain ⟨sl, hsl⟩ := hs₁.2.2 L o ho
    exact ⟨_, es, ep, keep L _ x.neL hsl, hdd, r⟩
  · obtain ⟨sl, hsl⟩ := x.top
    obtain ⟨sl', hsl'⟩ := hs₁.2.2 L1 _ hsl
    exact ⟨sl', keep L1 _ x.neL1 hsl'⟩
  · refine ⟨_, _, he₃, (Obj.cls_mapFields _ _).trans hcl, hd₃, by simpa using hsz, by rw [Array.getElem?_setIfInBounds_ne (by decide)]; exact h2, .inr ⟨h₁.objs.size, _, _, by simp [hsz1], kb₁.fresh, hTe, hT₃, rfl, ?_⟩⟩
    simp only [List.size_toArray, List.length_append, List.length_cons, List.length_nil]; omega

theorem ex_flight {fr : Option Addr} {Q : Unit → Shared → Prop} (x : EX B L L1 u o1 c e s.heap) (h : ∀ h', EX B L L1 u o1 c e h' → ((∃ oe vs T, s.heap.get? e = some oe ∧ oe.data = .fields vs ∧ vs[1]? = some (.ref T)) → ∃ oe vs T, h'.get? e = some oe ∧ oe.data = .fields vs ∧ vs[1]? = some (.ref T)) → Q () { s with heap := h' }) :
    wpAny M A (setFlight (.ref e) fr) Q E s := by
  obtain ⟨oe, vs, he, hcl, hd, hsz, h2, h1⟩ := x.exc
  unfold setFlight
  rcases h1 with h1 | ⟨T, oT, ts, h1, hnT, hTe, hT, hdT, h3⟩
  · refine wpAny_bind (wpAny_field he hd h1 ?_)
    rw [if_neg (by decide)]
    exact wpAny_pure (h s.heap x fun q => q)
  · refine wpAny_bind (wpAny_field he hd h1 ?_)
    rw [if_pos (show (Value.ref T != Value.none) = true from by simp)]
    refine wpAny_setField hT hdT h3 ?_
    have other : ∀ b, b ≠ T → (s.heap.update T (Obj.mapFields (·.setIfInBounds 3 (fr.elim Value.none fun f => rawInt f)))).get? b = s.heap.get? b :=
      fun b hb => Heap.get?_update_other _ _ (Ne.symm hb)
    have hTL : L ≠ T := fun q => by
      obtain ⟨o, es, ep, ho, hdd, _⟩ := x.ns
      rw [q, hT] at ho; cases ho; rw [hdT] at hdd; cases hdd
    have hTL1 : L1 ≠ T := fun q => by
      obtain ⟨sl, hsl⟩ := x.top
      rw [q, hT] at hsl; cases hsl; exact x.notRec _ hdT
    refine h _ ⟨fun b o hbo => (other b fun q => by rw [q, hnT] at hbo; cases hbo).trans (x.stays b o hbo), x.newE, x.newL, x.newL1, ?_, ?_, x.notRec, ?_⟩ fun _ => ⟨oe, vs, T, (other e (Ne.symm hTe)).trans he, hd, h1⟩
    · obtain ⟨o, es, ep, ho, r⟩ := x.ns
      exact ⟨o, es, ep, (other L hTL).trans ho, r⟩
    · obtain ⟨sl, hsl⟩ := x.top
      exact ⟨sl, (other L1 hTL1).trans hsl⟩
    · exact ⟨oe, vs, (other e (Ne.symm hTe)).trans he, hcl, hd, hsz, h2, .inr ⟨T, _, _, h1, hnT, hTe, Heap.get?_update_self _ hT (Obj.isFreed_of_fields (Obj.data_mapFields hdT _)), Obj.data_mapFields hdT _, by simpa using h3⟩⟩

theorem ex_note {Q : Unit → Shared → Prop} (hfr : A.frames = some [env, env1]) (hf : env.frame = some L) (hk : env.scope.kind = .function) (hf1 : env1.frame = some L1) (hk1 : env1.scope.kind = .function)
    (x : EX B L L1 u o1 c e s.heap) (h : ∀ h', EX B L L1 u o1 c e h' → (∃ oe vs T, h'.get? e = some oe ∧ oe.data = .fields vs ∧ vs[1]? = some (.ref T)) → Q () { s with heap := h' }) :
    wpAny M A (noteFrame (.ref e) env) Q E s := by
  obtain ⟨oe, vs, he, hcl, hd, hsz, h2, h1⟩ := x.exc
  unfold noteFrame
  simp only [hf]
  rcases h1 with h1 | ⟨T, oT, ts, h1, hnT, hTe, hT, hdT, h3⟩
  · refine wpAny_bind (wpAny_field he hd h1 ?_)
    rw [if_neg (by decide)]
    exact ex_entry hfr hf hk hf1 hk1 x h
  · refine wpAny_bind (wpAny_field he hd h1 ?_)
    rw [if_pos (show (Value.ref T != Value.none) = true from by simp)]
    have h3' : ts[3]? = some ts[3] := Array.getElem?_eq_getElem h3
    refine wpAny_bind (wpAny_field hT hdT h3' ?_)
    by_cases hfl : (ts[3] == rawInt L) = true
    · rw [if_pos hfl]
      exact wpAny_pure (h s.heap x ⟨oe, vs, T, he, hd, h1⟩)
    · rw [if_neg hfl]
      refine wpAny_bind (wpAny_setField hT hdT h3 ?_)
      have other : ∀ b, b ≠ T → (s.heap.update T (Obj.mapFields (·.setIfInBounds 3 Value.none))).get? b = s.heap.get? b :=
        fun b hb => Heap.get?_update_other _ _ (Ne.symm hb)
      have hTL : L ≠ T := fun q => by
        obtain ⟨o, es, ep, ho, hdd, _⟩ := x.ns
        rw [q, hT] at ho; cases ho; rw [hdT] at hdd; cases hdd
      have hTL1 : L1 ≠ T := fun q => by
        obtain ⟨sl, hsl⟩ := x.top
        rw [q, hT] at hsl; cases hsl; exact x.notRec _ hdT
      refine ex_entry (s := { s with heap := s.heap.update T (Obj.mapFields (·.setIfInBounds 3 Value.none)) }) hfr hf hk hf1 hk1 ⟨fun b o hbo => (other b fun q => by rw [q, hnT] at hbo; cases hbo).trans (x.stays b o hbo), x.newE, x.newL, x.newL1, ?_, ?_, x.notRec, ?_⟩ h
      · obtain ⟨o, es, ep, ho, r⟩ := x.ns
        exact ⟨o, es, ep, (other L hTL).trans ho, r⟩
      · obtain ⟨sl, hsl⟩ := x.top
        exact ⟨sl, (other L1 hTL1).trans hsl⟩
      · exact ⟨oe, vs, (other e (Ne.symm hTe)).trans he, hcl, hd, hsz, h2, .inr ⟨T, _, _, h1, hnT, hTe, Heap.get?_update_self _ hT (Obj.isFreed_of_fields (Obj.data_mapFields hdT _)), Obj.data_mapFields hdT _, by simpa using h3⟩⟩

theorem ex_back {A' : Around} (hfr : A'.frames = some [env, env1]) (hf : env.frame = some L) (hk : env.scope.kind = .function) (hf1 : env1.frame = some L1) (hk1 : env1.scope.kind = .function)
    (x : EX B L L1 u o1 c e s.heap) (h : ∀ h', EX B L L1 u o1 c e h' → E (.ref e) { s with heap := h' }) : notedBy M A' env (cameBackBy M A env E) (.ref e) s := by
  refine ex_note hfr hf hk hf1 hk1 x fun h' x' ⟨oe, vs, T, he, hd, h1⟩ => ?_
  show wpAny M A _ _ _ _
  refine wpAny_bind (wpAny_field he hd h1 ?_)
  rw [if_neg (by simp)]
  exact ex_flight x' fun h'' x'' _ => h h'' x''
end

/-- the heap's bundle between steps: base with the outer frame hidden, ledger with the outer frame's object -/
theorem exStart {h₀ h h' : Heap} {L L1 e : Addr} {u : Str → Option Value} {o1 : Obj} {sl : Array (Option Value)} {c : Value} {rest : List (Addr × Obj)} (F : Fr h₀ L h u) (N : News h₀ L h rest)
    (hL1 : (L1, ({ o1 with slots := sl } : Obj)) ∈ rest) (hd1 : ∀ vs, o1.data ≠ .fields vs) (x : NewX h h' e c) : EX (hideAll h [L, L1]) L L1 u o1 c e h' := by
  obtain ⟨ob, t, he, hc, hd⟩ := x.there
  refine ⟨fun b o hb => x.keeps b o (of_hideAll _ hb), ?_, hideAll_none _ (.head _), hideAll_none _ (.tail _ (.head _)), F.ns.keeps x.keeps, ⟨sl, x.keeps _ _ (N _ hL1).1⟩, hd1, ⟨ob, _, he, hc, hd, by simp, rfl, .inl rfl⟩⟩
  cases q : (hideAll h [L, L1]).get? e with
  | none => rfl
  | some o => have := of_hideAll _ q; rw [x.new] at this; cases this

theorem exEnd {h₀ h h' : Heap} {L L1 e : Addr} {u u' : Str → Option Value} {o1 : Obj} {c : Value} {rest : List (Addr × Obj)} (F : Fr h₀ L h u') (N : News h₀ L h rest) (hr : ∀ p ∈ rest, p.1 ≠ L1) (h1 : h₀.get? L1 = none) (hLL : L1 ≠ L)
    (x : EX (hideAll h [L, L1]) L L1 u o1 c e h') : Fr h₀ L h' u ∧ ∃ sl, News h₀ L h' ((L1, { o1 with slots := sl }) :: rest) := by
  have hL : h₀.get? L = none := Heap.get?_none_of_le F.above
  have keep : ∀ b o, b ≠ L → b ≠ L1 → h.get? b = some o → h'.get? b = some o := fun b o hb hb1 hq => x.stays b o (hideAll_get _ hq (by
    simp only [List.mem_cons, List.not_mem_nil, or_false, not_or]; exact ⟨hb, hb1⟩))
  obtain ⟨sl, hsl⟩ := x.top
  refine ⟨⟨x.ns, fun b o hb => keep b o (fun q => by rw [q, hL] at hb; cases hb) (fun q => by rw [q, h1] at hb; cases hb) (F.keep b o hb), F.above⟩, sl, fun p hp => ?_⟩
  rcases List.mem_cons.mp hp with rfl | hp
  · exact ⟨hsl, hLL, h1⟩
  · exact ⟨keep _ _ (N p hp).2.1 (hr p hp) (N p hp).1, (N p hp).2⟩

section
variable {prog : Program} {w : World} {A : Around} {E : Value → Shared → Prop} {s : Shared} {c : Value} {B : Heap} {L L1 e : Addr} {u : Str → Option Value} {o1 : Obj} {env env1 : Env}
theorem ex_catch {t : Expr} {b₀ : Stmt} {suite : List Stmt} {pos : Pos} {rest : List ExceptHandler} {Q : Flow → Shared → Prop} (hfr : A.frames = some [env, env1]) (hf : env.frame = some L) (hk : env.scope.kind = .function) (hf1 : env1.frame = some L1) (hk1 : env1.scope.kind = .function)
    (x : EX B L L1 u o1 c e s.heap)
    (ht : ∀ h' (Q' : Value → Shared → Prop) (E' : Value → Shared → Prop), EX B L L1 u o1 c e h' → Q' (.type "IndexError") { s with heap := h' } → wpAny (model prog w) (A.mark (some (.ref e))) (eval t env) Q' E' { s with heap := h' })
    (h : ∀ h', EX B L L1 u o1 c e h' → wpAny (model prog w) (A.mark (some (.ref e))) (execs (b₀ :: suite) env) Q (notedBy (model prog w) (A.mark (some (.ref e))) env (cameBackBy (model prog w) A env E)) { s with heap := h' }) :
    wpAny (model prog w) A (noteFrame (.ref e) env) (fun _ s₂ => wpAny (model prog w) A (setFlight (.ref e) none) (fun _ s₃ =>
      wpAny (model prog w) A (handleBy (.ref e) env (.ExceptHandler (some t) none (b₀ :: suite) pos :: rest)) Q E s₃) E s₂) E s := by
  refine ex_note hfr hf hk hf1 hk1 x fun h₁ x₁ _ => ?_
  refine ex_flight (s := { s with heap := h₁ }) x₁ fun h₂ x₂ _ => ?_
  refine wpAny_handleBy_builtin (X := "IndexError") (T := "IndexError") (b := true) PySem.F.isExc_IndexError PySem.F.notTuple_IndexError (by rw [isSubtype_type]; kernel_rfl) ?_
  refine ht h₂ _ _ x₂ ⟨rfl, ?_, ?_⟩
  · obtain ⟨oe, vs, he, hc, _⟩ := x₂.exc
    exact ⟨oe, he, hc⟩
  · simp only [if_true]
    exact ex_flight (s := { s with heap := h₂ }) x₂ fun h₃ x₃ _ => h h₃ x₃
end
end Mine

/- part MSp -/
theorem Mine.offMSp : True := by
  w_top off
  trivial
namespace Mine
open PySem PySem.Spec PySem.Calls PySem.W PyProof.Rows PySem.Builtin PySem.Builtin.Str PySem.StrLaws
def dots : Str := Str.ofString "..."
theorem dots_list : dots.cps.toList = [46, 46, 46] := by decide
theorem dots_len : dots.length = 3 := by decide

theorem at_dots {X : Str} {k : Nat} : At X dots X.length k ↔ (X.cps.toList.drop k).take 3 = [46, 46, 46] := by
  unfold At
  rw [subAt_eq, dots_len, dots_list, beq_iff_eq]
  constructor
  · exact fun h => h.2
  · intro h
    refine ⟨?_, h⟩
    have := congrArg List.length h
    simp at this
    have e : X.cps.toList.length = X.length := rfl
    simp at e
    omega

theorem dot_free {X : Str} {pre w : List Nat} (hX : X.cps.toList = pre ++ w) (h : 46 ∉ w) : ∀ k, pre.length ≤ k → ¬ At X dots X.length k := by
  intro k hk hA
  rw [at_dots, hX, List.drop_append, List.drop_of_length_le hk, List.nil_append] at hA
  have : 46 ∈ (w.drop (k - pre.length)).take 3 := by rw [hA]; simp
  exact h (List.mem_of_mem_drop (List.mem_of_mem_take this))

theorem dots_kind (X : Str) : decide (PySem.Builtin.Str.strKind X < PySem.Builtin.Str.strKind dots) = false := by
  have e : PySem.Builtin.Str.strKind dots = 1 := by decide +kernel
  rw [e]
  apply decide_eq_false
  unfold PySem.Builtin.Str.strKind
  split
  · omega
  · split <;> omega

theorem split_cuts {X : Str} (h : ∃ i, At X dots X.length i) : occurrences X dots 0 X.length (X.length + 1) ≠ [] ∧ Txt.split X dots = partsFrom X 3 0 (occurrences X dots 0 X.length (X.length + 1)) := by
  obtain ⟨i, hi⟩ := h
  have hne : occurrences X dots 0 X.length (X.length + 1) ≠ [] := by
    intro e
    obtain ⟨f, hG, hf⟩ := occ_tight X dots (by decide)
    rw [e] at hG
    have ef : f = 0 := hG
    exact hf i (by omega) hi
  refine ⟨hne, ?_⟩
  unfold Txt.split
  have h1 : decide (X.length < dots.length) = false := decide_eq_false (by have := hi.1; omega)
  rw [h1, dots_kind, if_neg (by simp), if_neg (by simpa using hne), partsBetween_eq, dots_len]

theorem found_dots (X : Str) : (occurrences X dots 0 X.length 1).isEmpty = false ↔ ∃ i, At X dots X.length i := by
  have := found_iff X dots
  rw [Bool.not_eq_true'] at this
  exact this

theorem split_two_dots {X : Str} (h : (occurrences X dots 0 X.length 1).isEmpty = false) : 2 ≤ (Txt.split X dots).length := by
  obtain ⟨hne, e⟩ := split_cuts ((found_dots X).mp h)
  rw [e]
  cases ho : occurrences X dots 0 X.length (X.length + 1) with
  | nil => exact absurd ho hne
  | cons c r =>
    obtain ⟨p, r', e2⟩ := partsFrom_ne X 3 (c + 3) r
    show 2 ≤ (strSub X 0 c :: partsFrom X 3 (c + 3) r).length
    rw [e2]; simp

end Mine

/- part MEm -/
theorem Mine.offMEm : True := by
  w_top off
  trivial
namespace Mine
open PySem PySem.Spec PySem.Calls PySem.W PyProof.Rows PySem.Builtin PySem.Builtin.Str
set_option maxHeartbeats 8000000
theorem fillEm (w : World) : (hd.heap_39 w.params) = (hd.heap_39 w.params) ∧ PySem.Challenge.rw_mq0154_01.prog = PySem.Challenge.rw_mq0154_01.prog := by k_fill; exact ⟨rfl, rfl⟩
def emTail (got : Str) (ep : Int) : List Str → Int → Bool
  | [], _ => true
  | w :: ws, sp => if find4 got w sp ep < 0 then false else emTail got ep ws (find4 got w sp ep + w.length)
theorem emTail_cons (got : Str) (ep : Int) (w : Str) (ws : List Str) (sp : Int) : emTail got ep (w :: ws) sp = if find4 got w sp ep < 0 then false else emTail got ep ws (find4 got w sp ep + w.length) := rfl
def emC (got : Str) (sp ep : Int) (ws : List Str) : Bool := if ep < sp then false else emTail got ep ws sp
def emL (got : Str) (sp : Int) (ws : List Str) : Bool := match ws.getLast? with
  | none => false
  | some wl => if wl.length = 0 then emC got sp got.length ws else if Txt.endswith got wl then emC got sp ((got.length : Int) - wl.length) ws.dropLast else false
def emF (got : Str) (ws : List Str) : Bool := match ws with
  | [] => false
  | w0 :: r => if w0.length = 0 then emL got 0 ws else if Txt.startswith got w0 then emL got w0.length r else false
def emB (want got : Str) : Bool := if (occurrences want dots 0 want.length 1).isEmpty then want == got else emF got (Txt.split want dots)

abbrev lstS (l : List (Str × Tok)) : Obj := { cls := .type "list", data := .seq (strValues l).toArray }
def EMS (s : Shared) (L' : Addr) (got : Str) (sp ep : Int) (l : List (Str × Tok)) (s' : Shared) : Prop :=
  ∃ h' tk' D n u, s' = { s with heap := h', toks := tk' } ∧ Fr s.heap L' h' u ∧ News s.heap L' h' [(D, { cls := .type "list", data := .seq (strValues l).toArray n })] ∧
    (∀ a, a ∈ l.map (·.1) → a.length ≤ 1000) ∧ l.length ≤ 1002 ∧ (∃ t, u "startpos" = some (.int sp t)) ∧ (∃ t, u "endpos" = some (.int ep t)) ∧ u "ws" = some (.ref D) ∧ (∃ t, u "got" = some (.str got t))

theorem split_two {want : Str} (h : (occurrences want (Str.ofString "...") 0 want.length 1).isEmpty = false) : 2 ≤ (Txt.split want dots).length := split_two_dots h
local macro_rules | `(tactic| walk_at "call builtin:str.find") => `(tactic| (k_here; (with_reducible show wpAny _ _ (call (Value.builtin "str.find") [Value.str _ _, Value.str _ _, Value.int _ _, Value.int _ _]) _ _ _); (refine call_find4 ?_)))
theorem em_spec {w : World} {mean : ExcName → Option Value} {mg mb : Str → Option Value} {dp un : Nat} {gd : Option (List Code)} {outer : List Env} {s : Shared} {Q E : Value → Shared → Prop}
    (X : (hd.heap_39 w.params).In s.heap) (T : Top hd.view_39 (looseW hd.view_39 []) mean mg mb s.heap)
    (hdp : dp < recursionLimit) (want got : Str) (t1 t2 : Tok) (hw : want.length ≤ 1000) (hg : got.length ≤ 1000)
    (ret : ∀ h' tk', s.heap.StaysIn h' → Q (.bool (emB want got)) { s with heap := h', toks := tk' }) :
    wpAny (model PySem.Challenge.rw_mq0154_01.row.prog w) (aTop dp un gd outer) (call (.ref 21) [.str want t1, .str got t2]) Q E s := by
  refine wpAny_call ?_
  k_dflt (refine' enterP X T ?k6 ?k7 ?k8 ?k9 ?kB ?_ ?c2 ?c3 ?c4 ?c5; (case k6 => k_is); (case k7 => k_is); (case k8 => exact hdp); (case k9 => exact BindsTo.of_eq rfl); (case c5 => decide); (case kB => exact locs rfl); (case c2 => exact rfl); (case c3 => exact rfl); (case c4 => exact rfl))
  intro L' h' F' N'
  (try dsimp only); (try k_fold)
  obtain ⟨u, F, hu1, hu2⟩ : ∃ u, Fr s.heap L' h' u ∧ u "want" = some (.str want t1) ∧ u "got" = some (.str got t2) := ⟨_, F', rfl, rfl⟩
  clear F'
  have F1 := Fr_pins F [("want", .str want t1), ("got", .str got t2)] (by simp [hu1, hu2])
  dsimp only [pinL] at F1
  clear F
  refine execs_cut 4 (fun s' => Hold (∃ l, EMS s L' got 0 got.length l s' ∧ l.map (·.1) = Txt.split want dots ∧ 2 ≤ l.length ∧ emB want got = emF got (Txt.split want dots))) ?_ ?_
  · simp only [List.take]
    k_steps
    · rename_i hocc
      have r := fun tk => ret h' tk F1.keep
      rw [show emB want got = (want == got) from if_pos hocc] at r
      exact r _
    · rename Fr _ _ _ _ => kF
      rename News _ _ _ _ => kN
      rename List.map _ _ = _ => hmap
      rename (occurrences _ _ _ _ _).isEmpty = false => hocc
      rename (2 : Int) ≤ _ => h2
      with_reducible rename (∀ a, a ∈ _ → Str.length a ≤ _) => hall
      refine Hold.mk ⟨_, ⟨_, _, _, _, _, rfl, kF, fun p hp => kN p (.tail _ hp), fun a ha => Nat.le_trans (hall a ha) hw, ?_, ⟨_, rfl⟩, ⟨_, rfl⟩, rfl, ⟨_, rfl⟩⟩, hmap, by omega, ?_⟩
      · have := split_le want dots
        rw [← List.length_map (f := fun x : Str × Tok => x.1), hmap]
        exact Nat.le_trans this (by omega)
      · unfold emB
        rw [if_neg (by rw [show dots = Str.ofString "..." from rfl, hocc]; decide)]
    · rename List.map _ _ = _ => hmap
      rename (occurrences _ _ _ _ _).isEmpty = false => hocc
      rename ¬ (2 : Int) ≤ _ => h2
      exfalso
      apply h2
      have := split_two hocc
      rw [show Str.ofString "..." = dots from rfl] at hmap
      rw [← hmap, List.length_map] at this
      omega
  · rintro s' ⟨l, ⟨h', tk', D, n, u, rfl, F, N, hlen, hcnt, ⟨ts, hsp⟩, ⟨te, hep⟩, hws, ⟨tg, hgot⟩⟩, hl, h2, hem⟩
    simp only [List.drop]
    have F1 := Fr_pins F [("startpos", .int 0 ts), ("endpos", .int got.length te), ("ws", .ref D), ("got", .str got tg)] (by simp [hsp, hep, hws, hgot])
    dsimp only [pinL] at F1
    clear F
    refine execs_cut 2 (fun s' => Hold (∃ sp l, EMS s L' got sp got.length l s' ∧ 1 ≤ l.length ∧ emB want got = emL got sp (l.map (·.1)))) ?_ ?_
    · simp only [List.take]
      k_steps
      rename_i y0 t0 hy0 h1 F2 N2
      have hy : y0.length ≤ 1000 := hlen _ (List.mem_of_getElem? hy0)
      refine SBL.truthy (by omega) ?_
      have hl0 : ∃ p0 lr, l = p0 :: lr ∧ p0.1 = y0 := by
        cases l with
        | nil => simp at h2
        | cons p0 lr => exact ⟨p0, lr, rfl, by simpa using hy0⟩
      obtain ⟨p0, lr, rfl, rfl⟩ := hl0
      k_steps
      · rename Txt.startswith _ _ = true => hst
        rename Fr _ _ _ _ => F3
        rename News _ _ _ _ => N3
        rename (_ : Int) ≠ 0 => hne
        refine delItem_head F3 N3 (by intro _ hp; cases hp) (by decide) (k := 0) (by simp [strValues, seqIndex?]) (fun h4 F4 N4 => ?_) (by simp [strValues] at hcnt ⊢; rw [sizeLine_eq]; omega)
        have N5 : News s.heap L' h4 [(D, { cls := .type "list", data := .seq (strValues lr).toArray (n + 1) })] := by simpa [strValues] using N4
        k_steps
        refine Hold.mk ⟨_, lr, ⟨_, _, _, _, _, rfl, F4, N5, fun a ha => hlen a (by simp only [List.map_cons]; exact .tail _ ha), by simp at hcnt; omega, ⟨_, rfl⟩, ⟨_, rfl⟩, rfl, ⟨_, rfl⟩⟩, by simp at h2; omega, ?_⟩
        · rename List.map _ _ = _ => hlook
          rw [hem, ← hlook]
          unfold emF
          simp only [List.map_cons]
          rw [if_neg (by omega), if_pos hst]
      · rename Txt.startswith _ _ = false => hst
        rename (_ : Int) ≠ 0 => hne
        have r := fun tk => ret h1 tk F2.keep
        rename List.map _ _ = _ => hlook
        rw [show emB want got = false by
          rw [hem, ← hlook]
          unfold emF
          simp only [List.map_cons]
          rw [if_neg (by omega), if_neg (by rw [hst]; decide)]] at r
        exact r _
      · rename_i hne
        refine Hold.mk ⟨_, p0 :: lr, ⟨_, _, _, _, _, rfl, F2, N2, hlen, hcnt, ⟨_, rfl⟩, ⟨_, rfl⟩, rfl, ⟨_, rfl⟩⟩, by simp, ?_⟩
        rename List.map _ _ = _ => hlook
        rw [hem, ← hlook]
        unfold emF
        simp only [List.map_cons]
        rw [if_pos (by omega)]
    · clear F1 N hlen hcnt hl h2 hem hsp hep hws hgot u
      rintro s' ⟨sp, l, ⟨h', tk', D, n, u, rfl, F, N, hlen, hcnt, ⟨ts, hsp⟩, ⟨te, hep⟩, hws, ⟨tg, hgot⟩⟩, h1, hem⟩
      simp only [List.drop]
      have F1 := Fr_pins F [("startpos", .int sp ts), ("endpos", .int got.length te), ("ws", .ref D), ("got", .str got tg)] (by simp [hsp, hep, hws, hgot])
      dsimp only [pinL] at F1
      clear F
      refine execs_cut 2 (fun s' => Hold (∃ sp ep l, EMS s L' got sp ep l s' ∧ emB want got = emC got sp ep (l.map (·.1)))) ?_ ?_
      · simp only [List.take]
        k_steps
        have hl1 : ∃ li pl, l = li ++ [pl] := by
          rcases List.eq_nil_or_concat l with rfl | ⟨li, pl, rfl⟩
          · simp at h1
          · exact ⟨li, pl, by simp⟩
        obtain ⟨li, pl, rfl⟩ := hl1
        have hyl : pl.1.length ≤ 1000 := hlen _ (by simp)
        refine item_strsTneg (News.isList N (.head _)) (by decide) (by omega) (by decide) (fun y ty hy => ?_)
        have hyy : y = pl.1 := by
          have e : ((-1 : Int) + ((li ++ [pl]).length : Nat)).toNat = li.length := by simp; omega
          rw [e] at hy
          simpa using hy.symm
        subst hyy
        k_steps
        · rename Txt.endswith _ _ = true => hst
          rename Fr _ _ _ _ => F3
          rename News _ _ _ _ => N3
          rename (_ : Int) ≠ 0 => hne
          refine delItem_head F3 N3 (by intro _ hp; cases hp) (by decide) (k := li.length) (by simp [strValues, seqIndex?]; omega) (fun h4 F4 N4 => ?_) (by simp [strValues] at hcnt ⊢; rw [sizeLine_eq]; omega)
          have N5 : News s.heap L' h4 [(D, { cls := .type "list", data := .seq (strValues li).toArray (n + 1) })] := by
            have e : ((strValues (li ++ [pl])).toArray.toList.eraseIdx li.length) = strValues li := by simp [strValues, List.eraseIdx_append_of_length_le]
            rw [e] at N4
            exact N4
          k_steps
          refine Hold.mk ⟨_, _, li, ⟨_, _, _, _, _, rfl, F4, N5, fun a ha => hlen a (by rw [List.map_append]; exact List.mem_append_left _ ha), by simp at hcnt; omega, ⟨_, rfl⟩, ⟨_, rfl⟩, rfl, ⟨_, rfl⟩⟩, ?_⟩
          · rw [hem]
            unfold emL
            simp only [List.map_append, List.map_cons, List.map_nil, List.getLast?_append, List.getLast?_singleton, Option.some_or]
            rw [if_neg (by omega), if_pos hst, List.dropLast_concat]
        · rename Txt.endswith _ _ = false => hst
          rename (_ : Int) ≠ 0 => hne
          rename Fr _ _ _ _ => F2
          have r := fun tk => ret _ tk F2.keep
          rw [show emB want got = false by
            rw [hem]
            unfold emL
            simp only [List.map_append, List.map_cons, List.map_nil, List.getLast?_append, List.getLast?_singleton, Option.some_or]
            rw [if_neg (by omega), if_neg (by rw [hst]; decide)]] at r
          exact r _
        · rename (_ : Int) = 0 => hne
          rename Fr _ _ _ _ => F2
          rename News _ _ _ _ => N2
          refine Hold.mk ⟨_, _, li ++ [pl], ⟨_, _, _, _, _, rfl, F2, N2, hlen, hcnt, ⟨_, rfl⟩, ⟨_, rfl⟩, rfl, ⟨_, rfl⟩⟩, ?_⟩
          rw [hem]
          unfold emL
          simp only [List.map_append, List.map_cons, List.map_nil, List.getLast?_append, List.getLast?_singleton, Option.some_or]
          rw [if_pos (by omega)]
      · clear F1 N hlen hcnt h1 hem hsp hep hws hgot u
        rintro s' ⟨sp, ep, l, ⟨h', tk', D, n, u, rfl, F, N, hlen, hcnt, ⟨ts, hsp⟩, ⟨te, hep⟩, hws, ⟨tg, hgot⟩⟩, hem⟩
        simp only [List.drop]
        have F1 := Fr_pins F [("startpos", .int sp ts), ("endpos", .int ep te), ("ws", .ref D), ("got", .str got tg)] (by simp [hsp, hep, hws, hgot])
        dsimp only [pinL] at F1
        clear F
        refine execs_cut 1 (fun s' => Hold (EMS s L' got sp ep l s' ∧ emB want got = emTail got ep (l.map (·.1)) sp)) ?_ ?_
        · simp only [List.take]
          k_steps
          · rename_i hlt
            have r := fun tk => ret _ tk F1.keep
            rw [show emB want got = false by rw [hem]; unfold emC; rw [if_pos hlt]] at r
            exact r _
          · rename_i hlt
            refine Hold.mk ⟨⟨_, _, _, _, _, rfl, F1, N, hlen, hcnt, ⟨_, rfl⟩, ⟨_, rfl⟩, rfl, ⟨_, rfl⟩⟩, ?_⟩
            rw [hem]; unfold emC; rw [if_neg hlt]
        · clear F1 N hlen hcnt hem hsp hep hws hgot u
          rintro s' ⟨⟨h', tk', D, n, u, rfl, F, N, hlen, hcnt, ⟨ts, hsp⟩, ⟨te, hep⟩, hws, ⟨tg, hgot⟩⟩, hem⟩
          simp only [List.drop]
          have F1 := Fr_pins F [("startpos", .int sp ts), ("endpos", .int ep te), ("ws", .ref D), ("got", .str got tg)] (by simp [hsp, hep, hws, hgot])
          dsimp only [pinL] at F1
          clear F
          refine execs_cons' ?_
          refine For_invV s.heap rfl rfl ?_
          refine ld F1 rfl ?_
          refine iterLed (fun i m => (∃ t sp', m "startpos" = some (.int sp' t) ∧ emB want got = emTail got ep ((l.map (·.1)).drop i) sp') ∧ (∃ t, m "endpos" = some (.int ep t)) ∧ m "ws" = some (.ref D) ∧ (∃ t, m "got" = some (.str got t)))
            rfl F1 N (.head _) ⟨⟨_, sp, rfl, by rw [List.drop_zero]; exact hem⟩, ⟨_, rfl⟩, rfl, ⟨_, rfl⟩⟩ ?_ ?_
          · rintro i v m₁ h tk I oI hv ⟨⟨ts', sp', hsp', hem'⟩, ⟨te', hep'⟩, hws', ⟨tg', hgot'⟩⟩ F2 N2 hI
            have hli : ∃ p, l[i]? = some p ∧ v = .str p.1 p.2 := by
              simp only [strValues, List.getElem?_toArray, List.getElem?_map, Option.map_eq_some_iff] at hv
              obtain ⟨p, hp, rfl⟩ := hv
              exact ⟨p, hp, rfl⟩
            obtain ⟨p, hp, rfl⟩ := hli
            have hpl : p.1.length ≤ 1000 := hlen _ (List.mem_map_of_mem (List.mem_of_getElem? hp))
            have hdrop : (l.map (·.1)).drop i = p.1 :: (l.map (·.1)).drop (i + 1) := by
              have hlt : i < l.length := (List.getElem?_eq_some_iff.mp hp).1
              rw [List.drop_eq_getElem_cons (by simpa using hlt)]
              simp only [List.getElem_map]
              rw [(List.getElem?_eq_some_iff.mp hp).2]
            rw [hdrop] at hem'
            have F3 : Fr s.heap L' h (fun y => if y = "w" then some (Value.str p.1 p.2) else m₁ y) := F2
            have F4 := Fr_pins F3 [("w", .str p.1 p.2), ("startpos", .int sp' ts'), ("endpos", .int ep te'), ("ws", .ref D), ("got", .str got tg')] (by
              simp only [List.mem_cons, List.not_mem_nil, or_false, forall_eq_or_imp, forall_eq]
              refine ⟨rfl, ?_, ?_, ?_, ?_⟩ <;> (rw [if_neg (by decide)]; assumption))
            dsimp only [pinL] at F4
            have N4 : News s.heap L' h [(I, oI), (D, { cls := Value.type "list", data := Data.seq (strValues l).toArray n })] := N2
            clear F2 F3 N2
            k_steps
            · rename find4 _ _ _ _ < 0 => hneg
              rename Fr _ _ _ _ => F5
              have r := fun tk => ret _ tk F5.keep
              rw [show emB want got = false by rw [hem', emTail_cons, if_pos hneg]] at r
              exact r _
            · rename ¬ find4 _ _ _ _ < 0 => hneg
              rename Fr _ _ _ _ => F5
              rename News _ _ _ _ => N5
              refine Hold.mk ⟨_, _, _, rfl, F5, N5, ⟨_, _, rfl, ?_⟩, ⟨_, rfl⟩, rfl, ⟨_, rfl⟩⟩
              rw [hem', emTail_cons, if_neg hneg]
          · rintro m₁ h tk ⟨⟨ts', sp', hsp', hem'⟩, ⟨te', hep'⟩, hws', ⟨tg', hgot'⟩⟩ F2 N2
            k_steps
            have r := fun tk => ret _ tk F2.keep
            rw [show emB want got = true by
              rw [hem', List.drop_of_length_le (by simp [strValues])]
              rfl] at r
            exact r _
end Mine

/- part MSld -/
theorem Mine.offMSld : True := by
  w_top off
  trivial
namespace Mine
open PySem PySem.Spec PySem.Calls PySem.W PyProof.Rows
set_option maxHeartbeats 8000000
theorem fillSld (w : World) : (hd.heap_39 w.params) = (hd.heap_39 w.params) ∧ PySem.Challenge.rw_mq0154_01.prog = PySem.Challenge.rw_mq0154_01.prog := by k_fill; exact ⟨rfl, rfl⟩

section
variable {prog : Program} {w : World} {A : Around} {E : Value → Shared → Prop} {s : Shared} {env : Env}
theorem while_once {test : Expr} {body : List Stmt} {pos : Pos} {Q : Flow → Shared → Prop}
    (h : wpAny (model prog w) A (isTrue test env (eval test env)) (fun b s₂ => if b = true then Hold False else Q .next s₂) (notedBy (model prog w) A env (cameBackBy (model prog w) A env E)) s) :
    wpAny (model prog w) A (exec (.While test body [] pos) env) Q E s := by
  refine wpAny_While (codeAny_whileLoop (fun n s' => n = 0 ∧ s' = s) ?_ 0 ⟨rfl, rfl⟩)
  rintro n s' ⟨rfl, rfl⟩
  refine wpAny_mono h (fun b s₂ hb => ?_) fun _ _ e => e
  cases b with
  | true =>
    simp only [if_true] at hb
    exact hb.rec fun f => f.elim
  | false =>
    simp only [Bool.false_eq_true, if_false] at hb ⊢
    exact wpAny_execs_nil hb
end

theorem isTrue_Const_true {M : Model} {A : Around} {E : Value → Shared → Prop} {s : Shared} {env : Env} {k : Nat} {pos : Pos} {Q : Bool → Shared → Prop} (h : Q true s) :
    wpAny M A (isTrue (.Constant (.bool true) k pos) env (eval (.Constant (.bool true) k pos) env)) Q E s := fun _ _ _ => h
theorem StrsAre_drop : ∀ {vs : List Value} {xs : List Str} (n : Nat), StrsAre vs xs → StrsAre (vs.drop n) (xs.drop n)
  | _, _, 0, h => h
  | _, _, _ + 1, .nil => .nil
  | _, _, n + 1, .cons _ _ h => StrsAre_drop n h
def strLt (x y : Str) : Bool := decide (x.cps.toList < y.cps.toList)
def sdiff : List Str → List Str → List Str × List Str
  | [], ys => ([], ys)
  | x :: xs, [] => (x :: xs, [])
  | x :: xs, y :: ys => if strLt x y then (x :: (sdiff xs (y :: ys)).1, (sdiff xs (y :: ys)).2) else if strLt y x then ((sdiff (x :: xs) ys).1, y :: (sdiff (x :: xs) ys).2) else sdiff xs ys
termination_by xs ys => xs.length + ys.length


abbrev lsO (ms : List Value) (n : Nat) : Obj := { cls := .type "list", data := .seq ms.toArray n }
structure SLU (l1 l2 : Addr) (i j : Nat) (D1 D2 : Addr) (u : Str → Option Value) : Prop where
  um : u "missing" = some (.ref D1)
  uu : u "unexpected" = some (.ref D2)
  ui : ∃ t, u "i" = some (.int i t)
  uj : ∃ t, u "j" = some (.int j t)
  ue : u "expected" = some (.ref l1)
  ua : u "actual" = some (.ref l2)
structure SLH (g : Heap) (L' L1 : Addr) (o1 : Obj) (ms us : List Value) (u : Str → Option Value) (D1 D2 : Addr) (n1 n2 : Nat) (sl : Array (Option Value)) (h' : Heap) : Prop where
  F : Fr g L' h' u
  N : News g L' h' [(D2, lsO us n2), (D1, lsO ms n1), (L1, { o1 with slots := sl })]
  hD1 : @LT.lt Nat _ L1 D1
  hDD : @LT.lt Nat _ D1 D2
structure SLB (g : Heap) (L' L1 : Addr) (ms us : List Value) (D1 D2 : Addr) (n1 n2 : Nat) (B : Heap) : Prop where
  stays : g.StaysIn B
  d1 : B.get? D1 = some (lsO ms n1)
  d2 : B.get? D2 = some (lsO us n2)
  g1 : g.get? D1 = none
  g2 : g.get? D2 = none
  e1 : D1 ≠ L'
  e2 : D2 ≠ L'
  hD1 : @LT.lt Nat _ L1 D1
  hDD : @LT.lt Nat _ D1 D2
theorem SLB.of {g h : Heap} {L' L1 : Addr} {o1 : Obj} {ms us : List Value} {u : Str → Option Value} {D1 D2 : Addr} {n1 n2 : Nat} {sl : Array (Option Value)} (x : SLH g L' L1 o1 ms us u D1 D2 n1 n2 sl h) (hg1 : g.get? L1 = none) (ex : List Addr)
    (hex : ∀ a ∈ ex, a = L' ∨ a = L1 ∨ (g.get? a = none ∧ a ≠ D1 ∧ a ≠ D2)) : SLB g L' L1 ms us D1 D2 n1 n2 (hideAll h ex) := by
  have p1 := x.N (D1, lsO ms n1) (.tail _ (.head _))
  have p2 := x.N (D2, lsO us n2) (.head _)
  have hLg : g.get? L' = none := Heap.get?_none_of_le x.F.above
  have hlt := x.hD1
  have hlt2 := x.hDD
  refine ⟨fun b o hb => hideAll_get _ (x.F.keep b o hb) fun hm => ?_, hideAll_get _ p1.1 fun hm => ?_, hideAll_get _ p2.1 fun hm => ?_, p1.2.2, p2.2.2, p1.2.1, p2.2.1, hlt, hlt2⟩
  · rcases hex b hm with rfl | rfl | ⟨q, _⟩
    · rw [hLg] at hb; cases hb
    · rw [hg1] at hb; cases hb
    · rw [q] at hb; cases hb
  · rcases hex D1 hm with q | q | ⟨_, q, _⟩
    · exact p1.2.1 q
    · exact absurd q (Nat.ne_of_gt hlt)
    · exact q rfl
  · rcases hex D2 hm with q | q | ⟨_, _, q⟩
    · exact p2.2.1 q
    · exact absurd q (Nat.ne_of_gt (Nat.lt_trans hlt hlt2))
    · exact q rfl
theorem SLB.back {g B h' : Heap} {L' L1 e : Addr} {o1 : Obj} {c : Value} {ms us : List Value} {u : Str → Option Value} {D1 D2 : Addr} {n1 n2 : Nat} (x : SLB g L' L1 ms us D1 D2 n1 n2 B) (y : EX B L' L1 u o1 c e h') (hg1 : g.get? L1 = none) (hLL : L1 ≠ L') (hab : g.objs.size ≤ L') :
    ∃ sl, SLH g L' L1 o1 ms us u D1 D2 n1 n2 sl h' := by
  obtain ⟨sl, hsl⟩ := y.top
  refine ⟨sl, ⟨y.ns, fun b o hb => y.stays b o (x.stays b o hb), hab⟩, fun p hp => ?_, x.hD1, x.hDD⟩
  simp only [List.mem_cons, List.not_mem_nil, or_false] at hp
  rcases hp with rfl | rfl | rfl
  · exact ⟨y.stays _ _ x.d2, x.e2, x.g2⟩
  · exact ⟨y.stays _ _ x.d1, x.e1, x.g1⟩
  · exact ⟨hsl, hLL, hg1⟩

def SLP (x1 x2 : List Str) (i j : Nat) (ms us : List Value) : Prop := ∃ mx ux, StrsAre ms mx ∧ StrsAre us ux ∧ mx.length ≤ i ∧ ux.length ≤ j ∧ i ≤ x1.length ∧ j ≤ x2.length ∧
  sdiff x1 x2 = (mx ++ (sdiff (x1.drop i) (x2.drop j)).1, ux ++ (sdiff (x1.drop i) (x2.drop j)).2)
def SLQ (x1 x2 : List Str) (i j : Nat) (ms us : List Value) : Prop := ∃ mx ux, StrsAre ms mx ∧ StrsAre us ux ∧ mx.length ≤ i ∧ ux.length ≤ j ∧ i ≤ x1.length ∧ j ≤ x2.length ∧
  sdiff x1 x2 = (mx ++ x1.drop i, ux ++ x2.drop j)
def SLD (s : Shared) (g : Heap) (L' L1 : Addr) (o1 : Obj) (l1 l2 : Addr) (x1 x2 : List Str) (i j : Nat) (s' : Shared) : Prop :=
  ∃ h' tk' D1 D2 n1 n2 sl u ms us, s' = { s with heap := h', toks := tk' } ∧ SLH g L' L1 o1 ms us u D1 D2 n1 n2 sl h' ∧ SLU l1 l2 i j D1 D2 u ∧ SLP x1 x2 i j ms us
/-- an IndexError under way -/
def SLR (s : Shared) (g : Heap) (L' L1 : Addr) (o1 : Obj) (l1 l2 : Addr) (x1 x2 : List Str) (e : Value) (s' : Shared) : Prop :=
  ∃ ea c B h' tk' D1 D2 n1 n2 u ms us i j, e = .ref ea ∧ s' = { s with heap := h', toks := tk' } ∧ EX B L' L1 u o1 c ea h' ∧ SLB g L' L1 ms us D1 D2 n1 n2 B ∧ SLU l1 l2 i j D1 D2 u ∧ SLQ x1 x2 i j ms us
/-- the loop's end -/
def SLE (s : Shared) (g : Heap) (L' L1 : Addr) (o1 : Obj) (x1 x2 : List Str) (s' : Shared) : Prop :=
  ∃ h' tk' D1 D2 n1 n2 sl u ms us, s' = { s with heap := h', toks := tk' } ∧ Fr g L' h' u ∧ News g L' h' [(D2, lsO us n2), (D1, lsO ms n1), (L1, { o1 with slots := sl })] ∧ @LT.lt Nat _ L1 D1 ∧ @LT.lt Nat _ D1 D2 ∧
    u "missing" = some (.ref D1) ∧ u "unexpected" = some (.ref D2) ∧ StrsAre ms (sdiff x1 x2).1 ∧ StrsAre us (sdiff x1 x2).2

theorem try_rule {prog : Program} {w : World} {A : Around} {E : Value → Shared → Prop} {s : Shared} {env : Env} {body : List Stmt} {h₀ : ExceptHandler} {hs : List ExceptHandler} {pos : Pos} {Q : Flow → Shared → Prop} (R : Value → Shared → Prop)
    (h1 : wpAny (model prog w) A (execs body env) Q R s)
    (h2 : ∀ e s₁, R e s₁ → wpAny (model prog w) A (noteFrame e env) (fun _ s₂ => wpAny (model prog w) A (setFlight e none) (fun _ s₃ => wpAny (model prog w) A (handleBy e env (h₀ :: hs)) Q E s₃) E s₂) E s₁) :
    wpAny (model prog w) A (exec (.Try body (h₀ :: hs) [] [] pos) env) Q E s :=
  wpAny_Try_except (wpAny_mono h1 (fun f s₁ hf => by cases f <;> first | exact wpAny_execs_nil hf | exact hf) h2)

local macro_rules | `(tactic| walk_at "go") => `(tactic| repeat' (first | (k_unfold; (try dsimp only)) | walk1 | (dsimp only; walk1)))
local macro_rules | `(tactic| walk_at "subscriptTail Name Name ref int") => `(tactic| refine Stop.out ?_)
local macro_rules | `(tactic| walk_at "call builtin:list.extend") => `(tactic| refine Stop.out ?_)
local macro_rules | `(tactic| walk_at "passOn") => `(tactic| refine Stop.out ?_)
local macro_rules | `(tactic| walk_at "exec While Compare cons nil") => `(tactic| (k_here; refine while_once ?_))
theorem sld_spec {w : World} {mean : ExcName → Option Value} {mg mb : Str → Option Value} {dp un : Nat} {gd : Option (List Code)} {env1 : Env} {base : Heap} {s : Shared} {Q E : Value → Shared → Prop} {L1 : Addr} {o1 : Obj}
    (B : Below (aTop dp un gd [env1]) base [env1] s.heap) (X : (hd.heap_39 w.params).In base) (T : Top hd.view_39 (looseW hd.view_39 []) mean mg mb base)
    (hf1 : env1.frame = some L1) (hk1 : env1.scope.kind = .function) (ho1 : s.heap.get? L1 = some o1) (hd1 : ∀ vs, o1.data ≠ .fields vs) (hds : ∀ xs n, o1.data ≠ .seq xs n)
    (hdp : dp < recursionLimit) (l1 l2 : Addr) (v1 v2 : List Value) (x1 x2 : List Str) (hl1 : s.heap.IsList l1 v1.toArray) (hl2 : s.heap.IsList l2 v2.toArray) (s1 : StrsAre v1 x1) (s2 : StrsAre v2 x2)
    (hn1 : x1.length ≤ 1000) (hn2 : x2.length ≤ 1000) (ho1' : ∀ i x y, x1[i]? = some x → x1[i + 1]? = some y → x ≠ y) (ho2' : ∀ i x y, x2[i]? = some x → x2[i + 1]? = some y → x ≠ y)
    (ret : ∀ h' tk' Tt E1 E2 n1 n2 ms us, (∀ b o, b ≠ L1 → s.heap.get? b = some o → h'.get? b = some o) → (∃ sl, h'.get? L1 = some { o1 with slots := sl }) →
      h'.get? Tt = some { cls := .type "tuple", data := .seq #[.ref E1, .ref E2] } → h'.get? E1 = some (lsO ms n1) → h'.get? E2 = some (lsO us n2) → s.heap.get? Tt = none → s.heap.get? E1 = none → s.heap.get? E2 = none → @LT.lt Nat _ E1 E2 → @LT.lt Nat _ E2 Tt →
      StrsAre ms (sdiff x1 x2).1 → StrsAre us (sdiff x1 x2).2 → Q (.ref Tt) { s with heap := h', toks := tk' }) :
    wpAny (model PySem.Challenge.rw_mq0154_01.row.prog w) (aTop dp un gd [env1]) (call (.ref 28) [.ref l1, .ref l2]) Q E s := by
  have hbL1 : base.get? L1 = none := (B.frames.mem (b := L1) (by simp [hf1])).1
  have hgs : base.StaysIn (hideAll s.heap [L1]) := fun b o hb => hideAll_get _ (B.stays b o hb) (by
    intro hm
    rw [List.mem_singleton.mp hm, hbL1] at hb
    cases hb)
  have Xg := X.keeps hgs
  have Tg := T.keeps hgs
  have Xs := X.keeps B.stays
  have Ts := T.keeps B.stays
  have gl1 : (hideAll s.heap [L1]).IsList l1 v1.toArray := by
    obtain ⟨o, ho, hc, n, hd⟩ := hl1
    refine ⟨o, hideAll_get _ ho ?_, hc, n, hd⟩
    intro hm
    rw [List.mem_singleton.mp hm, ho1] at ho
    cases ho
    exact hds _ _ hd
  have gl2 : (hideAll s.heap [L1]).IsList l2 v2.toArray := by
    obtain ⟨o, ho, hc, n, hd⟩ := hl2
    refine ⟨o, hideAll_get _ ho ?_, hc, n, hd⟩
    intro hm
    rw [List.mem_singleton.mp hm, ho1] at ho
    cases ho
    exact hds _ _ hd
  have gL1 : (hideAll s.heap [L1]).get? L1 = none := hideAll_none _ (.head _)
  refine wpAny_call ?_
  k_dflt (refine' enterP Xs Ts ?k6 ?k7 ?k8 ?k9 ?kB ?_ ?c2 ?c3 ?c4 ?c5; (case k6 => k_is); (case k7 => k_is); (case k8 => exact hdp); (case k9 => exact BindsTo.of_eq rfl); (case c5 => decide); (case kB => exact locs rfl); (case c2 => exact rfl); (case c3 => exact rfl); (case c4 => exact rfl))
  intro L' h' F' N'
  (try dsimp only); (try k_fold)
  obtain ⟨u, F, hu1, hu2⟩ : ∃ u, Fr s.heap L' h' u ∧ u "expected" = some (.ref l1) ∧ u "actual" = some (.ref l2) := ⟨_, F', rfl, rfl⟩
  clear F' N'
  have hLL : L1 ≠ L' := Nat.ne_of_lt (Nat.lt_of_lt_of_le (Heap.lt_size ho1) F.above)
  have Fg : Fr (hideAll s.heap [L1]) L' h' u := ⟨F.ns, fun b o hb => F.keep b o (of_hideAll _ hb), by rw [hideAll_size]; exact F.above⟩
  have Ng : News (hideAll s.heap [L1]) L' h' [(L1, o1)] := fun p hp => by
    rw [List.mem_singleton.mp hp]
    exact ⟨F.keep _ _ ho1, hLL, hideAll_none _ (.head _)⟩
  clear F
  have hgL : (hideAll s.heap [L1]).objs.size ≤ L' := Fg.above
  generalize hg : hideAll s.heap [L1] = g at *
  have F1 := Fr_pins Fg [("expected", .ref l1), ("actual", .ref l2)] (by simp [hu1, hu2])
  dsimp only [pinL] at F1
  clear Fg
  refine execs_cut 3 (fun s' => Hold (SLD s g L' L1 o1 l1 l2 x1 x2 0 0 s')) ?_ ?_
  · simp only [List.take]
    walk_at "go"
    rename Fr _ _ _ _ => kF
    rename News _ _ _ _ => kN
    rename_i ll _ _ _ _
    refine Hold.mk ⟨_, _, _, _, _, _, o1.slots, _, [], [], rfl, ⟨kF, kN, by omega, by omega⟩, ⟨rfl, rfl, ⟨_, rfl⟩, ⟨_, rfl⟩, rfl, rfl⟩, [], [], .nil, .nil, by simp, by simp, by simp, by simp, by simp⟩
  · rintro s' ⟨hs⟩
    simp only [List.drop]
    refine execs_cons' ?_
    refine wpAny_While (codeAny_whileLoop (fun n s' => ∃ i j, n + i + j = x1.length + x2.length + 1 ∧ SLD s g L' L1 o1 l1 l2 x1 x2 i j s') ?_ (x1.length + x2.length + 1) ⟨0, 0, by omega, hs⟩)
    rintro n s' ⟨i, j, hn, h', tk', D1, D2, n1, n2, sl, u, ms, us, rfl, ⟨F, N, hD1, hDD⟩, ⟨hum, huu, ⟨ti, hui⟩, ⟨tj, huj⟩, hue, hua⟩, hP⟩
    have F1 := Fr_pins F [("i", .int i ti), ("j", .int j tj), ("missing", .ref D1), ("unexpected", .ref D2), ("expected", .ref l1), ("actual", .ref l2)] (by simp [hui, huj, hum, huu, hue, hua])
    dsimp only [pinL] at F1
    clear F
    refine isTrue_Const_true ?_
    simp only [if_true]
    refine execs_cons' ?_
    refine wpAny_mono (Q := fun f s' => match f with
      | .next => Hold (∃ i' j', i + j < i' + j' ∧ SLD s g L' L1 o1 l1 l2 x1 x2 i' j' s')
      | .brk => Hold (SLE s g L' L1 o1 x1 x2 s')
      | _ => False) (E := fun _ _ => False) ?_ ?_ (fun _ _ f => f.elim)
    rotate_left
    · intro f s' hf
      cases f with
      | next =>
        obtain ⟨i', j', hlt, hD⟩ := hf
        obtain ⟨hi2, hj2⟩ : i' ≤ x1.length ∧ j' ≤ x2.length := by
          obtain ⟨_, _, _, _, _, _, _, _, _, _, _, _, _, mx, ux, _, _, _, _, h1, h2, _⟩ := hD
          exact ⟨h1, h2⟩
        exact execs_nil' ⟨x1.length + x2.length + 1 - i' - j', by omega, i', j', by omega, hD⟩
      | brk =>
        obtain ⟨h9, tk9, E1, E2, m1, m2, sl9, u9, ms9, us9, rfl, F9, N9, hE1, hEE, um9, uu9, hms9, hus9⟩ := hf
        have F10 := Fr_pins F9 [("missing", .ref E1), ("unexpected", .ref E2)] (by simp [um9, uu9])
        dsimp only [pinL] at F10
        show wpAny _ _ (execs _ _) _ _ _
        walk_at "go"
        rename Fr _ _ _ _ => F11
        rename News _ _ _ _ => N11
        rename _ ∧ _ => hlt11
        have hno : ∀ a : Addr, g.get? a = none → a ≠ L1 → s.heap.get? a = none := fun a h1 hne => by
          cases q : s.heap.get? a with
          | none => rfl
          | some o =>
            rw [← hg, hideAll_get [L1] q (by simpa using hne)] at h1
            cases h1
        refine ret _ _ _ E1 E2 m1 m2 ms9 us9 (fun b o hb hq => F11.keep b o (by rw [← hg]; exact hideAll_get _ hq (by simpa using hb))) ⟨sl9, (N11 _ (.tail _ (.tail _ (.tail _ (.head _))))).1⟩
          (N11 _ (.head _)).1 (N11 _ (.tail _ (.tail _ (.head _)))).1 (N11 _ (.tail _ (.head _))).1 (hno _ (N11 _ (.head _)).2.2 (Nat.ne_of_gt hlt11.2.2)) (hno _ (N11 _ (.tail _ (.tail _ (.head _)))).2.2 (Nat.ne_of_gt hE1)) (hno _ (N11 _ (.tail _ (.head _))).2.2 (Nat.ne_of_gt (Nat.lt_trans hE1 hEE))) hEE hlt11.1 hms9 hus9
      | cont => exact hf.elim
      | ret v => exact hf.elim
    refine try_rule (fun e s' => Hold (SLR s g L' L1 o1 l1 l2 x1 x2 e s')) ?_ ?_
    · obtain ⟨mx, ux, hmx, hux, hml, hul, hi', hj', hsd⟩ := id hP
      have hex2 : ∀ {d1 d2 : Addr}, ∀ a ∈ [L', L1], a = L' ∨ a = L1 ∨ (g.get? a = none ∧ a ≠ d1 ∧ a ≠ d2) := by
        intro d1 d2 a ha
        simp only [List.mem_cons, List.not_mem_nil, or_false] at ha
        rcases ha with rfl | rfl
        · exact .inl rfl
        · exact .inr (.inl rfl)
      have hv1s : v1.length = x1.length := s1.length
      have hv2s : v2.length = x2.length := s2.length
      walk_at "go"
      by_cases hi : i < x1.length
      · obtain ⟨t1, hv1⟩ : ∃ t, v1[i]? = some (.str x1[i] t) := s1.get i _ (List.getElem?_eq_getElem hi)
        refine Stop.mk (item_inX (gl1.at fun o e => F1.keep l1 o e) (by omega) (by omega) (by rw [List.getElem?_toArray, Int.toNat_natCast]; exact hv1) ?_)
        walk_at "go"
        by_cases hj : j < x2.length
        · obtain ⟨t2, hv2⟩ : ∃ t, v2[j]? = some (.str x2[j] t) := s2.get j _ (List.getElem?_eq_getElem hj)
          rename Fr _ _ _ _ => F2
          refine Stop.mk (item_inX (gl2.at fun o e => F2.keep l2 o e) (by omega) (by omega) (by rw [List.getElem?_toArray, Int.toNat_natCast]; exact hv2) ?_)
          walk_at "go"
          · -- e < a
            rename Fr _ _ _ _ => F3
            rename News _ _ _ _ => N3
            rename (_ : List Nat) < _ => hlt
            rw [List.push_toArray] at N3
            have N4 := N3
            have hmx' : StrsAre (ms ++ [Value.str x1[i] t1]) (mx ++ [x1[i]]) := hmx.append' (.cons _ _ .nil)
            have hst : strLt x1[i] x2[j] = true := decide_eq_true hlt
            have hsd' : sdiff x1 x2 = ((mx ++ [x1[i]]) ++ (sdiff (x1.drop (i + 1)) (x2.drop j)).1, ux ++ (sdiff (x1.drop (i + 1)) (x2.drop j)).2) := by
              rw [hsd, List.drop_eq_getElem_cons hi, List.drop_eq_getElem_cons hj, sdiff, if_pos hst, List.append_assoc]
              rfl
            by_cases hi2 : i + 1 < x1.length
            · obtain ⟨t1', hv1'⟩ : ∃ t, v1[i + 1]? = some (.str x1[i + 1] t) := s1.get (i + 1) _ (List.getElem?_eq_getElem hi2)
              refine Stop.mk (item_inX (gl1.at fun o e => F3.keep l1 o e) (by omega) (by omega) (by rw [List.getElem?_toArray, show ((i : Int) + 1).toNat = i + 1 by omega]; exact hv1') ?_)
              walk_at "go"
              · rename (_ == _) = true => hb
                exact Hold.mk (ho1' i _ _ (List.getElem?_eq_getElem hi) (List.getElem?_eq_getElem hi2) (eq_of_beq hb).symm)
              · exact Hold.mk ⟨i + 1, j, by omega, _, _, D1, D2, _, _, sl, _, _, us, rfl, ⟨F3, N4, hD1, hDD⟩, ⟨rfl, rfl, ⟨_, rfl⟩, ⟨_, rfl⟩, rfl, rfl⟩, mx ++ [x1[i]], ux, hmx', hux, by simp; omega, hul, by omega, hj', hsd'⟩
            · refine Stop.mk (item_outX (c := .none) (.inl ⟨rfl, rfl⟩) (gl1.at fun o e => F3.keep l1 o e) (by omega) (by simp; omega) (by omega) (fun h' tk e hx => ?_))
              refine ex_back rfl rfl rfl hf1 hk1 (exStart F3 N4 (.tail _ (.tail _ (.head _))) hd1 hx) fun h'' x'' => ?_
              refine Hold.mk ⟨e, .none, _, h'', tk, D1, D2, _, n2, _, _, us, i + 1, j, rfl, rfl, x'', SLB.of ⟨F3, N4, hD1, hDD⟩ gL1 _ hex2, ⟨rfl, rfl, ⟨_, rfl⟩, ⟨_, rfl⟩, rfl, rfl⟩, mx ++ [x1[i]], ux, hmx', hux, by simp; omega, hul, by omega, hj', ?_⟩
              rw [hsd', List.drop_of_length_le (l := x1) (by omega)]
              simp [sdiff]
          · -- e > a
            rename Fr _ _ _ _ => F3
            rename News _ _ _ _ => N3
            rename (_ : List Nat) < _ => hlt
            rename ¬ (_ : List Nat) < _ => hnlt
            rw [List.push_toArray] at N3
            have N4 := N3
            have hux' : StrsAre (us ++ [Value.str x2[j] t2]) (ux ++ [x2[j]]) := hux.append' (.cons _ _ .nil)
            have hst : strLt x2[j] x1[i] = true := decide_eq_true hlt
            have hst' : ¬ strLt x1[i] x2[j] = true := by unfold strLt; rw [decide_eq_true_iff]; exact hnlt
            have hsd' : sdiff x1 x2 = (mx ++ (sdiff (x1.drop i) (x2.drop (j + 1))).1, (ux ++ [x2[j]]) ++ (sdiff (x1.drop i) (x2.drop (j + 1))).2) := by
              rw [hsd, List.drop_eq_getElem_cons hi, List.drop_eq_getElem_cons hj, sdiff, if_neg hst', if_pos hst, List.append_assoc]
              rfl
            by_cases hj2 : j + 1 < x2.length
            · obtain ⟨t2', hv2'⟩ : ∃ t, v2[j + 1]? = some (.str x2[j + 1] t) := s2.get (j + 1) _ (List.getElem?_eq_getElem hj2)
              refine Stop.mk (item_inX (gl2.at fun o e => F3.keep l2 o e) (by omega) (by omega) (by rw [List.getElem?_toArray, show ((j : Int) + 1).toNat = j + 1 by omega]; exact hv2') ?_)
              walk_at "go"
              · rename (_ == _) = true => hb
                exact Hold.mk (ho2' j _ _ (List.getElem?_eq_getElem hj) (List.getElem?_eq_getElem hj2) (eq_of_beq hb).symm)
              · exact Hold.mk ⟨i, j + 1, by omega, _, _, D1, D2, _, _, sl, _, ms, _, rfl, ⟨F3, N4, hD1, hDD⟩, ⟨rfl, rfl, ⟨_, rfl⟩, ⟨_, rfl⟩, rfl, rfl⟩, mx, ux ++ [x2[j]], hmx, hux', hml, by simp; omega, hi', by omega, hsd'⟩
            · refine Stop.mk (item_outX (c := .none) (.inl ⟨rfl, rfl⟩) (gl2.at fun o e => F3.keep l2 o e) (by omega) (by simp; omega) (by omega) (fun h' tk e hx => ?_))
              refine ex_back rfl rfl rfl hf1 hk1 (exStart F3 N4 (.tail _ (.tail _ (.head _))) hd1 hx) fun h'' x'' => ?_
              refine Hold.mk ⟨e, .none, _, h'', tk, D1, D2, n1, _, _, ms, _, i, j + 1, rfl, rfl, x'', SLB.of ⟨F3, N4, hD1, hDD⟩ gL1 _ hex2, ⟨rfl, rfl, ⟨_, rfl⟩, ⟨_, rfl⟩, rfl, rfl⟩, mx, ux ++ [x2[j]], hmx, hux', hml, by simp; omega, hi', by omega, ?_⟩
              rw [hsd', List.drop_of_length_le (l := x2) (by omega)]
              cases x1.drop i <;> simp [sdiff]
          · -- e = a
            rename Fr _ _ _ _ => F3
            rename News _ _ _ _ => N3
            have hst1 : ¬ strLt x1[i] x2[j] = true := by unfold strLt; rw [decide_eq_true_iff]; assumption
            have hst2 : ¬ strLt x2[j] x1[i] = true := by unfold strLt; rw [decide_eq_true_iff]; assumption
            have hsd' : sdiff x1 x2 = (mx ++ (sdiff (x1.drop (i + 1)) (x2.drop (j + 1))).1, ux ++ (sdiff (x1.drop (i + 1)) (x2.drop (j + 1))).2) := by
              rw [hsd, List.drop_eq_getElem_cons hi, List.drop_eq_getElem_cons hj, sdiff, if_neg hst1, if_neg hst2]
            by_cases hi2 : i + 1 < x1.length
            · obtain ⟨t1', hv1'⟩ : ∃ t, v1[i + 1]? = some (.str x1[i + 1] t) := s1.get (i + 1) _ (List.getElem?_eq_getElem hi2)
              refine Stop.mk (item_inX (gl1.at fun o e => F3.keep l1 o e) (by omega) (by omega) (by rw [List.getElem?_toArray, show ((i : Int) + 1).toNat = i + 1 by omega]; exact hv1') ?_)
              walk_at "go"
              · rename (_ == _) = true => hb
                exact Hold.mk (ho1' i _ _ (List.getElem?_eq_getElem hi) (List.getElem?_eq_getElem hi2) (eq_of_beq hb).symm)
              · rename Fr _ _ _ _ => F4
                rename News _ _ _ _ => N4
                by_cases hj2 : j + 1 < x2.length
                · obtain ⟨t2', hv2'⟩ : ∃ t, v2[j + 1]? = some (.str x2[j + 1] t) := s2.get (j + 1) _ (List.getElem?_eq_getElem hj2)
                  refine Stop.mk (item_inX (gl2.at fun o e => F4.keep l2 o e) (by omega) (by omega) (by rw [List.getElem?_toArray, show ((j : Int) + 1).toNat = j + 1 by omega]; exact hv2') ?_)
                  walk_at "go"
                  · rename (_ == _) = true => hb
                    exact Hold.mk (ho2' j _ _ (List.getElem?_eq_getElem hj) (List.getElem?_eq_getElem hj2) (eq_of_beq hb).symm)
                  · exact Hold.mk ⟨i + 1, j + 1, by omega, _, _, D1, D2, _, _, sl, _, ms, us, rfl, ⟨F4, N4, hD1, hDD⟩, ⟨rfl, rfl, ⟨_, rfl⟩, ⟨_, rfl⟩, rfl, rfl⟩, mx, ux, hmx, hux, by omega, by omega, by omega, by omega, hsd'⟩
                · refine Stop.mk (item_outX (c := .none) (.inl ⟨rfl, rfl⟩) (gl2.at fun o e => F4.keep l2 o e) (by omega) (by simp; omega) (by omega) (fun h' tk e hx => ?_))
                  refine ex_back rfl rfl rfl hf1 hk1 (exStart F4 N4 (.tail _ (.tail _ (.head _))) hd1 hx) fun h'' x'' => ?_
                  refine ex_back (s := { s with heap := h'', toks := tk }) rfl rfl rfl hf1 hk1 x'' fun h3 x3 => ?_
                  refine Hold.mk ⟨e, .none, _, h3, tk, D1, D2, n1, n2, _, ms, us, i + 1, j + 1, rfl, rfl, x3, SLB.of ⟨F4, N4, hD1, hDD⟩ gL1 _ hex2, ⟨rfl, rfl, ⟨_, rfl⟩, ⟨_, rfl⟩, rfl, rfl⟩, mx, ux, hmx, hux, by omega, by omega, by omega, by omega, ?_⟩
                  rw [hsd', List.drop_of_length_le (l := x2) (by omega)]
                  cases x1.drop (i + 1) <;> simp [sdiff]
            · refine Stop.mk (item_outX (c := .none) (.inl ⟨rfl, rfl⟩) (gl1.at fun o e => F3.keep l1 o e) (by omega) (by simp; omega) (by omega) (fun h' tk e hx => ?_))
              refine ex_back rfl rfl rfl hf1 hk1 (exStart F3 N3 (.tail _ (.tail _ (.head _))) hd1 hx) fun h'' x'' => ?_
              refine ex_note (s := { s with heap := h'', toks := tk }) rfl rfl rfl hf1 hk1 x'' fun h3 x3 _ => ⟨ref_ne_byPass _, ?_⟩
              refine ex_note (s := { s with heap := h3, toks := tk }) rfl rfl rfl hf1 hk1 x3 fun h4 x4 ht4 => ?_
              refine ex_flight (s := { s with heap := h4, toks := tk }) x4 fun h5 x5 ht5 => ?_
              have ht5 := ht5 ht4
              have hB3 := SLB.of ⟨F3, N3, hD1, hDD⟩ gL1 [L', L1] hex2
              obtain ⟨sl5, F5, N5, _, _⟩ := SLB.back hB3 x5 gL1 hLL F3.above
              obtain ⟨oe, vs, T, oT, ts, he, hcl, hde, hsz, h2, h1, hnT, hTe, hT, hdT, h3s⟩ := x5.traced ht5
              have hge : g.get? e = none := by
                cases q : g.get? e with
                | none => rfl
                | some o => have := hB3.stays _ _ q; rw [x5.newE] at this; cases this
              have hgT : g.get? T = none := by
                cases q : g.get? T with
                | none => rfl
                | some o => have := hB3.stays _ _ q; rw [hnT] at this; cases this
              have hTL : T ≠ L' := fun q => by
                obtain ⟨o, es, ep, ho, hdd, _⟩ := x5.ns
                rw [← q, hT] at ho; cases ho; rw [hdT] at hdd; cases hdd
              have eD1 : e ≠ D1 := fun q => by
                have := (N5 (D1, lsO ms n1) (.tail _ (.head _))).1
                rw [show (D1, lsO ms n1).1 = e from q.symm, he] at this
                cases this
                cases hde
              have eD2 : e ≠ D2 := fun q => by
                have := (N5 (D2, lsO us n2) (.head _)).1
                rw [show (D2, lsO us n2).1 = e from q.symm, he] at this
                cases this
                cases hde
              have tD1 : T ≠ D1 := fun q => by
                have := (N5 (D1, lsO ms n1) (.tail _ (.head _))).1
                rw [show (D1, lsO ms n1).1 = T from q.symm, hT] at this
                cases this
                cases hdT
              have tD2 : T ≠ D2 := fun q => by
                have := (N5 (D2, lsO us n2) (.head _)).1
                rw [show (D2, lsO us n2).1 = T from q.symm, hT] at this
                cases this
                cases hdT
              have N6 : News g L' h5 [(e, oe), (T, oT), (D2, lsO us n2), (D1, lsO ms n1), (L1, { o1 with slots := sl5 })] := fun p hp => by
                rcases List.mem_cons.mp hp with rfl | hp
                · exact ⟨he, Ne.symm x5.neL, hge⟩
                · rcases List.mem_cons.mp hp with rfl | hp
                  · exact ⟨hT, hTL, hgT⟩
                  · exact N5 p hp
              clear N5
              walk_at "go"
              rename Fr _ _ _ _ => F7
              rename News _ _ _ _ => N7
              have N8 : News g L' _ [(D2, lsO us n2), (D1, lsO ms n1), (L1, { o1 with slots := sl5 })] := fun p hp => N7 p (.tail _ (.tail _ hp))
              by_cases hj2 : j + 1 < x2.length
              · obtain ⟨t2', hv2'⟩ : ∃ t, v2[j + 1]? = some (.str x2[j + 1] t) := s2.get (j + 1) _ (List.getElem?_eq_getElem hj2)
                refine Stop.mk (item_inX (gl2.at fun o e => F7.keep l2 o e) (by omega) (by omega) (by rw [List.getElem?_toArray, show ((j : Int) + 1).toNat = j + 1 by omega]; exact hv2') ?_)
                walk_at "go"
                · rename (_ == _) = true => hb
                  exact Hold.mk (ho2' j _ _ (List.getElem?_eq_getElem hj) (List.getElem?_eq_getElem hj2) (eq_of_beq hb).symm)
                · refine Stop.mk ?_
                  unfold PySem.passOn
                  refine wpAny_bind (wpAny_field (N7 _ (.head _)).1 hde h1 ?_)
                  rw [if_neg (by simp)]
                  have x8 : EX (hideAll _ [L', L1, e, T]) L' L1 _ o1 .none e _ := ⟨fun b o hb => of_hideAll _ hb, hideAll_none _ (.tail _ (.tail _ (.head _))), hideAll_none _ (.head _), hideAll_none _ (.tail _ (.head _)), F7.ns, ⟨sl5, (N8 _ (.tail _ (.tail _ (.head _)))).1⟩, hd1,
                    ⟨oe, vs, (N7 _ (.head _)).1, hcl, hde, hsz, h2, .inr ⟨T, oT, ts, h1, hideAll_none _ (.tail _ (.tail _ (.tail _ (.head _)))), hTe, (N7 _ (.tail _ (.head _))).1, hdT, h3s⟩⟩⟩
                  refine wpAny_bind (ex_flight x8 fun h9 x9 _ => wpAny_throw ?_)
                  refine Hold.mk ⟨e, .none, _, h9, _, D1, D2, n1, n2, _, ms, us, i + 1, j + 1, rfl, rfl, x9, SLB.of ⟨F7, N8, hD1, hDD⟩ gL1 _ ?_, ⟨rfl, rfl, ⟨_, rfl⟩, ⟨_, rfl⟩, rfl, rfl⟩, mx, ux, hmx, hux, by omega, by omega, by omega, by omega, ?_⟩
                  · intro a ha
                    simp only [List.mem_cons, List.not_mem_nil, or_false] at ha
                    rcases ha with rfl | rfl | rfl | rfl
                    · exact .inl rfl
                    · exact .inr (.inl rfl)
                    · exact .inr (.inr ⟨hge, eD1, eD2⟩)
                    · exact .inr (.inr ⟨hgT, tD1, tD2⟩)
                  · rw [hsd', List.drop_of_length_le (l := x1) (by omega)]
                    simp [sdiff]
              · refine Stop.mk (item_outX (c := .ref e) (.inr ⟨e, oe, vs, rfl, rfl, (N7 _ (.head _)).1, hde, h2⟩) (gl2.at fun o e => F7.keep l2 o e) (by omega) (by simp; omega) (by omega) (fun h' tk e2 hx2 => ?_))
                refine ex_back rfl rfl rfl hf1 hk1 (exStart F7 N8 (.tail _ (.tail _ (.head _))) hd1 hx2) fun h'' x'' => ?_
                refine ex_back (s := { s with heap := h'', toks := tk }) rfl rfl rfl hf1 hk1 x'' fun h3 x3 => ?_
                refine Hold.mk ⟨e2, _, _, h3, tk, D1, D2, n1, n2, _, ms, us, i + 1, j + 1, rfl, rfl, x3, SLB.of ⟨F7, N8, hD1, hDD⟩ gL1 _ hex2, ⟨rfl, rfl, ⟨_, rfl⟩, ⟨_, rfl⟩, rfl, rfl⟩, mx, ux, hmx, hux, by omega, by omega, by omega, by omega, ?_⟩
                rw [hsd', List.drop_of_length_le (l := x2) (by omega)]
                cases x1.drop (i + 1) <;> simp [sdiff]
        · rename Fr _ _ _ _ => F2
          rename News _ _ _ _ => N2
          refine Stop.mk (item_outX (c := .none) (.inl ⟨rfl, rfl⟩) (gl2.at fun o e => F2.keep l2 o e) (by omega) (by simp; omega) (by omega) (fun h' tk e hx => ?_))
          refine Hold.mk ⟨e, .none, _, h', tk, D1, D2, n1, n2, _, ms, us, i, j, rfl, rfl, exStart F2 N2 (.tail _ (.tail _ (.head _))) hd1 hx, SLB.of ⟨F2, N2, hD1, hDD⟩ gL1 _ hex2, ⟨rfl, rfl, ⟨_, rfl⟩, ⟨_, rfl⟩, rfl, rfl⟩, mx, ux, hmx, hux, hml, hul, hi', hj', ?_⟩
          rw [hsd, List.drop_of_length_le (l := x2) (by omega)]
          cases x1.drop i <;> simp [sdiff]
      · refine Stop.mk (item_outX (c := .none) (.inl ⟨rfl, rfl⟩) (gl1.at fun o e => F1.keep l1 o e) (by omega) (by simp; omega) (by omega) (fun h' tk e hx => ?_))
        refine Hold.mk ⟨e, .none, _, h', tk, D1, D2, n1, n2, _, ms, us, i, j, rfl, rfl, exStart F1 N (.tail _ (.tail _ (.head _))) hd1 hx, SLB.of ⟨F1, N, hD1, hDD⟩ gL1 _ hex2, ⟨rfl, rfl, ⟨_, rfl⟩, ⟨_, rfl⟩, rfl, rfl⟩, mx, ux, hmx, hux, hml, hul, hi', hj', ?_⟩
        rw [hsd, List.drop_of_length_le (l := x1) (by omega)]
        simp [sdiff]
    · rintro e s' ⟨ea, c, B0, h1, tk1, E1, E2, m1, m2, u1, ms1, us1, i1, j1, rfl, rfl, x, hB, ⟨um, uu, ⟨ti1, ui⟩, ⟨tj1, uj⟩, ue, ua⟩, mx, ux, hmx, hux, hml, hul, hi1, hj1, hsd⟩
      refine ex_catch rfl rfl rfl hf1 hk1 x ?_ ?_
      · intro h2 Q' E' y2 hq
        obtain ⟨sl2, F2, N2, _, _⟩ := SLB.back hB y2 gL1 hLL (by assumption)
        refine name_B F2 Xg (topRead_of Tg) (by k_is) PyProof.Rows.Boot.«IndexError» (by decide) hq
      · intro h2 y2
        obtain ⟨sl2, F2, N2, hE1, hEE⟩ := SLB.back hB y2 gL1 hLL (by assumption)
        have F3 := Fr_pins F2 [("i", .int i1 ti1), ("j", .int j1 tj1), ("missing", .ref E1), ("unexpected", .ref E2), ("expected", .ref l1), ("actual", .ref l2)] (by simp [ui, uj, um, uu, ue, ua])
        dsimp only [pinL] at F3
        clear F2
        have hv1s : v1.length = x1.length := s1.length
        have hv2s : v2.length = x2.length := s2.length
        have hms := hmx.length
        have hus := hux.length
        walk_at "go"
        rename Fr _ _ _ _ => F4
        rename News _ _ _ _ => N4
        have a1 := apart_new (D := E1) 1 N2 (.tail _ (.head _))
        rw [slicePick_from'] at N4
        refine Stop.mk (extend_in (own := [_, _]) F4 N4 (by
          intro p hp
          simp only [List.mem_cons, List.not_mem_nil, or_false] at hp
          rcases hp with rfl | rfl
          · exact a1
          · exact Nat.ne_of_gt hEE) (by
          intro p hp
          rw [List.mem_singleton.mp hp]
          exact Nat.ne_of_lt hE1) (N4 _ (.head _)).1 (fun h5 k5 F5 N5 => ?_) (by rw [sizeLine_eq]; simp; omega))
        have N6 : News g L' h5 [(E2, lsO us1 m2), (E1, lsO (ms1 ++ v1.drop i1) k5), (L1, { o1 with slots := sl2 })] := by
          simp only [List.cons_append, List.nil_append] at N5
          exact fun p hp => N5 p (.tail _ hp)
        clear N5 N4 F4 N2 F3
        walk_at "go"
        rename Fr _ _ _ _ => F7
        rename News _ _ _ _ => N7
        have a2 := apart_new (D := E2) 1 N6 (.head _)
        rw [slicePick_from'] at N7
        refine Stop.mk (extend_in (own := [_]) F7 N7 (by
          intro p hp
          rw [List.mem_singleton.mp hp]
          exact a2) (by
          intro p hp
          simp only [List.mem_cons, List.not_mem_nil, or_false] at hp
          rcases hp with rfl | rfl
          · exact Nat.ne_of_lt hEE
          · exact Nat.ne_of_lt (Nat.lt_trans hE1 hEE)) (N7 _ (.head _)).1 (fun h8 k8 F8 N8 => ?_) (by rw [sizeLine_eq]; simp; omega))
        have N9 : News g L' h8 [(E2, lsO (us1 ++ v2.drop j1) k8), (E1, lsO (ms1 ++ v1.drop i1) k5), (L1, { o1 with slots := sl2 })] := by
          simp only [List.cons_append, List.nil_append] at N8
          exact fun p hp => N8 p (.tail _ hp)
        walk_at "go"
        refine Hold.mk ⟨h8, _, E1, E2, _, _, sl2, _, _, _, rfl, F8, N9, hE1, hEE, rfl, rfl, ?_, ?_⟩
        · rw [hsd]; exact hmx.append' (StrsAre_drop i1 s1)
        · rw [hsd]; exact hux.append' (StrsAre_drop j1 s2)
end Mine

/- part MNm -/
theorem Mine.offMNm : True := by
  w_top off
  trivial
namespace Mine
open PySem PySem.Spec PySem.Calls PySem.W PyProof.Rows PySem.Builtin PySem.Builtin.Str
section
variable {M : Model} {A : Around} {E : Value → Shared → Prop} {s : Shared} {K : Frag} {m mg mb : Str → Option Value} {p : Program} {loose : List Str} {mean : ExcName → Option Value} {env : Env}
  {x : Str} {pos : Pos} {v : Value} {Q : Value → Shared → Prop} {c : Addr}
theorem nmL (F : s.heap.Ns env.locals m) (hv : m x = some v) (h : Q v s) (hk : env.scope.kind = .function := by rfl) (hl : env.kindOf x = some .local := by rfl) (hd : (x == ("__debug__" : Str)) = false := by decide) :
    wpAny M A (eval (.Name x pos) env) Q E s := wpAny_Name (wpAny_loadName_local hk hl F hv h) hd
theorem nmF (hv : s.heap.IsCell c (some v)) (h : Q v s) (hc : env.cells.lookup x = some c := by rfl) (hk : env.scope.kind = .function := by rfl) (hl : env.kindOf x = some .free := by rfl) (hd : (x == ("__debug__" : Str)) = false := by decide)
    (hn : (x == ("__classdict__" : Str)) = false := by decide) : wpAny M A (eval (.Name x pos) env) Q E s := wpAny_Name (wpAny_loadName_free hk hl hc hv h hn) hd
theorem nmC (hv : s.heap.IsCell c (some v)) (h : Q v s) (hc : env.cells.lookup x = some c := by rfl) (hk : env.scope.kind = .function := by rfl) (hl : env.kindOf x = some .cell := by rfl) (hd : (x == ("__debug__" : Str)) = false := by decide) :
    wpAny M A (eval (.Name x pos) env) Q E s := wpAny_Name (wpAny_loadName_cell hk hl hc hv h) hd
theorem nmG (X : K.In s.heap) (T : Top p loose mean mg mb s.heap) (e : nsIn K mainGlobals x = some (some v)) (h : Q v s) (hg : env.globals = mainGlobals := by rfl)
    (hk : env.scope.kind = .function := by rfl) (hx : env.kindOf x = some .globalImplicit := by rfl) (hd : (x == ("__debug__" : Str)) = false := by decide) :
    wpAny M A (eval (.Name x pos) env) Q E s :=
  Name_function_global hk hx (loadGlobal_global (show s.heap.Ns env.globals mg from hg ▸ T.g) (mg_of X T.g e) h) hd
theorem nmB (X : K.In s.heap) (T : Top p loose mean mg mb s.heap) (e : nsIn K mainGlobals x = some none) (hv : bootBuiltins x = some v) (hn : x ≠ "__name__") (h : Q v s) (hg : env.globals = mainGlobals := by rfl) (hb : env.builtins = builtinsNs := by rfl)
    (hk : env.scope.kind = .function := by rfl) (hx : env.kindOf x = some .globalImplicit := by rfl) (hd : (x == ("__debug__" : Str)) = false := by decide) :
    wpAny M A (eval (.Name x pos) env) Q E s :=
  Name_function_global hk hx (loadGlobal_builtin (show s.heap.Ns env.globals mg from hg ▸ T.g) (mg_none_of X T.g e) (show s.heap.Ns env.builtins mb from hb ▸ T.b) ((T.builtins x hn).trans hv) h) hd
end
theorem StrsAre.size : ∀ {vs : List Value} {xs : List Str}, StrsAre vs xs → vs.length = xs.length
  | _, _, .nil => rfl
  | _, _, .cons _ _ h => by simp [StrsAre.size h]
theorem StrsAre.at : ∀ {vs : List Value} {xs : List Str}, StrsAre vs xs → ∀ {i : Nat} {v : Value}, vs[i]? = some v → ∃ x t, v = .str x t ∧ xs[i]? = some x
  | _, _, .nil, i, v, h => by simp at h
  | _, _, .cons y t r, 0, v, h => by simp at h; exact ⟨y, t, h.symm, by simp⟩
  | _, _, .cons y t r, i + 1, v, h => by
    obtain ⟨x, t', e, e'⟩ := StrsAre.at r (i := i) (v := v) (by simpa using h)
    exact ⟨x, t', e, by simpa using e'⟩
def strOf : Value → Str
  | .str x _ => x
  | _ => ""
theorem StrsAre.filter (p : Str → Bool) : ∀ {vs : List Value} {xs : List Str}, StrsAre vs xs → StrsAre (vs.filter fun v => p (strOf v)) (xs.filter p)
  | _, _, .nil => .nil
  | _, _, .cons y t r => by
    have ih := StrsAre.filter p r
    have e : strOf (.str y t) = y := rfl
    rw [List.filter_cons, List.filter_cons]
    simp only [e]
    cases p y <;> simp only [if_true, Bool.false_eq_true, if_false]
    · exact ih
    · exact .cons y t ih
theorem paired_eq : ∀ {a b : List Value}, Paired (fun v y => y = v) a b → b = a
  | _, _, .nil => rfl
  | _, _, .cons h r => by rw [h, paired_eq r]
theorem list_of_at {α : Type} {a b : List α} (hl : a.length = b.length) (h : ∀ (j : Nat) v, a[j]? = some v → b[j]? = some v) : a = b := by
  apply List.ext_getElem hl
  intro i h1 h2
  have := h i a[i] (List.getElem?_eq_getElem h1)
  rw [List.getElem?_eq_getElem h2] at this
  exact (Option.some.inj this).symm
end Mine

/- part MAl -/
theorem Mine.offMAl : True := by
  w_top off
  trivial
namespace Mine
open PySem PySem.Spec PySem.Calls PySem.W PyProof.Rows PySem.Builtin PySem.Builtin.Str
set_option maxHeartbeats 8000000
theorem fillAl (w : World) : (hd.heap_39 w.params) = (hd.heap_39 w.params) ∧ PySem.Challenge.rw_mq0154_01.prog = PySem.Challenge.rw_mq0154_01.prog := by k_fill; exact ⟨rfl, rfl⟩

theorem alone_spec {w : World} {mean : ExcName → Option Value} {mg mb : Str → Option Value} {dp un : Nat} {gd : Option (List Code)} {outer : List Env} {s : Shared} {Q E : Value → Shared → Prop}
    (X : (hd.heap_39 w.params).In s.heap) (T : Top hd.view_39 (looseW hd.view_39 []) mean mg mb s.heap)
    (hdp : dp < recursionLimit) (l1 l2 : Addr) (v1 v2 : List Value) (x1 x2 : List Str) (hl1 : s.heap.IsList l1 v1.toArray) (hl2 : s.heap.IsList l2 v2.toArray) (s1 : StrsAre v1 x1) (s2 : StrsAre v2 x2)
    (hn1 : x1.length ≤ 1000)
    (ret : ∀ h' tk' D ys, s.heap.StaysIn h' → s.heap.get? D = none → h'.PlainList D ys → StrsAre ys.toList (x1.filter fun a => !(x2.any (· == a))) → Q (.ref D) { s with heap := h', toks := tk' }) :
    wpAny (model PySem.Challenge.rw_mq0154_01.row.prog w) (aTop dp un gd outer) (call (.ref 45) [.ref l1, .ref l2]) Q E s := by
  refine wpAny_call ?_
  k_dflt (refine' enterC X T ?k6 ?k7 ?k8 ?k9 ?kA ?kB ?_ ?c2 ?c3 ?c4; (case k6 => k_is); (case k7 => k_is); (case k8 => exact hdp); (case k9 => exact BindsTo.of_eq rfl); (case kA => exact rfl); (case kB => decide); (case c2 => exact rfl); (case c3 => exact rfl); (case c4 => exact rfl))
  intro L' h' tk cells F' N' C'
  obtain ⟨oc, rfl, hoc⟩ := C'.one
  have hoc' : oc.data = .cell (some (.ref l2)) := hoc
  have hcell : h'.IsCell (L' + 1) (some (.ref l2)) := ⟨oc, (N' _ (.head _)).1, hoc'⟩
  have hL0 : s.heap.get? L' = none := Heap.get?_none_of_le F'.above
  have hc0 : s.heap.get? (L' + 1) = none := (N' _ (.head _)).2.2
  refine execs_cons' ?_
  refine wpAny_Return_some ?_
  refine wpAny_ListComp_free (cl := [("others", L' + 1)]) (fun v => !(x2.any (· == strOf v))) (fun v y => y = v) (by with_unfolding_all rfl) (by decide) (by rfl) (by decide) (by rfl) ?_
  refine nmL F'.ns rfl ?_
  have kl1 : h'.IsList l1 v1.toArray := hl1.at fun o e => F'.keep _ _ e
  have kl2 : h'.IsList l2 v2.toArray := hl2.at fun o e => F'.keep _ _ e
  have hlt : l1 < h'.objs.size := by obtain ⟨o, e, _⟩ := kl1; exact Heap.lt_size e
  have up : ∀ b o, h'.get? b = some o → (h'.push { cls := .type "list_iterator", data := .fields #[.ref l1, .int 0 0] }).get? b = some o := fun b o e => Heap.get?_push_of_some _ e
  have hI : ∀ b o, h'.get? b = some o → b ∉ [h'.objs.size] := fun b o e hm => by rw [List.mem_singleton.mp hm] at e; exact Nat.lt_irrefl _ (Heap.lt_size e)
  refine wpAny_pyIter_list kl1 ?_
  refine ⟨_, _, _, _, _, _, rfl, Walks.list rfl h'.objs.size l1 (Nat.ne_of_lt hlt) v1.toArray, ?_, ⟨⟨_, Heap.get?_push_size _ rfl, rfl, rfl⟩, kl1.push _⟩, ?_, ⟨?_, ?_⟩, ?_⟩
  · rw [sizeLine_eq]
    have := StrsAre.size s1
    simp only [List.size_toArray]; omega
  · intro b hb
    show b < (h'.push _).objs.size
    rw [Heap.size_push]
    rcases List.mem_cons.mp hb with rfl | hb
    · exact Nat.lt_succ_self _
    · rw [List.mem_singleton.mp hb]; exact Nat.lt_succ_of_lt hlt
  · intro C i v s₃ m₃ E' hC hP hn hm hk htk
    obtain ⟨x, t, rfl, hx⟩ := StrsAre.at s1 (i := i) (v := v) (by simpa using hP)
    obtain ⟨oo, hoo, hod⟩ := hcell
    refine wpAny_tests_one ?_
    have hcell3 : s₃.heap.IsCell (L' + 1) (some (.ref l2)) := ⟨oo, hk _ _ (hI _ _ hoo) (up _ _ hoo), hod⟩
    have kl3 : s₃.heap.IsList l2 v2.toArray := kl2.at fun o e => hk _ _ (hI _ _ e) (up _ _ e)
    (first | walk1 | (dsimp only; walk1))
    refine nmL (env := compEnvC _ _ _ _) hn hm ?_
    refine nmC hcell3 ?_
    refine notin_list_strs kl3 s2 ?_
    exact wpAny_truthy_bool ⟨rfl, _, _, rfl, fun _ _ e => e⟩
  · intro C i v s₃ m₃ E' hC hP hpv hn hm hk htk
    exact nmL (env := compEnvC _ _ _ _) hn hm ⟨rfl, _, _, rfl, fun _ _ e => e⟩
  · intro D h'' tk'' ys vs hD hls hpl hlen hP hpair hk
    have e1 : vs = v1 := list_of_at (by simpa using hlen) fun j v h => by simpa using hP j v h
    subst e1
    have := paired_eq hpair
    refine ret h'' tk'' D ys (fun b o e => hk b o (hI b o (F'.keep b o e)) (up _ _ (F'.keep b o e))) ?_ hpl ?_
    · cases e : s.heap.get? D with
      | none => rfl
      | some o => have := up _ _ (F'.keep _ _ e); rw [hD] at this; cases this
    · rw [this]; exact StrsAre.filter (fun a => !(x2.any (· == a))) s1
end Mine

/- part MComp -/
theorem Mine.offMComp : True := by
  w_top off
  trivial
namespace Mine
open PySem PySem.Spec PySem.Calls PySem.W PyProof.Rows PySem.Builtin PySem.Builtin.Str
section
variable {prog : Program} {w : World} {A : Around} {E : Value → Shared → Prop} {R : Result → Shared → Prop} {s : Shared}

inductive Two (elt t1 i1 t2 i2 : Expr) (scope : Scope) (pos : Pos) : Expr → (Value → Env → Sem Unit) → Prop
  | list : Two elt t1 i1 t2 i2 scope pos (.ListComp elt [⟨t1, i1, [], 0⟩, ⟨t2, i2, [], 0⟩] scope pos) (fun acc env => do let _ ← call (.builtin "list.append") [acc, ← eval elt env])
  | set : Two elt t1 i1 t2 i2 scope pos (.SetComp elt [⟨t1, i1, [], 0⟩, ⟨t2, i2, [], 0⟩] scope pos) (fun acc env => do let v ← eval elt env; standAt elt.pos; let _ ← call (.builtin "set.add") [acc, v])

theorem Two.turn0 {elt t1 i1 t2 i2 : Expr} {scope : Scope} {pos : Pos} {e : Expr} {emit : Value → Env → Sem Unit} (h : Two elt t1 i1 t2 i2 scope pos e emit) (it acc : Value) (env : Env) :
    compTurn e 0 it acc env = (do
      standAt i1.pos
      match ← pyNext it with
      | none => pure (.done .next)
      | some v =>
        letOwnedTupleGo t1 it v
        assign t1 env v
        let x ← eval i2 env
        standAt i2.pos
        let x ← foldedSetIterable i2 env x
        let _ ← runOwn (.compStart e 1 (← holding [x] (pyIter x)) acc env) env
        again (.compLoop e 0 it acc env)) := by cases h <;> rfl
theorem Two.turn1 {elt t1 i1 t2 i2 : Expr} {scope : Scope} {pos : Pos} {e : Expr} {emit : Value → Env → Sem Unit} (h : Two elt t1 i1 t2 i2 scope pos e emit) (it acc : Value) (env : Env) :
    compTurn e 1 it acc env = (do
      standAt i2.pos
      match ← pyNext it with
      | none => pure (.done .next)
      | some v =>
        letOwnedTupleGo t2 it v
        assign t2 env v
        emit acc env
        again (.compLoop e 1 it acc env)) := by cases h <;> rfl
theorem Two.den {elt t1 i1 t2 i2 : Expr} {scope : Scope} {pos : Pos} {e : Expr} {emit : Value → Env → Sem Unit} (h : Two elt t1 i1 t2 i2 scope pos e emit) (d : Nat) (it acc : Value) (env : Env) :
    (model prog w).den (.compLoop e d it acc env) = (compTurn e d it acc env).onRaise (fun x => do noteFrame x env; theTreesLotGoes x) := by cases h <;> rfl

theorem two_start {elt t1 i1 t2 i2 : Expr} {scope : Scope} {pos : Pos} {e : Expr} {emit : Value → Env → Sem Unit} (h : Two elt t1 i1 t2 i2 scope pos e emit) {d : Nat} (hd : d < 2) {it acc : Value} {env : Env}
    (h0 : codeAny (model prog w) A (.compLoop e d it acc env) R s)
    (h1 : wpAny (model prog w) A (pyIter it) (fun it' s' => codeAny (model prog w) A (.compLoop e d it' acc env) R s') (notedBy (model prog w) A env fun x s' => R (.error x) s') s) :
    codeAny (model prog w) A (.compStart e d it acc env) R s := by
  refine codeAny_of_tree ?_
  have e1 : (model prog w).den (.compStart e d it acc env) = (compStart e d it acc env).onRaise (fun x => do noteFrame x env; standAt theWindowsPlace) := by cases h <;> rfl
  rw [e1]
  have hA : A.under (.compStart e d it acc env) = A := by cases h <;> rfl
  rw [hA]
  refine wpAny_notedAt ?_
  unfold compStart
  have e2 : ∃ g : Comprehension, (clausesOf e)[d]? = some g ∧ g.is_async = 0 := by
    have : d = 0 ∨ d = 1 := by omega
    cases h <;> rcases this with rfl | rfl <;> exact ⟨_, rfl, rfl⟩
  obtain ⟨g, hg, ha⟩ := e2
  have hq : ∀ it', (Code.compLoop e d it' acc env).quiet = true := by intro it'; cases h <;> rfl
  rw [hg]
  simp only [Option.elim, ha, bne_self_eq_false, Bool.false_eq_true, if_false]
  refine wpAny_bind (wpAny_askSetting (wpAny_ite ?_))
  split
  · first
      | exact wpAny_bind (wpAny_pure (wpAny_pure (And.intro (hq _) h0)))
      | exact wpAny_pure (And.intro (hq _) h0)
  · exact wpAny_bind (wpAny_rule (wpAny_bind (wpAny_standAt (wpAny_bind (wpAny_mono h1 (fun it' s' h' => wpAny_pure (And.intro (hq _) h')) fun _ _ x => x)))))

theorem two_loop0 {elt t1 i1 t2 i2 : Expr} {scope : Scope} {pos : Pos} {e : Expr} {emit : Value → Env → Sem Unit} (h : Two elt t1 i1 t2 i2 scope pos e emit) {it acc : Value} {env : Env} (I : Nat → Shared → Prop)
    (hA : A.under (.compLoop e 0 it acc env) = A) (hA1 : A.mark none = A)
    (hf : ∀ x, foldedSetIterable i2 env x = pure x) (ht : ∀ v, letOwnedTupleGo t1 it v = pure ())
    (turn : ∀ n s, I n s → wpAny (model prog w) A (pyNext it) (fun r s₁ => match r with
      | none => R (.ok .next) s₁
      | some v => wpAny (model prog w) A (assign t1 env v) (fun _ s₂ => wpAny (model prog w) A (eval i2 env) (fun x s₃ => wpAny (model prog w) A (pyIter x) (fun it2 s₄ =>
          codeAny (model prog w) A (.compStart e 1 it2 acc env) (fun r s₅ => match r with | .ok _ => ∃ m, m < n ∧ I m s₅ | .error _ => False) s₄)
          (notedBy (model prog w) A env fun e s' => R (.error e) s') s₃) (notedBy (model prog w) A env fun e s' => R (.error e) s') s₂) (notedBy (model prog w) A env fun e s' => R (.error e) s') s₁)
        (notedBy (model prog w) A env fun e s' => R (.error e) s') s)
    (n : Nat) (hI : I n s) : codeAny (model prog w) A (.compLoop e 0 it acc env) R s := by
  refine codeAny_loop (by cases h <;> rfl) I (fun n s hI => ?_) n hI
  rw [h.den, hA]
  refine wpAny_noted ?_
  rw [h.turn0]
  refine wpAny_bind (wpAny_standAt (wpAny_bind (wpAny_mono (turn n s hI) (fun r s₁ h₁ => ?_) fun _ _ h' => h')))
  cases r with
  | none => exact wpAny_pure h₁
  | some v =>
    refine wpAny_bind (wpAny_of_eq (ht v) ?_)
    refine wpAny_bind (wpAny_mono h₁ (fun _ s₂ h₂ => wpAny_bind (wpAny_mono h₂ (fun x s₃ h₃ => wpAny_bind (wpAny_standAt (wpAny_bind (wpAny_of_eq (hf x) ?_)))) fun _ _ h' => h')) fun _ _ h' => h')
    refine wpAny_bind (wpAny_holding (wpAny_mono h₃ (fun it2 s₄ h₄ => ?_) fun _ _ h' => h'))
    refine wpAny_bind (wpAny_runOwn (h := none) ?_)
    rw [hA1]
    refine codeAny_mono h₄ fun r s₅ h₅ => ?_
    cases r with
    | ok f => exact wpAny_pure ⟨rfl, h₅⟩
    | error x => exact h₅.elim

theorem two_loop1 {elt t1 i1 t2 i2 : Expr} {scope : Scope} {pos : Pos} {e : Expr} {emit : Value → Env → Sem Unit} (h : Two elt t1 i1 t2 i2 scope pos e emit) {it acc : Value} {env : Env} (I : Nat → Shared → Prop)
    (hA : A.under (.compLoop e 1 it acc env) = A) (ht : ∀ v, letOwnedTupleGo t2 it v = pure ())
    (turn : ∀ n s, I n s → wpAny (model prog w) A (pyNext it) (fun r s₁ => match r with
      | none => R (.ok .next) s₁
      | some v => wpAny (model prog w) A (assign t2 env v) (fun _ s₂ => wpAny (model prog w) A (emit acc env) (fun _ s₃ => ∃ m, m < n ∧ I m s₃) (notedBy (model prog w) A env fun e s' => R (.error e) s') s₂) (notedBy (model prog w) A env fun e s' => R (.error e) s') s₁)
        (notedBy (model prog w) A env fun e s' => R (.error e) s') s)
    (n : Nat) (hI : I n s) : codeAny (model prog w) A (.compLoop e 1 it acc env) R s := by
  refine codeAny_loop (by cases h <;> rfl) I (fun n s hI => ?_) n hI
  rw [h.den, hA]
  refine wpAny_noted ?_
  rw [h.turn1]
  refine wpAny_bind (wpAny_standAt (wpAny_bind (wpAny_mono (turn n s hI) (fun r s₁ h₁ => ?_) fun _ _ h' => h')))
  cases r with
  | none => exact wpAny_pure h₁
  | some v =>
    refine wpAny_bind (wpAny_of_eq (ht v) ?_)
    exact wpAny_bind (wpAny_mono h₁ (fun _ s₂ h₂ => wpAny_bind (wpAny_mono h₂ (fun _ s₃ h₃ => wpAny_pure ⟨rfl, h₃⟩) fun _ _ h' => h')) fun _ _ h' => h')
end

theorem newEnvCell {M : Model} {A : Around} {E : Value → Shared → Prop} {s : Shared} {scope : Scope} {x : Str} {cl : List (Str × Addr)} {env : Env} {Q : Env → Shared → Prop}
    (hc : ∀ n, cellsFrom n scope.names cl = (x, n) :: cl) (hp : ∀ h, pushCells h scope.names = h.push { cls := .type "cell", data := .cell none })
    (hQ : ∀ h₁, h₁.Ns s.heap.objs.size (fun _ => none) → h₁.IsCell (s.heap.objs.size + 1) none → s.heap.StaysIn h₁ →
      Q { scope := scope, locals := s.heap.objs.size, globals := env.globals, cells := (x, s.heap.objs.size + 1) :: cl, qual := env.qual, func := none, code := env.code, frame := env.frame, builtins := env.builtins } { s with heap := h₁ }) :
    wpAny M A (newFunctionEnv scope env.globals cl [] env.qual none .none (some env)) Q E s := by
  simp only [newFunctionEnv, Option.isSome_some, if_true]
  refine wpAny_bind (wpAny_alloc ?_)
  refine wpAny_bind (wpAny_layCells _ (fun name kind cells => by cases hkc : kind == NameKind.cell <;> simp [hkc]) _ _ _ _ ?_)
  rw [show ({ s with heap := s.heap.push { cls := .type "dict", data := .dict #[] } } : Shared).heap.objs.size = s.heap.objs.size + 1 from Heap.size_push ..]
  rw [hc, hp]
  simp only [List.forIn_nil]
  refine wpAny_bind (wpAny_pure (wpAny_pure (hQ _ ((Heap.Ns.new s.heap (.type "dict")).keeps fun b o e => Heap.get?_push_of_some _ e) ⟨{ cls := .type "cell", data := .cell none }, ?_, rfl⟩ fun b o e => Heap.get?_push_of_some _ (Heap.get?_push_of_some _ e))))
  have e : ((s.heap.push { cls := .type "dict", data := .dict #[] }).push { cls := .type "cell", data := .cell none }).get? (s.heap.push { cls := .type "dict", data := .dict #[] }).objs.size = some { cls := .type "cell", data := .cell none } := Heap.get?_push_size _ rfl
  rwa [Heap.size_push] at e
end Mine

/- part MTwo -/
theorem Mine.offMTwo : True := by
  w_top off
  trivial
namespace Mine
open PySem PySem.Spec PySem.Calls PySem.W PyProof.Rows PySem.Builtin PySem.Builtin.Str
inductive Emitted (P : Nat → Value → Prop) (U : Value → List Value → Prop) : Nat → List (Value × Value) → Prop
  | nil : Emitted P U 0 []
  | snoc {j l v us} : Emitted P U j l → P j v → U v us → Emitted P U (j + 1) (l ++ us.map fun u => (v, u))
section
variable {prog : Program} {w : World} {A : Around} {R : Result → Shared → Prop} {s : Shared}

theorem two_inner {elt t1 i1 i2 : Expr} {y : Str} {py : Pos} {scope : Scope} {pos : Pos} {e : Expr} {emit : Value → Env → Sem Unit} (T2 : Two elt t1 i1 (.Name y py) i2 scope pos e emit) {cenv : Env} {D I : Addr} {x : Str} {v : Value}
    {fp wr : List Addr} {n : Nat} {P : Nat → Value → Prop} {St : Nat → Heap → Prop} (W : Walks prog w A I fp wr n P St) (Acc : List (Value × Value) → Heap → Prop)
    (hA : A.under (.compLoop e 1 (.ref I) (.ref D) cenv) = A) (hy : cenv.kindOf y = some .local) (hxy : x ≠ y) (hp : (cenv.scope.kind == .class || (cenv.scope.kind == .module && cenv.locals != cenv.globals)) = false)
    (hDC : D ≠ cenv.locals) (hDf : D ∉ fp) (hCf : cenv.locals ∉ fp) (hacc : ∀ l h h', Acc l h → (∀ o, h.get? D = some o → h'.get? D = some o) → Acc l h')
    {l₀ : List (Value × Value)} {m : Str → Option Value} (hst : St 0 s.heap) (ha0 : Acc l₀ s.heap) (hn0 : s.heap.Ns cenv.locals m) (hm0 : m x = some v)
    (em : ∀ i u l (s₂ : Shared) m₂ E', i < n → P i u → Acc l s₂.heap → s₂.heap.Ns cenv.locals m₂ → m₂ x = some v → m₂ y = some u → (∀ b o, b ≠ cenv.locals → b ≠ D → b ∉ wr → s.heap.get? b = some o → s₂.heap.get? b = some o) → s.toks ≤ s₂.toks → (∃ us : List Value, us.length = i ∧ l = l₀ ++ us.map fun u => (v, u)) →
      wpAny (model prog w) A (emit (.ref D) cenv) (fun _ s₃ => ∃ h' tk, s₃ = { s₂ with heap := h', toks := tk } ∧ (∀ b o, b ≠ D → s₂.heap.get? b = some o → h'.get? b = some o) ∧ Acc (l ++ [(v, u)]) h') E' s₂)
    (done : ∀ h' tk m' (us : List Value), us.length = n → (∀ (k : Nat) u, us[k]? = some u → P k u) → Acc (l₀ ++ us.map fun u => (v, u)) h' → h'.Ns cenv.locals m' → (∀ b o, b ≠ cenv.locals → b ≠ D → b ∉ wr → s.heap.get? b = some o → h'.get? b = some o) →
      R (.ok .next) { s with heap := h', toks := tk }) :
    codeAny (model prog w) A (.compStart e 1 (.ref I) (.ref D) cenv) R s := by
  have hCw : cenv.locals ∉ wr := fun h => hCf (W.sub _ h)
  have hDw : D ∉ wr := fun h => hDf (W.sub _ h)
  have loop : codeAny (model prog w) A (.compLoop e 1 (.ref I) (.ref D) cenv) R s := by
    refine two_loop1 T2 (fun k s' => ∃ h' tk m' us, s' = { s with heap := h', toks := tk } ∧ St us.length h' ∧ (∀ (j : Nat) u, us[j]? = some u → P j u) ∧ Acc (l₀ ++ us.map fun u => (v, u)) h' ∧ h'.Ns cenv.locals m' ∧ m' x = some v ∧ us.length ≤ n ∧ k = n + 1 - us.length ∧
      (∀ b o, b ≠ cenv.locals → b ≠ D → b ∉ wr → s.heap.get? b = some o → h'.get? b = some o) ∧ s.toks ≤ tk) hA (fun _ => rfl) ?_ (n + 1)
      ⟨s.heap, s.toks, m, [], rfl, hst, by simp, by simpa using ha0, hn0, hm0, Nat.zero_le _, rfl, fun _ _ _ _ _ e => e, Nat.le_refl _⟩
    rintro k s' ⟨H, tk, m', us, rfl, hst', hP, ha, hn, hmx, hle, rfl, hk, htk⟩
    by_cases hlt : us.length < n
    · refine wpAny_with_toks (n := s.toks) htk (W.item us.length _ _ _ hlt hst' fun u h₁ tk₁ hPu hst₁ hk₁ htk₁ => ?_)
      refine wpAny_assign_Name (wpAny_storeName_local hy (hn.at' fun o e => hk₁ _ o hCw e) (fun h₂ hn₂ hs₂ => ?_) hp)
      have up : ∀ b o, b ≠ cenv.locals → b ∉ wr → H.get? b = some o → h₂.get? b = some o := fun b o hb hw e => hs₂.extBut b o hb (hk₁ b o hw e)
      have hst₂ : St (us.length + 1) h₂ := W.frame _ _ _ hst₁ fun b hb o e => hs₂.extBut b o (fun h => hCf (h ▸ hb)) e
      refine wpAny_mono (wpAny_toks_of (n := s.toks) (Nat.le_succ_of_le htk₁) (em us.length u _ _ _ _ hlt hPu (hacc _ _ _ ha fun o e => up D o hDC hDw e) hn₂ (by simp [hxy, hmx]) (by simp) (fun b o hb hD hw e => up b o hb hw (hk b o hb hD hw e)) (Nat.le_succ_of_le htk₁) ⟨us, rfl, rfl⟩))
        (fun _ s₃ h₃ => ?_) fun _ _ e => e.2
      obtain ⟨htk₃, h₃, tk₃, rfl, hk₃, ha₃⟩ := h₃
      refine ⟨n + 1 - (us.length + 1), by omega, h₃, tk₃, _, us ++ [u], rfl, ?_, ?_, ?_, hn₂.at' fun o e => hk₃ _ o (Ne.symm hDC) e, by simp [hxy, hmx], (by rw [List.length_append, List.length_singleton]; exact hlt), (by rw [List.length_append, List.length_singleton]),
        fun b o hb hD hw e => hk₃ b o hD (up b o hb hw (hk b o hb hD hw e)), htk₃⟩
      · rw [List.length_append, List.length_singleton]
        exact W.frame _ _ _ hst₂ fun b hb o e => hk₃ b o (fun h => hDf (h ▸ hb)) e
      · intro j w' hj
        rcases Nat.lt_trichotomy j us.length with h | h | h
        · exact hP j w' (by rwa [List.getElem?_append_left h] at hj)
        · subst h; simp at hj; subst hj; exact hPu
        · have : (us ++ [u])[j]? = none := List.getElem?_eq_none (by rw [List.length_append, List.length_singleton]; omega)
          rw [this] at hj; cases hj
      · simpa using ha₃
    · have hin : us.length = n := by omega
      refine W.done _ _ _ (hin ▸ hst') fun h₁ tk₁ hk₁ => ?_
      exact done h₁ tk₁ m' us hin hP (hacc _ _ _ ha fun o e => hk₁ D o hDw e) (hn.at' fun o e => hk₁ _ o hCw e) fun b o hb hD hw e => hk₁ b o hw (hk b o hb hD hw e)
  exact two_start T2 (by decide) loop (W.self 0 _ _ _ hst loop)

theorem two_outer {elt i1 i2 : Expr} {x y : Str} {px py : Pos} {scope : Scope} {pos : Pos} {e : Expr} {emit : Value → Env → Sem Unit} (T2 : Two elt (.Name x px) i1 (.Name y py) i2 scope pos e emit) {cenv : Env} {D I : Addr}
    {fp wr : List Addr} {n : Nat} {P : Nat → Value → Prop} {St : Nat → Heap → Prop} (W : Walks prog w A I fp wr n P St) (Acc : List (Value × Value) → Heap → Prop) (U : Value → List Value → Prop)
    (hA : ∀ d it, A.under (.compLoop e d it (.ref D) cenv) = A) (hA1 : A.mark none = A) (hf : ∀ x, foldedSetIterable i2 cenv x = pure x) (hx : cenv.kindOf x = some .local) (hy : cenv.kindOf y = some .local) (hxy : x ≠ y)
    (hp : (cenv.scope.kind == .class || (cenv.scope.kind == .module && cenv.locals != cenv.globals)) = false)
    (hDC : D ≠ cenv.locals) (hDf : D ∉ fp) (hCf : cenv.locals ∉ fp) (hacc : ∀ l h h', Acc l h → (∀ o, h.get? D = some o → h'.get? D = some o) → Acc l h')
    {m : Str → Option Value} (hst : St 0 s.heap) (ha0 : Acc [] s.heap) (hn0 : s.heap.Ns cenv.locals m)
    (inner : ∀ i v (s₂ : Shared) m₂ E', i < n → P i v → s₂.heap.Ns cenv.locals m₂ → m₂ x = some v → (∀ b o, b ≠ cenv.locals → b ≠ D → b ∉ wr → s.heap.get? b = some o → s₂.heap.get? b = some o) → s.toks ≤ s₂.toks → (∃ l, Acc l s₂.heap) →
      wpAny (model prog w) A (eval i2 cenv) (fun xv s₃ => wpAny (model prog w) A (pyIter xv) (fun it2 s₄ => ∃ h₄ tk₄ I2 fp2 wr2 n2 P2 St2, s₄ = { s₂ with heap := h₄, toks := tk₄ } ∧ it2 = .ref I2 ∧ Walks prog w A I2 fp2 wr2 n2 P2 St2 ∧ St2 0 h₄ ∧
        (∀ b o, s₂.heap.get? b = some o → h₄.get? b = some o) ∧ (∀ b ∈ wr2, s₂.heap.get? b = none) ∧ D ∉ fp2 ∧ D ∉ wr2 ∧ cenv.locals ∉ fp2 ∧
        (∀ us : List Value, us.length = n2 → (∀ (k : Nat) u, us[k]? = some u → P2 k u) → U v us) ∧
        (∀ i2 u l (s₅ : Shared) m₅ E', i2 < n2 → P2 i2 u → Acc l s₅.heap → s₅.heap.Ns cenv.locals m₅ → m₅ x = some v → m₅ y = some u → (∀ b o, b ≠ cenv.locals → b ≠ D → b ∉ wr → s.heap.get? b = some o → s₅.heap.get? b = some o) → tk₄ ≤ s₅.toks → (∃ (l0 : List (Value × Value)) (us : List Value), Emitted P U i l0 ∧ us.length = i2 ∧ l = l0 ++ us.map fun u => (v, u)) →
          wpAny (model prog w) A (emit (.ref D) cenv) (fun _ s₃ => ∃ h' tk, s₃ = { s₅ with heap := h', toks := tk } ∧ (∀ b o, b ≠ D → s₅.heap.get? b = some o → h'.get? b = some o) ∧ Acc (l ++ [(v, u)]) h') E' s₅)) E' s₃) E' s₂)
    (done : ∀ h' tk m' l, Emitted P U n l → Acc l h' → h'.Ns cenv.locals m' → (∀ b o, b ≠ cenv.locals → b ≠ D → b ∉ wr → s.heap.get? b = some o → h'.get? b = some o) → R (.ok .next) { s with heap := h', toks := tk }) :
    codeAny (model prog w) A (.compStart e 0 (.ref I) (.ref D) cenv) R s := by
  have hCw : cenv.locals ∉ wr := fun h => hCf (W.sub _ h)
  have hDw : D ∉ wr := fun h => hDf (W.sub _ h)
  have loop : codeAny (model prog w) A (.compLoop e 0 (.ref I) (.ref D) cenv) R s := by
    refine two_loop0 T2 (fun k s' => ∃ h' tk m' i l, s' = { s with heap := h', toks := tk } ∧ St i h' ∧ Emitted P U i l ∧ Acc l h' ∧ h'.Ns cenv.locals m' ∧ i ≤ n ∧ k = n + 1 - i ∧
      (∀ b o, b ≠ cenv.locals → b ≠ D → b ∉ wr → s.heap.get? b = some o → h'.get? b = some o) ∧ s.toks ≤ tk) (hA _ _) hA1 hf (fun _ => rfl) ?_ (n + 1)
      ⟨s.heap, s.toks, m, 0, [], rfl, hst, .nil, ha0, hn0, Nat.zero_le _, rfl, fun _ _ _ _ _ e => e, Nat.le_refl _⟩
    rintro k s' ⟨H, tk, m', i, l, rfl, hst', hE, ha, hn, hle, rfl, hk, htk⟩
    by_cases hlt : i < n
    · refine wpAny_with_toks (n := s.toks) htk (W.item i _ _ _ hlt hst' fun v h₁ tk₁ hPv hst₁ hk₁ htk₁ => ?_)
      refine wpAny_assign_Name (wpAny_storeName_local hx (hn.at' fun o e => hk₁ _ o hCw e) (fun h₂ hn₂ hs₂ => ?_) hp)
      have up : ∀ b o, b ≠ cenv.locals → b ∉ wr → H.get? b = some o → h₂.get? b = some o := fun b o hb hw e => hs₂.extBut b o hb (hk₁ b o hw e)
      have hst₂ : St (i + 1) h₂ := W.frame _ _ _ hst₁ fun b hb o e => hs₂.extBut b o (fun h => hCf (h ▸ hb)) e
      have ha₂ : Acc l h₂ := hacc _ _ _ ha fun o e => up D o hDC hDw e
      have hk₂ : ∀ b o, b ≠ cenv.locals → b ≠ D → b ∉ wr → s.heap.get? b = some o → h₂.get? b = some o := fun b o hb hD hw e => up b o hb hw (hk b o hb hD hw e)
      refine wpAny_mono (wpAny_toks_of (n := s.toks) (Nat.le_succ_of_le htk₁) (inner i v _ _ _ hlt hPv hn₂ (by simp) hk₂ (Nat.le_succ_of_le htk₁) ⟨l, ha₂⟩)) (fun xv s₃ h₃ => ?_) fun _ _ e => e.2
      obtain ⟨htk₃, h₃⟩ := h₃
      refine wpAny_mono (wpAny_toks_of (n := s.toks) htk₃ h₃) (fun it2 s₄ h₄ => ?_) fun _ _ e => e.2
      obtain ⟨htk₄, h₄, tk₄, I2, fp2, wr2, n2, P2, St2, rfl, rfl, W2, hst2, hk₄, hwr2, hD2, hDw2, hC2, hU, hem⟩ := h₄
      have hk4s : ∀ b o, b ≠ cenv.locals → b ≠ D → b ∉ wr → s.heap.get? b = some o → b ∉ wr2 := fun b o hb hD hw e hm => by
        have := hk₂ b o hb hD hw e
        have e2 : h₂.get? b = none := hwr2 b hm
        rw [this] at e2; cases e2
      refine codeAny_with_toks (n := s.toks) htk₄ ?_
      refine two_inner T2 W2 Acc (hA _ _) hy hxy hp hDC hD2 hC2 hacc (l₀ := l) hst2 (hacc _ _ _ ha₂ fun o e => hk₄ _ o e) (hn₂.at' fun o e => hk₄ _ o e) (v := v) (by simp) ?_ ?_
      · intro i' u l' s₅ m₅ E' hi' hPu ha5 hn5 hmx hmy hk5 htk5 ⟨us, hus, hl⟩
        exact hem i' u l' s₅ m₅ E' hi' hPu ha5 hn5 hmx hmy (fun b o hb hD hw e => hk5 b o hb hD (hk4s b o hb hD hw e) (hk₄ b o (hk₂ b o hb hD hw e))) htk5 ⟨l, us, hE, hus, hl⟩
      · intro h5 tk5 m5 us hus hP2 ha5 hn5 hk5 htk5
        refine ⟨n + 1 - (i + 1), by omega, h5, tk5, m5, i + 1, _, rfl, ?_, .snoc hE hPv (hU us hus hP2), ha5, hn5, hlt, rfl, fun b o hb hD hw e => hk5 b o hb hD (hk4s b o hb hD hw e) (hk₄ b o (hk₂ b o hb hD hw e)), htk5⟩
        refine W.frame _ _ _ hst₂ fun b hb o e => hk5 b o (fun h => hCf (h ▸ hb)) (fun h => hDf (h ▸ hb)) ?_ (hk₄ b o e)
        intro hm
        have e2 : h₂.get? b = none := hwr2 b hm
        rw [e] at e2; cases e2
    · have hin : i = n := by omega
      subst hin
      refine W.done _ _ _ hst' fun h₁ tk₁ hk₁ => ?_
      exact done h₁ tk₁ m' l hE (hacc _ _ _ ha fun o e => hk₁ D o hDw e) (hn.at' fun o e => hk₁ _ o hCw e) fun b o hb hD hw e => hk₁ b o hw (hk b o hb hD hw e)
  exact two_start T2 (by decide) loop (W.self 0 _ _ _ hst loop)
end
end Mine

/- part MBlk -/
theorem Mine.offMBlk : True := by
  w_top off
  trivial
namespace Mine
open PySem PySem.Spec PySem.Calls PySem.W PyProof.Rows PySem.Builtin PySem.Builtin.Str
section
variable {prog : Program} {w : World} {A : Around} {E : Value → Shared → Prop} {env : Env}

theorem comp2_block {elt i1 i2 : Expr} {x y : Str} {px py : Pos} {scope : Scope} {pos : Pos} {e : Expr} {emit : Value → Env → Sem Unit} (T2 : Two elt (.Name x px) i1 (.Name y py) i2 scope pos e emit) {cl : List (Str × Addr)} {s₂ : Shared} {I : Addr}
    {fp wr : List Addr} {n : Nat} {P : Nat → Value → Prop} {St : Nat → Heap → Prop} (W : Walks prog w A I fp wr n P St) {newAcc : Sem Value} (Acc : Addr → List (Value × Value) → Heap → Prop) (U : Value → List Value → Prop) {RR : Value → Addr → Result → Shared → Prop}
    (hnew : ∀ Q' : Value → Shared → Prop, (∀ D h₁ tk, @LE.le Nat _ s₂.heap.objs.size D → s₂.heap.StaysIn h₁ → Acc D [] h₁ → D < h₁.objs.size → s₂.toks ≤ tk → s₂.heap.objs.size ≤ h₁.objs.size → Q' (.ref D) { s₂ with heap := h₁, toks := tk }) → wpAny (model prog w) A newAcc Q' E s₂)
    (hacc : ∀ D l h h', Acc D l h → (∀ o, h.get? D = some o → h'.get? D = some o) → Acc D l h')
    (hA : ∀ d it acc cenv, A.under (.compLoop e d it acc cenv) = A) (hA1 : A.mark none = A) (hf : ∀ C x, foldedSetIterable i2 (compEnvC scope cl C env) x = pure x)
    (hcell : ∀ z ∈ scope.names, z.2 ≠ .cell) (hkind : scope.kind = .function) (hx : scope.names.lookup x = some .local) (hy : scope.names.lookup y = some .local) (hxy : x ≠ y) (hst : St 0 s₂.heap) (hfp : ∀ b ∈ fp, b < s₂.heap.objs.size)
    (inner : ∀ C D i v (s₃ : Shared) m₃ E', s₂.heap.get? C = none → s₂.heap.get? D = none → D ≠ C → i < n → P i v → s₃.heap.Ns C m₃ → m₃ x = some v → (∀ b o, b ∉ wr → s₂.heap.get? b = some o → s₃.heap.get? b = some o) → s₂.toks ≤ s₃.toks → (∃ o, s₃.heap.get? D = some o) →
      wpAny (model prog w) A (eval i2 (compEnvC scope cl C env)) (fun xv s₄ => wpAny (model prog w) A (pyIter xv) (fun it2 s₅ => ∃ h₅ tk₅ I2 fp2 wr2 n2 P2 St2, s₅ = { s₃ with heap := h₅, toks := tk₅ } ∧ it2 = .ref I2 ∧ Walks prog w A I2 fp2 wr2 n2 P2 St2 ∧ St2 0 h₅ ∧
        (∀ b o, s₃.heap.get? b = some o → h₅.get? b = some o) ∧ (∀ b ∈ wr2, s₃.heap.get? b = none) ∧ D ∉ fp2 ∧ D ∉ wr2 ∧ C ∉ fp2 ∧
        (∀ us : List Value, us.length = n2 → (∀ (k : Nat) u, us[k]? = some u → P2 k u) → U v us) ∧
        (∀ i2 u l (s₆ : Shared) m₆ E', i2 < n2 → P2 i2 u → Acc D l s₆.heap → s₆.heap.Ns C m₆ → m₆ x = some v → m₆ y = some u → (∀ b o, b ∉ wr → s₂.heap.get? b = some o → s₆.heap.get? b = some o) → tk₅ ≤ s₆.toks → (∃ (l0 : List (Value × Value)) (us : List Value), Emitted P U i l0 ∧ us.length = i2 ∧ l = l0 ++ us.map fun u => (v, u)) →
          wpAny (model prog w) A (emit (.ref D) (compEnvC scope cl C env)) (fun _ s₇ => ∃ h' tk, s₇ = { s₆ with heap := h', toks := tk } ∧ (∀ b o, b ≠ D → s₆.heap.get? b = some o → h'.get? b = some o) ∧ Acc D (l ++ [(v, u)]) h') E' s₆)) E' s₄) E' s₃)
    (hRR : ∀ D C h' tk m' l, s₂.heap.get? D = none → s₂.heap.get? C = none → D ≠ C → Emitted P U n l → Acc D l h' → h'.Ns C m' → (∀ b o, b ∉ wr → s₂.heap.get? b = some o → h'.get? b = some o) → RR (.ref D) C (.ok .next) { s₂ with heap := h', toks := tk })
    (hex : ∀ D l h, Acc D l h → ∃ o, h.get? D = some o) :
    wpAny (model prog w) A newAcc (fun acc s₃ => wpAny (model prog w) A (newFunctionEnv scope env.globals cl [] env.qual none .none (some env)) (fun cenv s₄ =>
      codeAny (model prog w) A (.compStart e 0 (.ref I) acc { cenv with scope := relabel scope env }) (RR acc cenv.locals) s₄) E s₃) E s₂ := by
  refine hnew _ fun D h₁ tk₁ hDge hk₁ ha₁ hDlt htk₁ hsz₁ => ?_
  have hD0 : s₂.heap.get? D = none := Heap.get?_none_of_le hDge
  refine wpAny_newFunctionEnv hcell (by intro y hy; simp at hy) (fun h₂ hns₂ hsb₂ => ?_) hkind
  dsimp only at hns₂ hsb₂ ⊢
  have hDC : D ≠ h₁.objs.size := Nat.ne_of_lt hDlt
  have hC0 : s₂.heap.get? h₁.objs.size = none := Heap.get?_none_of_le hsz₁
  have fpn : ∀ b ∈ fp, b ≠ h₁.objs.size ∧ b ≠ D := fun b hb => ⟨Nat.ne_of_lt (Nat.lt_of_lt_of_le (hfp b hb) hsz₁), Nat.ne_of_lt (Nat.lt_of_lt_of_le (hfp b hb) hDge)⟩
  have lt2 : ∀ b o, s₂.heap.get? b = some o → b ≠ h₁.objs.size ∧ b ≠ D := fun b o e => ⟨Nat.ne_of_lt (Nat.lt_of_lt_of_le (Heap.lt_size e) hsz₁), by rintro rfl; rw [hD0] at e; cases e⟩
  have old : ∀ b o, s₂.heap.get? b = some o → h₂.get? b = some o := fun b o e => hsb₂.extBut b o (lt2 b o e).1 (Heap.get?_push_of_some _ (hk₁ b o e))
  have ha₂ : Acc D [] h₂ := hacc _ _ _ _ ha₁ fun o e => hsb₂.extBut _ o hDC (Heap.get?_push_of_some _ e)
  have hst₂ : St 0 h₂ := W.frame _ _ _ hst fun b _ o e => old b o e
  refine two_outer (cenv := compEnvC scope cl h₁.objs.size env) T2 W (Acc D) U (fun d it => hA d it _ _) hA1 (hf _) (lookup_relabel_local hx) (lookup_relabel_local hy) hxy (by simp [compEnvC, relabel, hkind]) hDC (fun hm => (fpn _ hm).2 rfl) (fun hm => (fpn _ hm).1 rfl)
    (hacc D) hst₂ ha₂ hns₂ ?_ ?_
  · intro i v s₃ m₃ E' hi hP hn hm hk htk ⟨l₃, ha₃⟩
    refine wpAny_mono (inner h₁.objs.size D i v s₃ m₃ E' hC0 hD0 hDC hi hP hn hm (fun b o hb e => hk b o (lt2 b o e).1 (lt2 b o e).2 hb (old b o e)) (Nat.le_trans htk₁ htk) (hex _ _ _ ha₃)) (fun xv s₄ h₄ => wpAny_mono h₄ (fun it2 s₅ h₅ => ?_) fun _ _ e => e) fun _ _ e => e
    obtain ⟨h₅, tk₅, I2, fp2, wr2, n2, P2, St2, e1, e2, W2, hst2, hk2, hw2, hD2, hDw2, hC2, hU, hem⟩ := h₅
    refine ⟨h₅, tk₅, I2, fp2, wr2, n2, P2, St2, e1, e2, W2, hst2, hk2, hw2, hD2, hDw2, hC2, hU, ?_⟩
    intro i' u l' s₆ m₆ E'' hi' hPu ha6 hn6 hx6 hy6 hk6 htk6 hl6
    exact hem i' u l' s₆ m₆ E'' hi' hPu ha6 hn6 hx6 hy6 (fun b o hb e => hk6 b o (lt2 b o e).1 (lt2 b o e).2 hb (old b o e)) htk6 hl6
  · intro h' tk m' l hE ha hn hk
    exact hRR D h₁.objs.size h' tk m' l hD0 hC0 hDC hE ha hn fun b o hb e => hk b o (lt2 b o e).1 (lt2 b o e).2 hb (old b o e)
end
end Mine

/- part MTk -/
theorem Mine.offMTk : True := by
  w_top off
  trivial

namespace Mine
open PySem PySem.Spec PySem.Calls PySem.W PyProof.Rows PySem.Builtin PySem.Builtin.Str
set_option maxHeartbeats 1000000
theorem fillTk (w : World) : (hd.heap_39 w.params) = (hd.heap_39 w.params) ∧ PySem.Challenge.rw_mq0154_01.prog = PySem.Challenge.rw_mq0154_01.prog := by k_fill; exact ⟨rfl, rfl⟩
def tkStep (t : Str) (ps : List Nat) (c : Nat) : List Nat :=
  if c = 42 then (match ps with | [] => [] | f :: _ => List.range' f (t.length + 1 - f)) else (ps.filter fun p => t.cps[p]? == some c).map (· + 1)
def takesB (p t : Str) : Bool := (p.cps.toList.foldl (tkStep t) [0]).any (· == t.length)
theorem ints_at : ∀ {vs : List Value} {ns : List Int}, IntsAre vs ns → ∀ {i : Nat} {v : Value}, vs[i]? = some v → ∃ n t, v = .int n t ∧ ns[i]? = some n
  | _, _, .nil, i, v, h => by simp at h
  | _, _, .cons y t r, 0, v, h => by simp at h; exact ⟨y, t, h.symm, by simp⟩
  | _, _, .cons y t r, i + 1, v, h => by
    obtain ⟨x, t', e, e'⟩ := ints_at r (i := i) (v := v) (by simpa using h)
    exact ⟨x, t', e, by simpa using e'⟩
theorem slice_ss' {prog : Program} {w : World} {A : Around} {E : Value → Shared → Prop} {s : Shared} {value slice : Expr} {x : Str} {t : Tok} {Q : Value → Shared → Prop} {i j : Int} {ui uj : Tok}
    (h : ∀ h' t' k, s.heap.StaysIn h' → Q (.str (Txt.slice x (some i) (some j)) t') { s with heap := h', toks := k }) (hsz : x.length ≤ sizeLine)
    (hs : subscripted slice false (.str x t) (.ref s.heap.objs.size) = operate [.ref s.heap.objs.size, .str x t] (getItem (.str x t) (.ref s.heap.objs.size)) := by with_unfolding_all rfl)
    (ht : ∀ r, letTemporaryGo value (.str x t) r = pure () := by intro _; with_unfolding_all rfl) :
    wpAny (model prog w) A (subscriptTail value slice (.str x t) (.ref s.heap.objs.size)) Q E { s with heap := s.heap.push { cls := .type "slice", data := .fields #[.int i ui, .int j uj, .none] } } :=
  tail_of_ItemOn (SBH.sliceItem_ss (P := fun h => s.heap.StaysIn h) (fun _ ob hp b o e => Heap.get?_push_of_some ob (hp b o e)) (fun _ _ e => e) h hsz) hs ht
theorem slice_one (t : Str) (c : Nat) {q : Int} (hq : 0 ≤ q) : (Txt.slice t (some q) (some (q + 1)) == ⟨#[c]⟩) = (t.cps[q.toNat]? == some c) := by
  by_cases h : q < t.length
  · have := beq_iff_eq.mp (slice_one_closes hq h)
    rw [this]
    have hlt : q.toNat < t.cps.size := by have : (t.length : Int) = t.cps.size := rfl; omega
    rw [Array.getElem?_eq_getElem hlt, Array.getD_eq_getD_getElem?, Array.getElem?_eq_getElem hlt]
    rw [Bool.eq_iff_iff]
    simp
  · have e : (strSliceIndices (some q) (some (q + 1)) 1 t.length) = [] := by
      unfold strSliceIndices sliceRange
      have e1 : ¬ q < 0 := by omega
      have e2 : ¬ q + 1 < 0 := by omega
      simp only [e1, e2, if_false, show (1 : Int) > 0 by decide, if_true]
      rw [if_neg (by omega)]
      rfl
    have e2 : t.cps[q.toNat]? = none := by
      apply Array.getElem?_eq_none
      have : (t.length : Int) = t.cps.size := rfl
      omega
    unfold Txt.slice
    rw [e, e2]
    simp only [List.length_nil, List.filterMap_nil]
    split
    · rename_i h0
      have h0' : t.length = 0 := (show 0 = t.length by simpa using h0).symm
      have : t.cps = #[] := Array.eq_empty_of_size_eq_zero h0'
      cases t
      simp only at this
      subst this
      rfl
    · rfl
theorem tk_ints {t : Str} {c : Nat} : ∀ {vs : List Value} {ps : List Nat} {ys : List Value}, IntsAre vs (ps.map Int.ofNat) →
    Paired (fun v y => ∃ q t t', v = .int q t ∧ y = .int (q + 1) t') (vs.filter fun v => match v with | .int q _ => t.cps[q.toNat]? == some c | _ => false) ys →
    IntsAre ys (((ps.filter fun p => t.cps[p]? == some c).map (· + 1)).map Int.ofNat)
  | _, [], ys, .nil, h => by cases h; exact .nil
  | _, p :: ps, ys, .cons _ tk r, h => by
    rw [List.filter_cons] at h ⊢
    simp only [Int.toNat_natCast, Int.ofNat_eq_natCast] at h
    cases hc : (t.cps[p]? == some c)
    · rw [hc] at h
      simp only [Bool.false_eq_true, if_false] at h ⊢
      exact tk_ints r h
    · rw [hc] at h
      simp only [if_true] at h ⊢
      cases h with
      | cons h1 h2 =>
        obtain ⟨q, t1, t2, e1, rfl⟩ := h1
        cases e1
        have := tk_ints r h2
        simpa using IntsAre.cons _ _ this
theorem iterStr {prog : Program} {w : World} {A : Around} {E : Value → Shared → Prop} {s : Shared} {x : Str} {t : Tok} {Q : Value → Shared → Prop}
    (hQ : ∀ (o : Obj) (St : Nat → Heap → Prop), (∀ A' : Around, A'.handled = none → Walks prog w A' s.heap.objs.size [s.heap.objs.size] [s.heap.objs.size] x.cps.size (SignAt x) St) → (∀ i h, St i h → ∃ o, h.get? s.heap.objs.size = some o) → St 0 (s.heap.push o) →
      Q (.ref s.heap.objs.size) { s with heap := s.heap.push o }) : wpAny (model prog w) A (pyIter (.str x t)) Q E s := by
  cases ha : x.cps.all (· < 128)
  · exact wpAny_pyIter_wide ha (hQ _ _ (fun A' hA => Walks.strWide hA _ x t) (fun i h st => let ⟨o, ho, _⟩ := st; ⟨o, ho⟩) ⟨_, Heap.get?_push_size _ rfl, rfl, rfl⟩)
  · exact wpAny_pyIter_ascii ha (hQ _ _ (fun A' hA => Walks.strAscii hA _ x t) (fun i h st => let ⟨o, ho, _⟩ := st; ⟨o, ho⟩) ⟨_, Heap.get?_push_size _ rfl, rfl, rfl⟩)
theorem tkStep_letter {t : Str} {ps : List Nat} {c : Nat} (h : c ≠ 42) : tkStep t ps c = (ps.filter fun p => t.cps[p]? == some c).map (· + 1) := if_neg h
theorem tkStep_nil {t : Str} : tkStep t [] 42 = [] := rfl
theorem tkStep_star {t : Str} {f : Nat} {ps : List Nat} : tkStep t (f :: ps) 42 = List.range' f (t.length + 1 - f) := rfl
theorem tk_take {t : Str} {l : List Nat} {i c : Nat} {ps : List Nat} {a : Array Nat} (h : a[i]? = some c) (e : a.toList = l := by rfl) : (l.take (i + 1)).foldl (tkStep t) ps = tkStep t ((l.take i).foldl (tkStep t) ps) c := by
  subst e
  rw [List.take_add_one, Array.getElem?_toList, h]
  simp
theorem tk_bound (t : Str) : ∀ (l : List Nat) (ps : List Nat), ps.length ≤ t.length + 1 → (∀ q ∈ ps, q ≤ t.length) → (l.foldl (tkStep t) ps).length ≤ t.length + 1 ∧ ∀ q ∈ l.foldl (tkStep t) ps, q ≤ t.length
  | [], ps, h1, h2 => ⟨h1, h2⟩
  | c :: l, ps, h1, h2 => by
    rw [List.foldl_cons]
    refine tk_bound t l _ ?_ ?_
    · unfold tkStep
      split
      · cases ps with
        | nil => simp
        | cons f r => simp
      · rw [List.length_map]
        exact Nat.le_trans (List.length_filter_le _ _) h1
    · intro q hq
      unfold tkStep at hq
      split at hq
      · cases ps with
        | nil => simp at hq
        | cons f r =>
          have := List.mem_range'_1.mp hq
          have h0 := h2 f (.head _)
          omega
      · obtain ⟨q', hq', rfl⟩ := List.mem_map.mp hq
        have := (List.mem_filter.mp hq').2
        have hlt : q' < t.cps.size := by
          have e := beq_iff_eq.mp this
          exact (Array.getElem?_eq_some_iff.mp e).1
        exact hlt
def TKS (s : Shared) (L' : Addr) (p t : Str) (ne : Addr → Prop) (ps : List Nat) (s' : Shared) : Prop :=
  ∃ h' tk' D n vs u o1 o2 w2 t1 t2, s' = { s with heap := h', toks := tk' } ∧ Fr s.heap L' h' u ∧ u "places" = some (.ref D) ∧ u "pattern" = some (.str p t1) ∧
    h'.get? D = some { cls := .type "list", data := .seq vs.toArray n } ∧ s.heap.get? D = none ∧ D ≠ L' ∧ IntsAre vs (ps.map Int.ofNat) ∧ ne D ∧
    h'.get? (L' + 1) = some o1 ∧ o1.data = .cell (some (.str t t2)) ∧ h'.get? (L' + 2) = some o2 ∧ o2.data = .cell w2
theorem range_ints : ∀ (n : Nat) (q : Int) (us : List Value), 0 ≤ q → us.length = n → (∀ (k : Nat) (u : Value), us[k]? = some u → ∃ t, u = .int (q + (k : Int) * 1) t) → IntsAre us ((List.range' q.toNat n).map Int.ofNat)
  | 0, q, us, _, h, _ => by
    cases us with
    | nil => exact .nil
    | cons a r => simp at h
  | n + 1, q, us, hq, h, hP => by
    cases us with
    | nil => simp at h
    | cons a r =>
      obtain ⟨t, ha⟩ := hP 0 a rfl
      have ih := range_ints n (q + 1) r (by omega) (by simpa using h) fun k u hk => by
        obtain ⟨t', e⟩ := hP (k + 1) u (by simpa using hk)
        refine ⟨t', e.trans ?_⟩
        congr 1
        push_cast; omega
      have e1 : (q + 1).toNat = q.toNat + 1 := by omega
      rw [e1] at ih
      rw [List.range'_succ, List.map_cons, ha]
      have e2 : q + (0 : Nat) * 1 = Int.ofNat q.toNat := by simp; omega
      rw [e2]
      exact .cons _ _ ih
theorem star_ints {t : Str} {vs : List Value} {ps : List Nat} {l : List (Value × Value)} (hI : IntsAre vs (ps.map Int.ofNat))
    (hE : Emitted (fun i v => (slicePick vs.toArray none (some 1) none)[i]? = some v) (fun v us => ∃ f tf, v = .int f tf ∧ IntsAre us ((List.range' f.toNat (t.length + 1 - f.toNat)).map Int.ofNat)) (slicePick vs.toArray none (some 1) none).size l) :
    IntsAre (l.map (·.2)) ((tkStep t ps 42).map Int.ofNat) := by
  have e : slicePick vs.toArray none (some 1) none = (vs.take 1).toArray := slicePick_upto' vs.toArray 1
  rw [e] at hE
  cases ps with
  | nil =>
    cases hI
    cases hE
    exact .nil
  | cons f r =>
    cases hI with
    | cons _ tk r' =>
      replace hE := show Emitted _ _ (0 + 1) l from hE
      cases hE with
      | snoc h1 h2 h3 =>
        cases h1
        obtain ⟨f', tf, rfl, hus⟩ := h3
        have h2' : Value.int (Int.ofNat f) tk = Value.int f' tf := by simpa using h2
        cases h2'
        rw [tkStep_star]
        have e3 : ∀ (a : Value) (us : List Value), (([] : List (Value × Value)) ++ us.map fun u => (a, u)).map (·.2) = us := by
          intro a us
          rw [List.nil_append, List.map_map]
          exact List.map_id us
        rw [e3]
        simpa using hus
theorem slice_K {prog : Program} {w : World} {A : Around} {E : Value → Shared → Prop} {h₀ : Heap} {gens drawn toks os} {value slice : Expr} {l : Addr} {items : Array Value} {vl vu : Value} {lo hi : Option Int} {Q : Value → Shared → Prop}
    (hl : h₀.IsList l items) (pl : IsPart vl lo) (pu : IsPart vu hi) (hsz : items.size ≤ sizeLine)
    (h : Q (.ref (h₀.objs.size + 1)) ⟨(h₀.push { cls := .type "slice", data := .fields #[vl, vu, .none] }).push { cls := .type "list", data := .seq (slicePick items lo hi none) }, gens, drawn, toks, os⟩)
    (hs : subscripted slice false (.ref l) (.ref h₀.objs.size) = operate [.ref h₀.objs.size, .ref l] (getItem (.ref l) (.ref h₀.objs.size)) := by with_unfolding_all rfl)
    (ht : ∀ r, letTemporaryGo value (.ref l) r = pure () := by intro _; with_unfolding_all rfl) :
    wpAny (model prog w) A (subscriptTail value slice (.ref l) (.ref h₀.objs.size)) Q E ⟨h₀.push { cls := .type "slice", data := .fields #[vl, vu, .none] }, gens, drawn, toks, os⟩ :=
  slice_listK (s := ⟨h₀, gens, drawn, toks, os⟩) hl pl pu h hs ht hsz
theorem Assign_two {prog : Program} {w : World} {A : Around} {E : Value → Shared → Prop} {s : Shared} {env : Env} {elt : Expr} {g : Comprehension} {gs : List Comprehension} {y : Str} {py : Pos} {scope : Scope} {cl : List (Str × Addr)} {pos spos : Pos} {Q : Flow → Shared → Prop}
    (hsw : swapsWith (.ListComp elt (g :: gs) scope pos) (some (.Name y py)) spos.line env = pure true) (hclos : closureFor scope env = pure cl) (hkind : scope.kind = .function)
    (hnames : ∀ z ∈ scope.names, z.2 = .local → scope.names.lookup z.1 = some .local)
    (h : wpAny (model prog w) A (eval g.iter env) (fun xv s₁ => wpAny (model prog w) A (pyIter xv) (fun it s₂ => wpAny (model prog w) A (newList []) (fun acc s₃ =>
      wpAny (model prog w) A (newFunctionEnv scope env.globals cl [] env.qual none .none (some env)) (fun cenv s₄ =>
        codeAny (model prog w) A (.compStart (.ListComp elt (g :: gs) scope pos) 0 it acc { cenv with scope := relabel scope env }) (compPost (model prog w) A E (some (assign (.Name y py) env)) (fun _ s' => Q .next s') acc cenv.locals) s₄) E s₃) E s₂) E s₁) E s)
    (hs : ∀ x, foldedSetIterable g.iter env x = pure x) (ha : g.is_async = 0) :
    wpAny (model prog w) A (exec (.Assign [.Name y py] (.ListComp elt (g :: gs) scope pos) spos) env) Q E s := by
  rw [exec_Assign_Name_used _ _ _ _ hsw]
  refine wpAny_bind (wpAny_standAt (wpAny_bind ?_))
  obtain ⟨gt, gi, gf, ga⟩ := g
  cases ha
  show wpAny _ A (do let _ ← comprehension (.ListComp elt (⟨gt, gi, gf, 0⟩ :: gs) scope pos) scope env _ (newList []) false (eval gi env) (some (assign (.Name y py) env))) _ _ s
  exact wpAny_bind (wpAny_mono (wpAny_comprehension_free (use := some (assign (.Name y py) env)) (Q := fun _ s' => Q .next s') rfl hs hclos hkind hnames h) (fun _ s' hq => wpAny_pure (wpAny_pure hq)) fun _ _ e => e)
local macro_rules | `(tactic| walk_at "toname") => `(tactic| repeat ((fail_if_success (with_reducible show wpAny _ _ (eval (Expr.Name _ _) _) _ _ _)); first | walk1 | (dsimp only; walk1)))
local macro_rules | `(tactic| walk_at "exec Assign cons ListComp") => `(tactic| refine Stop.out ?_)
theorem takes_spec {w : World} {mean : ExcName → Option Value} {mg mb : Str → Option Value} {dp un : Nat} {gd : Option (List Code)} {outer : List Env} {s : Shared} {Q E : Value → Shared → Prop}
    (X : (hd.heap_39 w.params).In s.heap) (T : Top hd.view_39 (looseW hd.view_39 []) mean mg mb s.heap)
    (hdp : dp < recursionLimit) (p t : Str) (t1 t2 : Tok) (hpl : p.length ≤ 1000) (htl : t.length ≤ 1000)
    (ret : ∀ h' tk', s.heap.StaysIn h' → Q (.bool (takesB p t)) { s with heap := h', toks := tk' }) :
    wpAny (model PySem.Challenge.rw_mq0154_01.row.prog w) (aTop dp un gd outer) (call (.ref 40) [.str p t1, .str t t2]) Q E s := by
  refine wpAny_call ?_
  k_dflt (refine' enterC X T ?k6 ?k7 ?k8 ?k9 ?kA ?kB ?_ ?c2 ?c3 ?c4; (case k6 => k_is); (case k7 => k_is); (case k8 => exact hdp); (case k9 => exact BindsTo.of_eq rfl); (case kA => exact rfl); (case kB => decide); (case c2 => exact rfl); (case c3 => exact rfl); (case c4 => exact rfl))
  intro L' h' tk cells F' N' C'
  obtain ⟨os, ot, rfl, hos, hot⟩ := C'.two
  have hot' : ot.data = .cell (some (.str t t2)) := hot
  have hos' : os.data = .cell none := hos
  obtain ⟨u, F, hu1⟩ : ∃ u, Fr s.heap L' h' u ∧ u "pattern" = some (.str p t1) := ⟨_, F', rfl⟩
  clear F' hot hos
  have hL0 : s.heap.get? L' = none := Heap.get?_none_of_le F.above
  refine execs_cut 1 (fun s' => Hold (TKS s L' p t (fun _ => True) [0] s')) ?_ ?_
  · simp only [List.take]
    k_steps
    rename Fr _ _ _ _ => F2
    rename News _ _ _ _ => N2
    refine Hold.mk ⟨_, _, _, _, [_], _, ot, os, none, t1, t2, rfl, F2, rfl, hu1, (N2 _ (.head _)).1, (N2 _ (.head _)).2.2, (N2 _ (.head _)).2.1, .cons _ _ .nil, trivial, ?_, hot', ?_, hos'⟩
    · exact (N2 _ (.tail _ (.tail _ (.head _)))).1
    · exact (N2 _ (.tail _ (.head _))).1
  · clear N' C' F hu1 hot' hos' u os ot h' tk
    rintro s' ⟨h', tk', D, n, vs, u, o1, o2, w2, t1, t2, rfl, F, hu1, hu2, hD, hD0, hDL, hI, hneD, ho1, hot, ho2, hos⟩
    simp only [List.drop]
    refine execs_cons' ?_
    refine wpAny_For ?_
    refine nmL F.ns hu2 ?_
    refine iterStr fun oi St WS hStI hst0 => ?_
    have hIc : ∀ b o, h'.get? b = some o → b ≠ h'.objs.size := fun b o e h => Nat.lt_irrefl _ (h ▸ Heap.lt_size e)
    have hLs : @LT.lt Nat _ L' h'.objs.size := F.ns.lt
    have hcs : @LT.lt Nat _ (L' + 2) h'.objs.size := Heap.lt_size ho2
    refine codeAny_forLoop_any (fun k s' => ∃ i, i ≤ p.cps.size ∧ k = p.cps.size + 1 - i ∧ St i s'.heap ∧ TKS s L' p t (fun a => a ≠ h'.objs.size) ((p.cps.toList.take i).foldl (tkStep t) [0]) s') ?_ (p.cps.size + 1)
      ⟨0, Nat.zero_le _, rfl, hst0, ?_⟩
    · clear hst0 hu1 hu2 hD hD0 hDL hI hneD ho1 hot ho2 hos F D vs n w2 o1 o2 u t1 t2
      rintro k s' ⟨i, hi, rfl, hst, ⟨g, tk', D, n, vs, u, o1, o2, w2, t1, t2, rfl, F, hu1, hu2, hD, hD0, hDL, hI, hneD, ho1, hot, ho2, hos⟩⟩
      by_cases hlt : i < p.cps.size
      · refine (WS _ rfl).item i _ _ _ hlt hst fun v g₁ tk₁ hv hst₁ hk₁ => ?_
        obtain ⟨c, uc, hc, rfl⟩ := hv
        refine wpAny_pure ?_
        refine wpAny_assign_Name (wpAny_storeName_cell (c := L' + 2) rfl rfl rfl (v₀ := w2) ⟨o2, hk₁ _ _ ?_ ho2, hos⟩ fun g₂ hc₂ hs₂ => ?_)
        · show L' + 2 ∉ [h'.objs.size]
          intro hm
          have := List.mem_singleton.mp hm
          exact absurd hcs (this ▸ Nat.lt_irrefl _)
        dsimp only at hk₁ hs₂ ⊢
        have hold : ∀ b o, s.heap.get? b = some o → @LT.lt Nat _ b L' := fun b o e => Nat.lt_of_lt_of_le (Heap.lt_size e) F.above
        have hk2 : ∀ b o, b ≠ h'.objs.size → b ≠ L' + 2 → g.get? b = some o → g₂.get? b = some o := fun b o h1 h2 e => hs₂.extBut b o h2 (hk₁ b o (fun hm => h1 (List.mem_singleton.mp hm)) e)
        have F2 : Fr s.heap L' g₂ u := ⟨F.ns.at' fun o e => hk2 _ o (Nat.ne_of_lt hLs) (Nat.ne_of_lt (by omega)) e, fun b o e => hk2 b o (Nat.ne_of_lt (Nat.lt_trans (hold b o e) hLs)) (Nat.ne_of_lt (Nat.lt_trans (hold b o e) (by omega))) (F.keep b o e), F.above⟩
        have hst₂ : St (i + 1) g₂ := (WS (aTop dp un gd outer) rfl).frame _ _ _ hst₁ fun b hb o e => hs₂.extBut b o (by rw [List.mem_singleton.mp hb]; exact (Nat.ne_of_lt hcs).symm) e
        have hD2 : g₂.get? D = some { cls := .type "list", data := .seq vs.toArray n } := hk2 _ _ hneD (by rintro rfl; rw [ho2] at hD; cases hD; cases hos) hD
        have hps := tk_bound t (p.cps.toList.take i) [0] (by simp) (by simp)
        have hps' := tk_bound t (p.cps.toList.take (i + 1)) [0] (by simp) (by simp)
        have ho12 : g₂.get? (L' + 1) = some o1 := hk2 _ _ (Nat.ne_of_lt (Nat.lt_trans (by omega) hcs)) (Nat.ne_of_lt (by omega)) ho1
        have htx : g₂.IsCell (L' + 1) (some (.str t t2)) := ⟨o1, ho12, hot⟩
        clear hk₁ hs₂ hk2 hst₁ hold
        refine execs_cons' ?_
        (first | walk1 | (dsimp only; walk1))
        repeat' (first | (refine nmC hc₂ ?_) | walk1 | (dsimp only; walk1))
        · rename _ = true => hc42
          refine Stop.mk ?_
          have hc42' : c = 42 := by
            have := beq_iff_eq.mp hc42
            have e : (Str.ofString "*") = ⟨#[42]⟩ := by decide
            rw [e] at this
            injection this with this
            simpa using this
          subst hc42'
          refine Assign_two (cl := [("text", L' + 1)]) (by with_unfolding_all rfl) (by with_unfolding_all rfl) (by rfl) (by decide) ?_ (by intro _; rfl) rfl
          dsimp only
          walk1
          refine nmL F2.ns hu1 ?_
          walk1
          walk1
          walk1
          walk1
          walk1
          have hls : g₂.IsList D vs.toArray := ⟨_, hD2, rfl, _, rfl⟩
          have hsz : vs.toArray.size ≤ sizeLine := by rw [sizeLine_eq]; have := IntsAre.length hI; simp only [List.size_toArray]; simp at this; omega
          refine slice_K hls .none (.int 1 _) hsz ?_
          refine wpAny_pyIter_list (isList_pushed2 _ _ _) ?_
          refine comp2_block .list (Walks.list rfl _ (g₂.objs.size + 1) ?_ (slicePick vs.toArray none (some 1) none)) (fun D l h => h.PlainList D (l.map (·.2)).toArray) (fun v us => ∃ f tf, v = .int f tf ∧ IntsAre us ((List.range' f.toNat (t.length + 1 - f.toNat)).map Int.ofNat))
            ?_ ?_ (by intros; rfl) rfl (by intros; rfl) (by decide) rfl rfl rfl (by decide) ?_ ?_ ?_ ?_ ?_
          · show @Ne Nat _ (Heap.push (Heap.push _ _) _).objs.size
            rw [Heap.size_push, Heap.size_push]; omega
          · intro Q' hQ
            exact wpAny_newObj_type (hQ _ _ _ (Nat.le_refl _) (fun b o e => Heap.get?_push_of_some _ e) ⟨_, Heap.get?_push_size _ rfl⟩ (Nat.lt_of_lt_of_eq (Nat.lt_succ_self _) (Heap.size_push ..).symm) (Nat.le_refl _) (Nat.le_of_lt (Nat.lt_of_lt_of_eq (Nat.lt_succ_self _) (Heap.size_push ..).symm)))
          · exact fun D l h h' ha hk => ha.at hk
          · exact ⟨⟨_, Heap.get?_push_size _ rfl, rfl, rfl⟩, (isList_pushed2 _ _ _).push _⟩
          · intro b hb
            show b < (Heap.push _ _).objs.size
            rw [Heap.size_push]
            rcases List.mem_cons.mp hb with rfl | hb
            · exact Nat.lt_succ_self _
            · rw [List.mem_singleton.mp hb]
              show _ < (Heap.push (Heap.push _ _) _).objs.size + 1
              rw [Heap.size_push, Heap.size_push]; omega
          · intro C D' i1 v s₃ m₃ E' hC0 hD0 hDC hi hP hn hm hk htk hDe
            have hk3 : ∀ b o, g₂.get? b = some o → s₃.heap.get? b = some o := fun b o e => hk b o (by
              intro hm'
              have e2 : @LT.lt Nat _ b g₂.objs.size := Heap.lt_size e
              have e3 : @Eq Nat b (g₂.objs.size + 1 + 1) := (List.mem_singleton.mp hm').trans (by show (Heap.push (Heap.push _ _) _).objs.size = _; rw [Heap.size_push, Heap.size_push])
              omega) (Heap.get?_push_of_some _ (Heap.get?_push_of_some _ (Heap.get?_push_of_some _ e)))
            clear hk htk
            have F3 : Fr s.heap L' s₃.heap u := F2.keeps hk3
            have htx3 : s₃.heap.IsCell (L' + 1) (some (.str t t2)) := htx.keeps hk3
            have X3 := X.keeps F3.keep
            have T3 := T.keeps F3.keep
            obtain ⟨q, tq, rfl, hq⟩ : ∃ q tq, v = .int q tq ∧ ((List.foldl (tkStep t) [0] (List.take i p.cps.toList)).take 1)[i1]? = some q.toNat ∧ 0 ≤ q := by
              rw [show slicePick vs.toArray none (some 1) none = (vs.toArray.toList.take 1).toArray from slicePick_upto' vs.toArray 1] at hP
              obtain ⟨q, tq, e1, e2⟩ := ints_at (hI.take 1) (i := i1) (v := v) (by simpa using hP)
              rw [← List.map_take, List.getElem?_map] at e2
              obtain ⟨q', e3, rfl⟩ := Option.map_eq_some_iff.mp e2
              exact ⟨_, tq, e1, by simpa using e3, Int.natCast_nonneg q'⟩
            walk1
            refine nmB X3 T3 (by k_is) (by boot_by_name) (by decide) ?_
            walk_at "toname"
            refine nmL (env := compEnvC _ _ _ _) hn hm ?_
            walk_at "toname"
            refine nmB X3 T3 (by k_is) (by boot_by_name) (by decide) ?_
            walk_at "toname"
            refine nmC htx3 ?_
            walk1
            walk1
            walk1
            have hn2 : Builtin.Range.rangeSize q ((t.length : Int) + 1) 1 = ((t.length + 1 - q.toNat : Nat) : Int) := by
              rw [rangeSize_one]
              split <;> omega
            have hqb : q.toNat ≤ t.length := hps.2 _ (List.mem_of_mem_take (List.mem_of_getElem? hq.1))
            (first | refine call_range_2 ?_ | (walk1; refine call_range_2 ?_) | (walk1; walk1; refine call_range_2 ?_))
            refine wpAny_pyIter_range (IsRange.new ..) (small_one (by omega) (by omega) (by omega) (by omega)) ?_
            refine ⟨_, _, _, _, _, t.length + 1 - q.toNat, _, _, rfl, rfl, Walks.range rfl _ q 1 _, ?_, ?_, ?_, ?_, ?_, ?_, ?_, ?_⟩
            · have e0 : q + ((0 : Nat) : Int) * 1 = q := by simp
              have e1 : ((t.length + 1 - q.toNat : Nat) : Int) - ((0 : Nat) : Int) = ((t.length + 1 - q.toNat : Nat) : Int) := by simp
              rw [e0, e1, ← hn2]
              exact Heap.get?_push_size _ rfl
            · exact fun b o e => Heap.get?_push_of_some _ (Heap.get?_push_of_some _ e)
            · intro b hb
              rw [List.mem_singleton.mp hb]
              show s₃.heap.get? (Heap.push s₃.heap _).objs.size = none
              rw [Heap.size_push]
              exact fresh_above _ 1
            · obtain ⟨o, e⟩ := hDe
              intro hm'
              have e2 := fresh_above s₃.heap 1
              have e3 : @Eq Nat D' (s₃.heap.objs.size + 1) := (List.mem_singleton.mp hm').trans (by show (Heap.push _ _).objs.size = _; rw [Heap.size_push])
              rw [← e3, e] at e2; cases e2
            · obtain ⟨o, e⟩ := hDe
              intro hm'
              have e2 := fresh_above s₃.heap 1
              have e3 : @Eq Nat D' (s₃.heap.objs.size + 1) := (List.mem_singleton.mp hm').trans (by show (Heap.push _ _).objs.size = _; rw [Heap.size_push])
              rw [← e3, e] at e2; cases e2
            · intro hm'
              have e2 : @LT.lt Nat _ C s₃.heap.objs.size := hn.lt
              have e3 : @Eq Nat C (s₃.heap.objs.size + 1) := (List.mem_singleton.mp hm').trans (by show (Heap.push _ _).objs.size = _; rw [Heap.size_push])
              omega
            · intro us hus hP2
              exact ⟨q, tq, rfl, range_ints _ q us hq.2 hus hP2⟩
            · rintro i2 u l s₆ m₆ E'' hi2 ⟨tu, rfl⟩ ha6 hn6 hx6 hy6 hk6 htk6 ⟨l0, us, hE0, hus, rfl⟩
              have hi1 : i1 = 0 := by
                have := (List.getElem?_eq_some_iff.mp hq.1).1
                rw [List.length_take] at this
                omega
              subst hi1
              cases hE0
              refine wpAny_bind (nmL (env := compEnvC _ _ _ _) hn6 hy6 ?_)
              refine wpAny_bind (wpAny_list_append_plain (hsz := ?_) ha6 fun h₇ hl₇ hs₇ => wpAny_pure ⟨h₇, _, rfl, fun b o hb e => hs₇.extBut b o hb e, ?_⟩)
              · simpa using hl₇
              · rw [sizeLine_eq]
                simp; omega
          · intro D' C h₅ tk₅ m₅ l hD0 hC0 hDC hE ha hn5 hk5
            have up3 : ∀ (a1 a2 a3 : Obj) b o, g₂.get? b = some o → Heap.get? (Heap.push (Heap.push (Heap.push g₂ a1) a2) a3) b = some o := fun a1 a2 a3 b o e => Heap.get?_push_of_some _ (Heap.get?_push_of_some _ (Heap.get?_push_of_some _ e))
            have hk3 : ∀ b o, g₂.get? b = some o → h₅.get? b = some o := fun b o e => hk5 b o (by
              intro hm'
              have e2 : @LT.lt Nat _ b g₂.objs.size := Heap.lt_size e
              have e3 : @Eq Nat b (g₂.objs.size + 1 + 1) := (List.mem_singleton.mp hm').trans (by show (Heap.push (Heap.push _ _) _).objs.size = _; rw [Heap.size_push, Heap.size_push])
              omega) (up3 _ _ _ b o e)
            have hL2 : ∃ o, g₂.get? L' = some o := by obtain ⟨o, _, _, ho, _⟩ := F2.ns; exact ⟨o, ho⟩
            have hCg : ∀ b o, g₂.get? b = some o → b ≠ C := fun b o e h => by subst h; have e1 := hC0.symm.trans (up3 _ _ _ b o e); cases e1
            have hDg : ∀ b o, g₂.get? b = some o → b ≠ D' := fun b o e h => by subst h; have e1 := hD0.symm.trans (up3 _ _ _ b o e); cases e1
            clear hk5 hC0 hD0 up3
            obtain ⟨oL, hoL⟩ := hL2
            have hLC : L' ≠ C := hCg _ _ hoL
            have hLD : L' ≠ D' := hDg _ _ hoL
            have F5 : Fr s.heap L' h₅ u := F2.keeps hk3
            show wpAny _ _ (assign (.Name _ _) _ (.ref D')) _ _ _
            refine wpAny_assign_Name (wpAny_storeName_local rfl F5.ns (fun h₆ hn₆ hs₆ => ?_) rfl)
            refine ⟨m₅, hn5.sameBut hs₆ (Ne.symm hLC), fun h₇ hs₇ => ?_⟩
            obtain ⟨n', hn'⟩ := ha
            have hk7 : ∀ b o, b ≠ L' → b ≠ C → h₅.get? b = some o → h₇.get? b = some o := fun b o h1 h2 e => hs₇.extBut b o h2 (hs₆.extBut b o h1 e)
            have hkg : ∀ b o, b ≠ L' → g₂.get? b = some o → h₇.get? b = some o := fun b o h1 e => hk7 b o h1 (hCg b o e) (hk3 b o e)
            obtain ⟨oc, hoc, hocd⟩ := hc₂
            refine execs_nil' (execs_nil' ⟨p.cps.size + 1 - (i + 1), by omega, i + 1, hlt, rfl, (WS (aTop dp un gd outer) rfl).frame _ _ _ hst₂ fun b hb o e => hkg b o (by rw [List.mem_singleton.mp hb]; exact (Nat.ne_of_lt hLs).symm) e,
              h₇, _, D', n', _, _, o1, oc, _, t1, t2, rfl, ⟨hn₆.sameBut hs₇ hLC, fun b o e => hkg b o (Nat.ne_of_lt (Nat.lt_of_lt_of_le (Heap.lt_size e) F.above)) (F2.keep b o e), F.above⟩, rfl, ?_, hk7 _ _ (Ne.symm hLD) hDC hn', ?_, ?_, ?_, ?_, hkg _ _ (Nat.ne_of_gt (Nat.lt_succ_self _)) ho12, hot, hkg _ _ (Nat.ne_of_gt (by omega)) hoc, hocd⟩)
            · exact hu2
            · cases e : s.heap.get? D' with
              | none => rfl
              | some o => exact absurd rfl (hDg _ _ (F2.keep _ _ e))
            · exact Ne.symm hLD
            · rw [tk_take hc]
              exact star_ints hI hE
            · rintro rfl
              obtain ⟨o, ho⟩ := hStI _ _ hst₂
              exact absurd rfl (hDg _ _ ho)
          · exact fun D l h ⟨n, e⟩ => ⟨_, e⟩
        · rename _ = false => hc42
          refine Stop.mk ?_
          refine wpAny_Assign_ListComp_free (cl := [("text", L' + 1), ("sign", L' + 2)]) (fun v => match v with | .int q _ => t.cps[q.toNat]? == some c | _ => false) (fun v y => ∃ q t t', v = .int q t ∧ y = .int (q + 1) t')
            (by with_unfolding_all rfl) (by with_unfolding_all rfl) (by decide) (by rfl) (by decide) (by rfl) (by rfl) (by rfl) ?_
          refine nmL F2.ns hu1 ?_
          have hls : g₂.IsList D vs.toArray := ⟨_, hD2, rfl, _, rfl⟩
          have hDlt : D < g₂.objs.size := Heap.lt_size hD2
          have up : ∀ b o, g₂.get? b = some o → (g₂.push { cls := .type "list_iterator", data := .fields #[.ref D, .int 0 0] }).get? b = some o := fun b o e => Heap.get?_push_of_some _ e
          have hIn : ∀ b o, g₂.get? b = some o → b ∉ [g₂.objs.size] := fun b o e hm => by rw [List.mem_singleton.mp hm] at e; exact Nat.lt_irrefl _ (Heap.lt_size e)
          refine wpAny_pyIter_list hls ?_
          refine ⟨_, _, _, _, _, _, u, rfl, Walks.list rfl g₂.objs.size D (Nat.ne_of_lt hDlt) vs.toArray, ?_, ⟨⟨_, Heap.get?_push_size _ rfl, rfl, rfl⟩, hls.push _⟩, ?_, ?_, ?_, ⟨?_, ?_⟩, ?_⟩
          · rw [sizeLine_eq]
            have := IntsAre.length hI
            simp only [List.size_toArray]; simp at this; omega
          · intro b hb
            show b < (g₂.push _).objs.size
            rw [Heap.size_push]
            rcases List.mem_cons.mp hb with rfl | hb
            · exact Nat.lt_succ_self _
            · rw [List.mem_singleton.mp hb]; exact Nat.lt_succ_of_lt hDlt
          · exact fun hm => Nat.lt_irrefl _ ((List.mem_singleton.mp hm) ▸ F2.ns.lt)
          · exact F2.ns.at' fun o e => up _ _ e
          · intro C j v s₃ m₃ E' hC hP hn hm hk htk
            refine wpAny_tests_one ?_
            obtain ⟨q, tq, rfl, hq⟩ := ints_at hI (i := j) (v := v) (by simpa using hP)
            have hk3 : ∀ b o, g₂.get? b = some o → s₃.heap.get? b = some o := fun b o e => hk b o (hIn b o e) (up b o e)
            have F3 : Fr s.heap L' s₃.heap u := F2.keeps hk3
            have htx3 : s₃.heap.IsCell (L' + 1) (some (.str t t2)) := htx.keeps hk3
            have hsg3 : s₃.heap.IsCell (L' + 2) (some (.str ⟨#[c]⟩ uc)) := hc₂.keeps hk3
            clear hk htk hC hst hst₂ WS ret F F2 hk3 up hIn
            walk1
            walk1
            refine nmC htx3 ?_
            walk1
            refine nmL (env := compEnvC _ _ _ _) hn hm ?_
            dsimp only
            walk1
            walk1
            refine nmL (env := compEnvC _ _ _ _) hn hm ?_
            walk1
            walk1
            walk1
            have hsz : t.length ≤ sizeLine := by rw [sizeLine_eq]; omega
            refine slice_ss' (s := { s₃ with toks := s₃.toks + 1 + 1 }) ?_ hsz
            intro h4 t4 k4 K4
            refine nmC (hsg3.keeps K4) ?_
            walk1
            exact wpAny_truthy_bool ⟨slice_one t c (by
              rw [List.getElem?_map] at hq
              obtain ⟨q', -, rfl⟩ := Option.map_eq_some_iff.mp hq
              exact Int.natCast_nonneg q'), _, _, rfl, K4⟩
          · intro C j v s₃ m₃ E' hC hP hpv hn hm hk htk
            obtain ⟨q, tq, rfl, hq⟩ := ints_at hI (i := j) (v := v) (by simpa using hP)
            have hk3 : ∀ b o, g₂.get? b = some o → s₃.heap.get? b = some o := fun b o e => hk b o (hIn b o e) (up b o e)
            have F3 : Fr s.heap L' s₃.heap u := F2.keeps hk3
            clear hk htk hC hst hst₂ WS ret F F2 hk3 up hIn
            walk1
            refine nmL (env := compEnvC _ _ _ _) hn hm ?_
            walk1
            walk1
            exact ⟨⟨_, _, _, rfl, rfl⟩, _, _, rfl, fun _ _ e => e⟩
          · intro D' g₃ tk₃ ys vs' hD' hls' hpl' hlen hP hpair hns hk
            dsimp only at hns hk hD'
            have e1 : vs' = vs := list_of_at (by simpa using hlen) fun j v h => by simpa using hP j v h
            subst e1
            obtain ⟨n', hn'⟩ := hpl'
            have hL2 : g₂.get? L' ≠ none := by obtain ⟨o, _, _, ho, _⟩ := F2.ns; rw [ho]; exact nofun
            have hD'2 : g₂.get? D' = none := by
              cases e : g₂.get? D' with
              | none => rfl
              | some o => have := up _ _ e; rw [hD'] at this; cases this
            have hk3 : ∀ b o, b ≠ L' → g₂.get? b = some o → g₃.get? b = some o := fun b o hb e => hk b o hb (hIn b o e) (up b o e)
            obtain ⟨oc, hoc, hocd⟩ := hc₂
            refine execs_nil' (execs_nil' ⟨p.cps.size + 1 - (i + 1), by omega, i + 1, hlt, rfl, (WS (aTop dp un gd outer) rfl).frame _ _ _ hst₂ fun b hb o e => hk3 b o (by rw [List.mem_singleton.mp hb]; exact (Nat.ne_of_lt hLs).symm) e,
              g₃, _, D', n', ys.toList, _, o1, oc, _, t1, t2, rfl, ⟨hns, fun b o e => hk3 b o (Nat.ne_of_lt (Nat.lt_of_lt_of_le (Heap.lt_size e) F.above)) (F2.keep b o e), F.above⟩, rfl, ?_, by simpa using hn', ?_, ?_, ?_, ?_, hk3 _ _ (Nat.ne_of_gt (Nat.lt_succ_self _)) ho12, hot, hk3 _ _ (Nat.ne_of_gt (by omega)) hoc, hocd⟩)
            · exact hu2
            · cases e : s.heap.get? D' with
              | none => rfl
              | some o => have := F2.keep _ _ e; rw [hD'2] at this; cases this
            · rintro rfl; exact hL2 hD'2
            · rw [tk_take hc, tkStep_letter (by rintro rfl; exact absurd hc42 (by decide))]
              exact tk_ints hI hpair
            · rintro rfl
              obtain ⟨o, ho⟩ := hStI _ _ hst₂
              rw [hD'2] at ho; cases ho
      · have hin : i = p.cps.size := by omega
        subst hin
        refine (WS _ rfl).done _ _ _ hst fun g₁ tk₁ hk₁ => ?_
        dsimp only at hk₁ ⊢
        have hold : ∀ b o, s.heap.get? b = some o → @LT.lt Nat _ b L' := fun b o e => Nat.lt_of_lt_of_le (Heap.lt_size e) F.above
        have hk2 : ∀ b o, b ≠ h'.objs.size → g.get? b = some o → g₁.get? b = some o := fun b o h1 e => hk₁ b o (fun hm => h1 (List.mem_singleton.mp hm)) e
        have F2 : Fr s.heap L' g₁ u := ⟨F.ns.at' fun o e => hk2 _ o (Nat.ne_of_lt hLs) e, fun b o e => hk2 b o (Nat.ne_of_lt (Nat.lt_trans (hold b o e) hLs)) (F.keep b o e), F.above⟩
        have hD2 : g₁.get? D = some { cls := .type "list", data := .seq vs.toArray n } := hk2 _ _ hneD hD
        have htx : g₁.IsCell (L' + 1) (some (.str t t2)) := ⟨o1, hk2 _ _ (Nat.ne_of_lt (Nat.lt_trans (by omega) hcs)) ho1, hot⟩
        have X1 := X.keeps F2.keep
        have T1 := T.keeps F2.keep
        refine execs_nil' ?_
        refine execs_cons' ?_
        refine wpAny_Return_some ?_
        walk1
        walk1
        refine nmB X1 T1 (by k_is) (by boot_by_name) (by decide) ?_
        walk1
        walk1
        refine nmC htx ?_
        walk1
        walk1
        refine nmL F2.ns hu1 ?_
        refine in_list_ints ⟨_, hD2, rfl, _, rfl⟩ hI ?_
        have r := fun tk => ret g₁ tk F2.keep
        rw [show takesB p t = (List.map Int.ofNat (List.foldl (tkStep t) [0] (List.take p.cps.size p.cps.toList))).any (· == (t.length : Int)) by
          unfold takesB
          rw [List.take_of_length_le (by simp), List.any_map]
          congr 1
          funext a
          simp only [Function.comp, Int.ofNat_eq_natCast]
          rw [Bool.eq_iff_iff, beq_iff_eq, beq_iff_eq]; omega] at r
        exact r _
    · exact ⟨_, _, D, n, vs, u, o1, o2, w2, t1, t2, rfl, F.push _, hu1, hu2, Heap.get?_push_of_some _ hD, hD0, hDL, hI, Nat.ne_of_lt (Heap.lt_size hD), Heap.get?_push_of_some _ ho1, hot, Heap.get?_push_of_some _ ho2, hos⟩
end Mine

/- part MPt -/
theorem Mine.offMPt : True := by
  w_top off
  trivial
namespace Mine
open PySem PySem.Spec PySem.Calls PySem.W PyProof.Rows PySem.Builtin PySem.Builtin.Str
set_option maxHeartbeats 1000000
theorem fillPt (w : World) : (hd.heap_39 w.params) = (hd.heap_39 w.params) ∧ PySem.Challenge.rw_mq0154_01.prog = PySem.Challenge.rw_mq0154_01.prog := by k_fill; exact ⟨rfl, rfl⟩
def GoodP (p : Str) : Prop := p.length ≤ 5 ∧ ∀ c ∈ p.cps.toList, c = 97 ∨ c = 98 ∨ c = 42
def PTS (s : Shared) (L' ax : Addr) (k : Nat) (l : List (Str × Tok)) (s' : Shared) : Prop :=
  ∃ h' tk' D n u, s' = { s with heap := h', toks := tk' } ∧ Fr s.heap L' h' u ∧ News s.heap L' h' [(D, { cls := .type "list", data := .seq (strValues l).toArray n })] ∧ u "patterns" = some (.ref D) ∧ u "script" = some (.ref ax) ∧
    Str.ofString "a*a" ∈ l.map (·.1) ∧ 2 ≤ l.length ∧ l.length ≤ 2 + k ∧ ∀ p ∈ l, p.1.length ≤ 3 + k ∧ ∀ c ∈ p.1.cps.toList, c = 97 ∨ c = 98 ∨ c = 42
abbrev PB1 (I0 : Addr) (oI : Obj) (D : Addr) (n : Nat) (l : List (Str × Tok)) (A2 : Addr) (vs : List Value) : List (Addr × Obj) :=
  [(I0, oI), (D, { cls := .type "list", data := .seq (strValues l).toArray n }), (A2, { cls := .type "list", data := .seq (slicePick vs.toArray none (some 2) none) })]
def PB (s : Shared) (L' I0 : Addr) (oI : Obj) (D : Addr) (n : Nat) (l : List (Str × Tok)) (A2 : Addr) (vs : List Value) (P : (Str → Option Value) → Prop) (s' : Shared) : Prop :=
  ∃ h' tk' u, s' = { s with heap := h', toks := tk' } ∧ Fr s.heap L' h' u ∧ News s.heap L' h' (PB1 I0 oI D n l A2 vs) ∧ u "patterns" = some (.ref D) ∧ P u
theorem strsAre_strValues : ∀ l : List (Str × Tok), StrsAre (strValues l) (l.map (·.1))
  | [] => .nil
  | (x, t) :: r => .cons x t (strsAre_strValues r)
theorem item_ab {k : Int} (h0 : 0 ≤ k) (h1 : k < 2) : (Txt.item (Str.ofString "ab") k).length ≤ 1 ∧ ∀ c ∈ (Txt.item (Str.ofString "ab") k).cps.toList, c = 97 ∨ c = 98 ∨ c = 42 := by
  obtain rfl | rfl : k = 0 ∨ k = 1 := by omega
  · decide
  · decide
theorem pat_next {bs ld : Str} {pl m : Int} {k : Nat} (h0 : 0 ≤ pl) (h1 : pl ≤ bs.length) (hm : 0 ≤ m) (hb : bs.length ≤ 3 + k) (hl : ld.length ≤ 1)
    (hs : ∀ c ∈ bs.cps.toList, c = 97 ∨ c = 98 ∨ c = 42) (hs1 : ∀ c ∈ ld.cps.toList, c = 97 ∨ c = 98 ∨ c = 42) :
    (Txt.slice bs none (some pl) ++ ld ++ Txt.slice bs (some (pl + m)) none).length ≤ 3 + (k + 1) ∧ ∀ c ∈ (Txt.slice bs none (some pl) ++ ld ++ Txt.slice bs (some (pl + m)) none).cps.toList, c = 97 ∨ c = 98 ∨ c = 42 := by
  have hbl : bs.cps.toList.length = bs.length := rfl
  have hll : ld.cps.toList.length = ld.length := rfl
  have e1 : (Txt.slice bs none (some pl)).cps.toList = bs.cps.toList.take pl.toNat := by
    have := eq_of_beq (slice_closes_to (x := bs) (j := pl) ⟨h0, by rw [hbl]; exact h1⟩)
    rw [this]; simp
  have e2 : (Txt.slice bs (some (pl + m)) none).cps.toList = bs.cps.toList.drop (pl + m).toNat := by
    by_cases h : pl + m ≤ bs.length
    · rw [slice_from_eq (x := bs) (i := pl + m) (by omega) h rfl]
      simp only
      rw [List.take_of_length_le (by rw [List.length_drop]; omega)]
    · rw [slice_beyond (x := bs) (i := pl + m) (by omega), List.drop_of_length_le (by omega)]
      rfl
  have e : (Txt.slice bs none (some pl) ++ ld ++ Txt.slice bs (some (pl + m)) none).cps.toList = bs.cps.toList.take pl.toNat ++ ld.cps.toList ++ bs.cps.toList.drop (pl + m).toNat := by
    rw [← e1, ← e2]
    show (_ ++ _ ++ _ : Array Nat).toList = _
    simp
  constructor
  · show (Txt.slice bs none (some pl) ++ ld ++ Txt.slice bs (some (pl + m)) none).cps.toList.length ≤ _
    rw [e]
    simp only [List.length_append, List.length_take, List.length_drop]
    omega
  · intro c hc
    rw [e] at hc
    simp only [List.mem_append] at hc
    rcases hc with (hc | hc) | hc
    · exact hs c (List.mem_of_mem_take hc)
    · exact hs1 c hc
    · exact hs c (List.mem_of_mem_drop hc)
theorem pats_spec {w : World} {mean : ExcName → Option Value} {mg mb : Str → Option Value} {dp un : Nat} {gd : Option (List Code)} {outer : List Env} {s : Shared} {Q E : Value → Shared → Prop}
    (X : (hd.heap_39 w.params).In s.heap) (T : Top hd.view_39 (looseW hd.view_39 []) mean mg mb s.heap)
    (hdp : dp < recursionLimit) (ax : Addr) (vs : List Value) (ns : List Int) (hax : s.heap.IsList ax vs.toArray) (hI : IntsAre vs ns) (hnl : ns.length ≤ 63)
    (ret : ∀ h' tk' D ys ps, s.heap.StaysIn h' → s.heap.get? D = none → h'.PlainList D ys → StrsAre ys.toList ps → Str.ofString "a*a" ∈ ps → ps.length ≤ 4 → (∀ p ∈ ps, GoodP p) → Q (.ref D) { s with heap := h', toks := tk' }) :
    wpAny (model PySem.Challenge.rw_mq0154_01.row.prog w) (aTop dp un gd outer) (call (.ref 35) [.ref ax]) Q E s := by
  refine wpAny_call ?_
  k_dflt (refine' enterP X T ?k6 ?k7 ?k8 ?k9 ?kB ?_ ?c2 ?c3 ?c4 ?c5; (case k6 => k_is); (case k7 => k_is); (case k8 => exact hdp); (case k9 => exact BindsTo.of_eq rfl); (case c5 => decide); (case kB => exact locs rfl); (case c2 => exact rfl); (case c3 => exact rfl); (case c4 => exact rfl))
  intro L' h' F' N'
  (try dsimp only); (try k_fold)
  obtain ⟨u, F, hu1⟩ : ∃ u, Fr s.heap L' h' u ∧ u "script" = some (.ref ax) := ⟨_, F', rfl⟩
  clear F'
  refine execs_cut 1 (fun s' => Hold (∃ l, PTS s L' ax 0 l s')) ?_ ?_
  · simp only [List.take]
    k_steps
    rename Fr _ _ _ _ => F2
    rename News _ _ _ _ => N2
    refine Hold.mk ⟨[("a*a", _), ("*a", _)], _, _, _, _, _, rfl, F2, N2, rfl, hu1, .head _, Nat.le_refl 2, Nat.le_refl 2, ?_⟩
    intro p hp
    simp only [List.mem_cons, List.not_mem_nil, or_false] at hp
    rcases hp with rfl | rfl
    · exact ⟨show (Str.ofString "a*a").length ≤ 3 by decide, show ∀ c ∈ (Str.ofString "a*a").cps.toList, c = 97 ∨ c = 98 ∨ c = 42 by decide⟩
    · exact ⟨show (Str.ofString "*a").length ≤ 3 by decide, show ∀ c ∈ (Str.ofString "*a").cps.toList, c = 97 ∨ c = 98 ∨ c = 42 by decide⟩
  · clear F N' hu1 u h'
    rintro s' ⟨l, h', tk', D, n, u, rfl, F, N, hu1, hu2, hAin, hl2, hl3, hgood⟩
    simp only [List.drop]
    have hax' : h'.IsList ax vs.toArray := hax.at fun o e => F.keep _ _ e
    have hsz : vs.toArray.size ≤ sizeLine := by rw [sizeLine_eq]; have := IntsAre.length hI; simp only [List.size_toArray]; omega
    refine execs_cons' ?_
    refine For_invV s.heap rfl rfl ?_
    walk1
    refine nmL F.ns hu2 ?_
    walk1
    walk1
    walk1
    walk1
    walk1
    refine slice_list (s := { s with heap := h', toks := tk' + 1 }) F N hax' .none (.int 2 _) ?_ (hsz := hsz)
    intro h₂ F2 N2
    refine wpAny_pyIter_list (News.isList N2 (.head _)) ?_
    obtain ⟨h₀size, hh0⟩ : ∃ x : Nat, x = h'.objs.size + 1 := ⟨_, rfl⟩
    have up : ∀ (a : Obj) b o, h₂.get? b = some o → (h₂.push a).get? b = some o := fun a b o e => Heap.get?_push_of_some _ e
    refine loopW (m₀ := u) (xs₀ := [(D, { cls := .type "list", data := .seq (strValues l).toArray n })]) (news := [(h'.objs.size + 1, { cls := .type "list", data := .seq (slicePick vs.toArray none (some 2) none) })])
      (fun i m xs => ∃ D n l, xs = [(D, { cls := .type "list", data := .seq (strValues l).toArray n })] ∧ m "patterns" = some (.ref D) ∧ D ≠ h'.objs.size + 1 ∧ Str.ofString "a*a" ∈ l.map (·.1) ∧ 2 ≤ l.length ∧ l.length ≤ 2 + i ∧ ∀ p ∈ l, p.1.length ≤ 3 + i ∧ ∀ c ∈ p.1.cps.toList, c = 97 ∨ c = 98 ∨ c = 42)
      (Walks.list rfl _ (h'.objs.size + 1) ?_ (slicePick vs.toArray none (some 2) none)) ?_ ?_ ?_ ?_ ?_ ?_ ?_ ?_ ?_ ?_ ?_ ?_
    · exact Nat.ne_of_lt (Heap.lt_size (N2 _ (.head _)).1)
    · intro hm'
      rcases List.mem_cons.mp hm' with e | hm'
      · exact absurd F2.ns.lt (e ▸ Nat.lt_irrefl _)
      · exact (N2 _ (.head _)).2.1 (List.mem_singleton.mp hm').symm
    · exact next_is_new F2
    · intro p hp
      rw [List.mem_singleton.mp hp]
      exact Nat.ne_of_lt (Heap.lt_size (N2 _ (.tail _ (.head _))).1)
    · intro p hp
      rw [List.mem_singleton.mp hp]
      exact Nat.ne_of_lt (Heap.lt_size (N2 _ (.head _)).1)
    · intro b hb
      rcases List.mem_cons.mp hb with e | hb
      · exact .inl e
      · rw [List.mem_singleton.mp hb]; exact .inr (.inr ⟨_, .head _⟩)
    · intro i h st
      obtain ⟨o, e, _⟩ := st.1
      exact ⟨o, e⟩
    · exact ⟨⟨_, Heap.get?_push_size _ rfl, rfl, rfl⟩, (News.isList N2 (.head _)).push _⟩
    · exact F2.keeps (up _)
    · intro p hp
      simp only [List.cons_append, List.nil_append, List.mem_cons, List.not_mem_nil, or_false] at hp
      rcases hp with rfl | rfl
      · exact ⟨up _ _ _ (N2 _ (.tail _ (.head _))).1, (N2 _ (.tail _ (.head _))).2⟩
      · exact ⟨up _ _ _ (N2 _ (.head _)).1, (N2 _ (.head _)).2⟩
    · exact ⟨D, n, l, rfl, hu1, Nat.ne_of_lt (Nat.lt_succ_of_lt (Heap.lt_size (N _ (.head _)).1)), hAin, hl2, hl3, hgood⟩
    · clear F N F2 N2 up hu1 hu2 hAin hl2 hl3 hgood l D n hax' u
      rintro i v m₁ xs h tk oI hi hP ⟨D, n, l, rfl, hu1, hDA, hAin, hl2, hl3, hgood⟩ F N hxI
      have hDI : D ≠ h₂.objs.size := hxI _ (.head _)
      rw [← hh0] at hDA
      rw [show slicePick vs.toArray none (some 2) none = (vs.toArray.toList.take 2).toArray from slicePick_upto' vs.toArray 2] at hP hi
      have hi2 : i < 2 := by simp at hi; omega
      obtain ⟨q, tq, rfl⟩ : ∃ q tq, v = .int q tq := by
        obtain ⟨q, tq, e, -⟩ := ints_at hI (i := i) (v := v) (by
          have h1 : ((vs.toArray.toList.take 2).toArray)[i]? = some v := hP
          rw [List.getElem?_toArray, List.getElem?_take, if_pos hi2] at h1
          simpa using h1)
        exact ⟨q, tq, e⟩
      have F3 : Fr s.heap L' h (fun y => if y = "cell" then some (Value.int q tq) else m₁ y) := F
      have F4 := Fr_pins F3 [("cell", .int q tq), ("patterns", .ref D)] (by
        simp only [List.mem_cons, List.not_mem_nil, or_false, forall_eq_or_imp, forall_eq]
        exact ⟨rfl, by rw [if_neg (by decide)]; exact hu1⟩)
      dsimp only [pinL] at F4
      have N4 : News s.heap L' h [(h₂.objs.size, oI), (D, { cls := .type "list", data := .seq (strValues l).toArray n }), (h₀size, { cls := .type "list", data := .seq (slicePick vs.toArray none (some 2) none) })] := by rw [hh0]; exact N
      clear F F3 N
      clear hP hi hu1
      refine execs_cut 1 (fun s' => Hold (PB s L' h₂.objs.size oI D n l h₀size vs (fun u => ∃ nm kd t1 t2, u "number" = some (.int nm t1) ∧ u "kind" = some (.int kd t2) ∧ 0 ≤ nm ∧ 0 ≤ kd ∧ kd < 4) s')) ?_ ?_
      · simp only [List.take]
        k_steps
        rename Fr _ _ _ _ => F5
        rename News _ _ _ _ => N5
        refine Hold.mk ⟨_, _, _, rfl, F5, fun p hp => N5 p (.tail _ hp), rfl, _, _, _, _, rfl, rfl, ?_, ?_, ?_⟩
        · exact Int.fdiv_nonneg (Int.fmod_nonneg_of_pos _ (by decide)) (by decide)
        · exact Int.fmod_nonneg_of_pos _ (by decide)
        · exact Int.fmod_lt_of_pos _ (by decide)
      · clear F4 N4
        rintro s' ⟨h, tk, u, rfl, F, N, hu1, nm, kd, t1, t2, hnm, hkd, hn0, hk0, hk4⟩
        simp only [List.drop]
        have F4 := Fr_pins F [("patterns", .ref D), ("number", .int nm t1), ("kind", .int kd t2)] (by simp [hu1, hnm, hkd])
        dsimp only [pinL] at F4
        have N4 : News s.heap L' h [(h₂.objs.size, oI), (D, { cls := .type "list", data := .seq (strValues l).toArray n }), (h₀size, { cls := .type "list", data := .seq (slicePick vs.toArray none (some 2) none) })] := N
        clear F N
        refine execs_cut 1 (fun s' => Hold (PB s L' h₂.objs.size oI D n l h₀size vs (fun u => ∃ nm kd wh t1 t2 t3, u "number" = some (.int nm t1) ∧ u "kind" = some (.int kd t2) ∧ u "which" = some (.int wh t3) ∧ 0 ≤ nm ∧ 0 ≤ kd ∧ kd < 4 ∧ 0 ≤ wh ∧ wh < l.length) s')) ?_ ?_
        · simp only [List.take]
          k_steps
          refine PyProof.Rows.len_list (News.isList N4 (.tail _ (.head _))) (by simp [strValues]; omega) ?_
          have hlen : ((strValues l).toArray.size : Int) = l.length := by simp [strValues]
          rw [hlen]
          have hpos : (0 : Int) < l.length := by omega
          k_steps
          rename Fr _ _ _ _ => F5
          rename News _ _ _ _ => N5
          refine Hold.mk ⟨_, _, _, rfl, F5, fun p hp => N5 p (.tail _ hp), rfl, _, _, _, _, _, _, rfl, rfl, rfl, ?_, hk0, hk4, ?_, ?_⟩
          · exact Int.fdiv_nonneg hn0 (by omega)
          · exact Int.fmod_nonneg_of_pos _ hpos
          · exact Int.fmod_lt_of_pos _ hpos
        · clear F4 N4 hnm hkd hn0 hk0 hk4 hu1
          rintro s' ⟨h, tk, u, rfl, F, N, hu1, nm, kd, wh, t1, t2, t3, hnm, hkd, hwh, hn0, hk0, hk4, hw0, hwl⟩
          simp only [List.drop]
          have F4 := Fr_pins F [("patterns", .ref D), ("number", .int nm t1), ("kind", .int kd t2), ("which", .int wh t3)] (by simp [hu1, hnm, hkd, hwh])
          dsimp only [pinL] at F4
          have N4 : News s.heap L' h [(h₂.objs.size, oI), (D, { cls := .type "list", data := .seq (strValues l).toArray n }), (h₀size, { cls := .type "list", data := .seq (slicePick vs.toArray none (some 2) none) })] := N
          clear F N
          refine execs_cut 1 (fun s' => Hold (PB s L' h₂.objs.size oI D n l h₀size vs (fun u => ∃ nm kd bs t1 t2 t3, u "number" = some (.int nm t1) ∧ u "kind" = some (.int kd t2) ∧ u "base" = some (.str bs t3) ∧ 0 ≤ nm ∧ 0 ≤ kd ∧ kd < 4 ∧ ∃ p ∈ l, p.1 = bs) s')) ?_ ?_
          · simp only [List.take]
            k_steps
            have hlt : wh.toNat < l.length := by omega
            refine item_inX (News.isList N4 (.tail _ (.head _))) hw0 (by omega) (x := .str l[wh.toNat].1 l[wh.toNat].2) (by simp [strValues, hlt]) ?_
            k_steps
            rename Fr _ _ _ _ => F5
            rename News _ _ _ _ => N5
            exact Hold.mk ⟨_, _, _, rfl, F5, N5, rfl, _, _, _, _, _, _, rfl, rfl, rfl, hn0, hk0, hk4, _, List.getElem_mem hlt, rfl⟩
          · clear F4 N4 hnm hkd hwh hn0 hk0 hk4 hw0 hwl hu1
            rintro s' ⟨h, tk, u, rfl, F, N, hu1, nm, kd, bs, t1, t2, t3, hnm, hkd, hbs, hn0, hk0, hk4, p, hpl, rfl⟩
            obtain ⟨hlen, hsig⟩ := hgood p hpl
            generalize p.1 = bs at *
            simp only [List.drop]
            have F4 := Fr_pins F [("patterns", .ref D), ("number", .int nm t1), ("kind", .int kd t2), ("base", .str bs t3)] (by simp [hu1, hnm, hkd, hbs])
            dsimp only [pinL] at F4
            have N4 : News s.heap L' h [(h₂.objs.size, oI), (D, { cls := .type "list", data := .seq (strValues l).toArray n }), (h₀size, { cls := .type "list", data := .seq (slicePick vs.toArray none (some 2) none) })] := N
            clear F N
            refine execs_cut 1 (fun s' => Hold (PB s L' h₂.objs.size oI D n l h₀size vs (fun u => ∃ nm kd pl t1 t2 t3 t4, u "number" = some (.int nm t1) ∧ u "kind" = some (.int kd t2) ∧ u "base" = some (.str bs t3) ∧ u "place" = some (.int pl t4) ∧ 0 ≤ nm ∧ 0 ≤ kd ∧ kd < 4 ∧ 0 ≤ pl ∧ pl ≤ bs.length) s')) ?_ ?_
            · simp only [List.take]
              k_steps
              rename Fr _ _ _ _ => F5
              rename News _ _ _ _ => N5
              have hb0 : (0 : Int) < (bs.length : Int) + 1 := by omega
              refine Hold.mk ⟨_, _, _, rfl, F5, fun p hp => N5 p (.tail _ hp), rfl, _, _, _, _, _, _, _, rfl, rfl, rfl, rfl, ?_, hk0, hk4, ?_, ?_⟩
              · exact Int.fdiv_nonneg hn0 (by omega)
              · exact Int.fmod_nonneg_of_pos _ hb0
              · have := Int.fmod_lt_of_pos nm hb0
                omega
            · clear F4 N4 hnm hkd hbs hn0 hk0 hk4 hu1
              rintro s' ⟨h, tk, u, rfl, F, N, hu1, nm, kd, pl, t1, t2, t3, t4, hnm, hkd, hbs, hpl, hn0, hk0, hk4, hp0, hp1⟩
              simp only [List.drop]
              have F4 := Fr_pins F [("patterns", .ref D), ("number", .int nm t1), ("kind", .int kd t2), ("base", .str bs t3), ("place", .int pl t4)] (by simp [hu1, hnm, hkd, hbs, hpl])
              dsimp only [pinL] at F4
              have N4 : News s.heap L' h [(h₂.objs.size, oI), (D, { cls := .type "list", data := .seq (strValues l).toArray n }), (h₀size, { cls := .type "list", data := .seq (slicePick vs.toArray none (some 2) none) })] := N
              clear F N
              refine execs_cut 1 (fun s' => Hold (PB s L' h₂.objs.size oI D n l h₀size vs (fun u => ∃ kd ld pl t1 t2 t3 t4, u "kind" = some (.int kd t2) ∧ u "laid" = some (.str ld t1) ∧ u "base" = some (.str bs t3) ∧ u "place" = some (.int pl t4) ∧ 0 ≤ kd ∧ kd < 4 ∧ 0 ≤ pl ∧ pl ≤ bs.length ∧ ld.length ≤ 1 ∧ ∀ c ∈ ld.cps.toList, c = 97 ∨ c = 98 ∨ c = 42) s')) ?_ ?_
              · simp only [List.take]
                k_steps
                all_goals
                  rename Fr _ _ _ _ => F5
                  rename News _ _ _ _ => N5
                  refine Hold.mk ⟨_, _, _, rfl, F5, fun p hp => N5 p (.tail _ hp), rfl, _, _, _, _, _, _, _, rfl, rfl, rfl, rfl, hk0, hk4, hp0, hp1, ?_⟩
                · exact ⟨show (Str.ofString "*").length ≤ 1 by decide, show ∀ c ∈ (Str.ofString "*").cps.toList, c = 97 ∨ c = 98 ∨ c = 42 by decide⟩
                · exact ⟨show (Str.ofString "*").length ≤ 1 by decide, show ∀ c ∈ (Str.ofString "*").cps.toList, c = 97 ∨ c = 98 ∨ c = 42 by decide⟩
                · exact item_ab (Int.fmod_nonneg_of_pos _ (by decide)) (Int.fmod_lt_of_pos _ (by decide))
                · exact ⟨show (Str.ofString "").length ≤ 1 by decide, show ∀ c ∈ (Str.ofString "").cps.toList, c = 97 ∨ c = 98 ∨ c = 42 by decide⟩
              · clear F4 N4 hnm hkd hbs hpl hn0 hk0 hk4 hp0 hp1 hu1
                rintro s' ⟨h, tk, u, rfl, F, N, hu1, kd, ld, pl, t1, t2, t3, t4, hkd, hld, hbs, hpl, hk0, hk4, hp0, hp1, hlen1, hsig1⟩
                simp only [List.drop]
                have F4 := Fr_pins F [("patterns", .ref D), ("kind", .int kd t2), ("laid", .str ld t1), ("base", .str bs t3), ("place", .int pl t4)] (by simp [hu1, hkd, hld, hbs, hpl])
                dsimp only [pinL] at F4
                have N4 : News s.heap L' h [(h₂.objs.size, oI), (D, { cls := .type "list", data := .seq (strValues l).toArray n }), (h₀size, { cls := .type "list", data := .seq (slicePick vs.toArray none (some 2) none) })] := N
                clear F N
                k_steps
                rename Fr _ _ _ _ => F5
                rename News _ _ _ _ => N5
                rename_i t5 k5 a5
                generalize hnew : (Txt.slice bs none (some pl) ++ ld ++ Txt.slice bs (some (pl + kd.fmod 2)) none) = new
                have hnw := pat_next (m := kd.fmod 2) hp0 hp1 (Int.fmod_nonneg_of_pos _ (by decide)) hlen hlen1 hsig hsig1
                rw [hnew] at hnw
                refine append_in (own := [(h₂.objs.size, oI)]) (rest := [(h₀size, { cls := .type "list", data := .seq (slicePick vs.toArray none (some 2) none) })]) F5 N5 ?_ ?_ (fun h6 F6 N6 => ?_) (by simp [strValues, sizeLine_eq]; omega)
                · intro p hp; rw [List.mem_singleton.mp hp]; exact Ne.symm hDI
                · intro p hp; rw [List.mem_singleton.mp hp]; exact Ne.symm hDA
                · k_steps
                  refine Hold.mk ⟨h6, _, _, [(D, { cls := .type "list", data := .seq (strValues (l ++ [(new, t5)])).toArray (n + 1) })], rfl, F6, ?_, ?_, D, n + 1, l ++ [(new, t5)], rfl, rfl, ?_, ?_, ?_, ?_, ?_⟩
                  · rw [hh0] at N6
                    have e : ∀ t, strValues (l ++ [(new, t)]) = strValues l ++ [Value.str new t] := fun t => by simp [strValues]
                    rw [e]
                    exact N6
                  · intro p hp; rw [List.mem_singleton.mp hp]; exact hDI
                  · rw [← hh0]; exact hDA
                  · rw [List.map_append]; exact List.mem_append_left _ hAin
                  · simp; omega
                  · simp; omega
                  · intro p hp
                    rcases List.mem_append.mp hp with hp | hp
                    · exact ⟨Nat.le_succ_of_le (hgood p hp).1, (hgood p hp).2⟩
                    · rw [List.mem_singleton.mp hp]; exact hnw
    · rintro m₁ xs h tk ⟨D, n, l, rfl, hu1, hDA, hAin, hl2, hl3, hgood⟩ F3 N3
      have F4 := Fr_pins F3 [("patterns", .ref D)] (by simp [hu1])
      dsimp only [pinL] at F4
      k_steps
      have hs2 : (slicePick vs.toArray none (some 2) none).size ≤ 2 := by
        rw [show slicePick vs.toArray none (some 2) none = (vs.toArray.toList.take 2).toArray from slicePick_upto' vs.toArray 2]
        simp; omega
      have hD := N3 _ (.head _)
      refine ret h _ D _ (l.map (·.1)) F3.keep hD.2.2 ⟨n, hD.1⟩ (strsAre_strValues l) hAin ?_ ?_
      · rw [List.length_map]; omega
      · intro p hp
        obtain ⟨p', hp', rfl⟩ := List.mem_map.mp hp
        exact ⟨by have := (hgood p' hp').1; omega, (hgood p' hp').2⟩
end Mine

/- part MCell -/
theorem Mine.offMCell : True := by
  w_top off
  trivial
namespace Mine
open PySem PySem.Spec PySem.Calls PySem.W PyProof.Rows PySem.Builtin PySem.Builtin.Str

theorem Paired.getR {α β : Type} {F : α → β → Prop} : ∀ {a : List α} {b : List β}, Paired F a b → ∀ {j : Nat} {v : α}, a[j]? = some v → ∃ r, b[j]? = some r ∧ F v r
  | _, _, .nil, j, v, h => by simp at h
  | _, _, .cons h1 h2, 0, v, h => by simp at h; subst h; exact ⟨_, rfl, h1⟩
  | _, _, .cons h1 h2, j + 1, v, h => by
    obtain ⟨r, e, hf⟩ := Paired.getR h2 (j := j) (v := v) (by simpa using h)
    exact ⟨r, by simpa using e, hf⟩

section
variable {prog : Program} {w : World} {A : Around} {E : Value → Shared → Prop} {env : Env}

theorem comp_cells {elt iter : Expr} {x y : Str} {px py : Pos} {scope : Scope} {cl : List (Str × Addr)} {pos spos : Pos} {s : Shared} {Q : Flow → Shared → Prop} {lst : Addr} {vs : List Value} {m : Str → Option Value}
    (S : Value → List Value → Prop) (hh : A.handled = none)
    (hsw : swapsWith (.ListComp elt [⟨.Name x px, iter, [], 0⟩] scope pos) (some (.Name y py)) spos.line env = pure true) (hclos : closureFor scope env = pure cl) (hkind : scope.kind = .function)
    (hnames : ∀ z ∈ scope.names, z.2 = .local → scope.names.lookup z.1 = some .local)
    (hc : ∀ n, cellsFrom n scope.names cl = (x, n) :: cl) (hp : ∀ h, pushCells h scope.names = h.push { cls := .type "cell", data := .cell none })
    (hx : ∀ C cl', (compEnvC scope cl' C env).kindOf x = some .cell)
    (hy : env.kindOf y = some .local) (hpe : (env.scope.kind == .class || (env.scope.kind == .module && env.locals != env.globals)) = false)
    (hs : ∀ v, foldedSetIterable iter env v = pure v)
    (heval : ∀ Q' : Value → Shared → Prop, Q' (.ref lst) s → wpAny (model prog w) A (eval iter env) Q' E s)
    (hl : s.heap.IsList lst vs.toArray) (hsz : vs.length ≤ sizeLine) (hns : s.heap.Ns env.locals m)
    (em : ∀ (i : Nat) (v : Value) (C : Addr) (s₃ : Shared) E', vs[i]? = some v → s.heap.StaysIn s₃.heap → s.toks ≤ s₃.toks → s₃.heap.IsCell (C + 1) (some v) →
      wpAny (model prog w) A (eval elt (compEnvC scope ((x, C + 1) :: cl) C env)) (fun r s₄ => ∃ h' tk D ws n, s₄ = { s₃ with heap := h', toks := tk } ∧ s₃.heap.StaysIn h' ∧ r = .ref D ∧ s₃.heap.get? D = none ∧
        h'.get? D = some (lsO ws n) ∧ S v ws) E' s₃)
    (done : ∀ D h' tk n (rs : List (Addr × List Value)), s.heap.get? D = none → Paired (fun v (r : Addr × List Value) => S v r.2) vs rs → h'.get? D = some (lsO (rs.map fun r => .ref r.1) n) →
      (∀ r ∈ rs, s.heap.get? r.1 = none ∧ ∃ k, h'.get? r.1 = some (lsO r.2 k)) → h'.Ns env.locals (fun z => if z = y then some (.ref D) else m z) →
      (∀ b o, b ≠ env.locals → s.heap.get? b = some o → h'.get? b = some o) → s.toks + 1 ≤ tk → Q .next { s with heap := h', toks := tk }) :
    wpAny (model prog w) A (exec (.Assign [.Name y py] (.ListComp elt [⟨.Name x px, iter, [], 0⟩] scope pos) spos) env) Q E s := by
  refine Assign_two (gs := []) hsw hclos hkind hnames ?_ hs rfl
  refine heval _ ?_
  refine wpAny_pyIter_list hl ?_
  refine wpAny_newObj_type ?_
  refine newEnvCell hc hp ?_
  intro h₁ hnsC hcell hst₁
  dsimp only at hnsC hcell hst₁ ⊢
  generalize hH1 : s.heap.push { cls := .type "list_iterator", data := .fields #[.ref lst, .int 0 0] } = H1 at *
  generalize hH2 : H1.push { cls := .type "list", dict := none, data := .seq ([] : List Value).toArray } = H2 at *
  generalize hIt : s.heap.objs.size = It at *
  have eH1 : H1.objs.size = It + 1 := by rw [← hH1, Heap.size_push]; exact congrArg (· + 1) hIt
  have eH2 : H2.objs.size = It + 2 := by rw [← hH2, Heap.size_push]; show H1.objs.size + 1 = It + 2; rw [eH1]
  generalize hD : H1.objs.size = D at *
  generalize hCg : H2.objs.size = C at *
  have eD : @Eq Nat D (It + 1) := eH1
  have eC : @Eq Nat C (It + 2) := eH2
  have old : ∀ b o, s.heap.get? b = some o → H2.get? b = some o := fun b o e => by
    rw [← hH2]; refine Heap.get?_push_of_some _ ?_
    rw [← hH1]; exact Heap.get?_push_of_some _ e
  have ltO : ∀ b o, s.heap.get? b = some o → @LT.lt Nat _ b It := fun b o e => hIt ▸ Heap.lt_size e
  have hitO : H2.get? It = some { cls := .type "list_iterator", data := .fields #[.ref lst, .int 0 0] } := by
    rw [← hH2]; refine Heap.get?_push_of_some _ ?_
    rw [← hH1, ← hIt]; exact Heap.get?_push_size _ rfl
  have hDO : H2.get? D = some (lsO [] 0) := by
    rw [← hH2, ← hD]; exact Heap.get?_push_size _ rfl
  have hlt : @LT.lt Nat _ lst It := by obtain ⟨o, ho, _⟩ := hl; exact ltO _ _ ho
  have W := Walks.list (prog := prog) (w := w) hh It lst (Nat.ne_of_lt hlt) vs.toArray
  have nSz : vs.toArray.size = vs.length := by simp
  have oldIt : s.heap.get? It = none := by rw [← hIt]; exact Heap.get?_none_of_le (Nat.le_refl _)
  have oldD : s.heap.get? D = none := Heap.get?_none_of_le (by show s.heap.objs.size ≤ D; rw [hIt]; exact Nat.le_of_lt (by omega))
  have loop : codeAny (model prog w) A (.compLoop (.ListComp elt [⟨.Name x px, iter, [], 0⟩] scope pos) 0 (.ref It) (.ref D) (compEnvC scope ((x, C + 1) :: cl) C env))
      (compPost (model prog w) A E (some (assign (.Name y py) env)) (fun _ s' => Q .next s') (.ref D) C) { s with heap := h₁ } := by
    refine codeAny_compLoop_tests (fun k s' => ∃ h tk rs, s' = { s with heap := h, toks := tk } ∧ rs.length ≤ vs.length ∧ k = vs.length + 1 - rs.length ∧ (h.IsListIter It lst rs.length ∧ h.IsList lst vs.toArray) ∧
      (∃ n, h.get? D = some (lsO (rs.map fun r : Addr × List Value => .ref r.1) n)) ∧ (∃ mc, h.Ns C mc) ∧ (∃ v0, h.IsCell (C + 1) v0) ∧ Paired (fun v (r : Addr × List Value) => S v r.2) (vs.take rs.length) rs ∧
      (∀ r ∈ rs, s.heap.get? r.1 = none ∧ r.1 ≠ It ∧ r.1 ≠ D ∧ r.1 ≠ C ∧ r.1 ≠ C + 1 ∧ ∃ k, h.get? r.1 = some (lsO r.2 k)) ∧ s.heap.StaysIn h ∧ s.toks ≤ tk) ?_ (vs.length + 1) ?_
    · rintro k s' ⟨h, tk, rs, rfl, hle, rfl, hst, ⟨nD, hDl⟩, ⟨mc, hmc⟩, ⟨v0, hv0⟩, hpair, hrs, hstay, htk⟩
      by_cases hlt2 : rs.length < vs.length
      · refine wpAny_with_toks (n := s.toks) htk (W.item rs.length _ _ _ (by rw [nSz]; exact hlt2) hst fun v h₂ tk₂ hv hst₂ hk₂ htk₂ => ?_)
        dsimp only at hk₂ htk₂ ⊢
        have hk₂' : ∀ b o, b ≠ It → h.get? b = some o → h₂.get? b = some o := fun b o hb e => hk₂ b o (fun hm => hb (List.mem_singleton.mp hm)) e
        have hcellN : C + 1 ≠ It := by intro e; have e' : @Eq Nat (C + 1) It := e; omega
        obtain ⟨oc, hoc, hocd⟩ := hv0
        refine wpAny_assign_Name (wpAny_storeName_cell (c := C + 1) hkind (hx C _) (by show List.lookup x ((x, C + 1) :: cl) = _; simp [List.lookup]) (v₀ := v0) ⟨oc, hk₂' _ _ hcellN hoc, hocd⟩ fun h₃ hc₃ hs₃ => ?_)
        dsimp only at hs₃ ⊢
        have hk₃ : ∀ b o, b ≠ It → b ≠ C + 1 → h.get? b = some o → h₃.get? b = some o := fun b o h1 h2 e => hs₃.extBut b o h2 (hk₂' b o h1 e)
        have hstay₃ : s.heap.StaysIn h₃ := fun b o e => hk₃ b o (Nat.ne_of_lt (ltO b o e)) (by have := ltO b o e; intro q; have q' : @Eq Nat b (C + 1) := q; omega) (hstay b o e)
        simp only [List.forIn_nil]
        refine wpAny_pure ?_
        simp only [if_true]
        have hv' : vs[rs.length]? = some v := by simpa using hv
        refine wpAny_mono (wpAny_toks_of (n := s.toks) htk₂ (em rs.length v C _ _ hv' hstay₃ htk₂ hc₃)) (fun r s₄ h₄ => ?_) fun _ _ e => e.2
        obtain ⟨htk₄, h', tk₄, D', ws, n', rfl, hst₄, rfl, hD'0, hD'1, hS⟩ := h₄
        dsimp only at htk₄ hst₄ hD'0 ⊢
        have hDIt : D ≠ It := by intro e; have e' : @Eq Nat D It := e; omega
        have hDC1 : D ≠ C + 1 := by intro e; have e' : @Eq Nat D (C + 1) := e; omega
        have hDC : D ≠ C := by intro e; have e' : @Eq Nat D C := e; omega
        have hD3 := hk₃ _ _ hDIt hDC1 hDl
        have hDD' : D' ≠ D := by rintro rfl; rw [hD3] at hD'0; cases hD'0
        have hsz2 : (rs.map fun r : Addr × List Value => Value.ref r.1).toArray.size ≤ sizeLine := by simp only [List.size_toArray, List.length_map]; omega
        refine wpAny_list_append_plain (hsz := hsz2) ⟨nD, hst₄ _ _ hD3⟩ fun h₅ ⟨n5, hl₅⟩ hs₅ => ?_
        have hitE : ∃ o, h₃.get? It = some o := by obtain ⟨o, ho, _⟩ := hst₂.1; exact ⟨o, hs₃.extBut _ _ (Ne.symm hcellN) ho⟩
        have hCE : ∃ o, h₃.get? C = some o := by
          obtain ⟨o, _, _, ho, _⟩ := hmc
          exact ⟨o, hk₃ _ _ (by intro e; have e' : @Eq Nat C It := e; omega) (by intro e; have e' : @Eq Nat C (C + 1) := e; omega) ho⟩
        have hkk : ∀ b o, b ≠ D → h₃.get? b = some o → h₅.get? b = some o := fun b o hb e => hs₅.extBut b o hb (hst₄ b o e)
        refine ⟨vs.length + 1 - (rs.length + 1), by omega, h₅, tk₄, rs ++ [(D', ws)], rfl, by simp; omega, by simp, ?_, ⟨n5, ?_⟩, ⟨mc, ?_⟩, ⟨some v, ?_⟩, ?_, ?_, ?_, htk₄⟩
        · rw [List.length_append, List.length_singleton]
          refine ⟨hst₂.1.at fun o e => hkk _ _ (Ne.symm hDIt) (hs₃.extBut _ _ (Ne.symm hcellN) e), hst₂.2.at fun o e => hkk _ _ (by intro e; have e' : @Eq Nat lst D := e; omega) (hs₃.extBut _ _ (by intro e; have e' : @Eq Nat lst (C + 1) := e; omega) e)⟩
        · rw [hl₅]; simp
        · exact hmc.at' fun o e => hkk _ _ (Ne.symm hDC) (hk₃ _ _ (by intro e; have e' : @Eq Nat C It := e; omega) (by intro e; have e' : @Eq Nat C (C + 1) := e; omega) e)
        · obtain ⟨o, ho, hd⟩ := hc₃
          exact ⟨o, hkk _ _ (Ne.symm hDC1) ho, hd⟩
        · rw [List.length_append, List.length_singleton, List.take_add_one, hv']
          exact hpair.snoc hS
        · intro r hr
          rcases List.mem_append.mp hr with hr | hr
          · obtain ⟨q0, q1, q2, q3, q4, k, q5⟩ := hrs r hr
            exact ⟨q0, q1, q2, q3, q4, k, hkk _ _ q2 (hk₃ _ _ q1 q4 q5)⟩
          · rw [List.mem_singleton.mp hr]
            refine ⟨?_, ?_, hDD', ?_, ?_, n', ?_⟩
            · cases e : s.heap.get? D' with
              | none => rfl
              | some o => have := hstay₃ _ _ e; rw [hD'0] at this; cases this
            · rintro rfl; obtain ⟨o, ho⟩ := hitE; rw [hD'0] at ho; cases ho
            · rintro rfl; obtain ⟨o, ho⟩ := hCE; rw [hD'0] at ho; cases ho
            · rintro rfl; obtain ⟨o, ho, _⟩ := hc₃; rw [hD'0] at ho; cases ho
            · exact hs₅.extBut _ _ hDD' hD'1
        · exact fun b o e => hkk b o (by rintro rfl; rw [oldD] at e; cases e) (hstay₃ b o e)
      · have hin : rs.length = vs.length := by omega
        refine wpAny_with_toks (n := s.toks) htk (W.done _ _ _ (by rw [nSz, ← hin]; exact hst) fun h₂ tk₂ hk₂ htk₂ => ?_)
        dsimp only at hk₂ htk₂ ⊢
        have hk₂' : ∀ b o, b ≠ It → h.get? b = some o → h₂.get? b = some o := fun b o hb e => hk₂ b o (fun hm => hb (List.mem_singleton.mp hm)) e
        have hstay₂ : s.heap.StaysIn h₂ := fun b o e => hk₂' b o (Nat.ne_of_lt (ltO b o e)) (hstay b o e)
        have hLE : ∃ o, s.heap.get? env.locals = some o := by obtain ⟨o, _, _, ho, _⟩ := hns; exact ⟨o, ho⟩
        have hLlt : @LT.lt Nat _ env.locals It := by obtain ⟨o, ho⟩ := hLE; exact ltO _ _ ho
        have hLC : env.locals ≠ C := by intro e; have e' : @Eq Nat env.locals C := e; omega
        have hLD : env.locals ≠ D := by intro e; have e' : @Eq Nat env.locals D := e; omega
        show wpAny _ A (assign (.Name y py) env (.ref D)) _ _ _
        refine wpAny_assign_Name (wpAny_storeName_local hy (hns.at' fun o e => hstay₂ _ o e) (fun h₃ hn₃ hs₃ => ?_) hpe)
        refine ⟨mc, (hmc.at' fun o e => hk₂' _ _ (by intro e; have e' : @Eq Nat C It := e; omega) e).sameBut hs₃ (Ne.symm hLC), fun h₄ hs₄ => ?_⟩
        have kk : ∀ b o, b ≠ It → b ≠ env.locals → b ≠ C → h.get? b = some o → h₄.get? b = some o := fun b o h1 h2 h3 e => hs₄.extBut b o h3 (hs₃.extBut b o h2 (hk₂' b o h1 e))
        refine done D h₄ _ nD rs oldD ?_ (kk _ _ (by intro e; have e' : @Eq Nat D It := e; omega) (Ne.symm hLD) (by intro e; have e' : @Eq Nat D C := e; omega) hDl) ?_ (hn₃.sameBut hs₄ hLC) ?_ (Nat.succ_le_succ htk₂)
        · rw [hin, List.take_of_length_le (Nat.le_refl _)] at hpair; exact hpair
        · intro r hr
          obtain ⟨q0, q1, q2, q3, q4, k, q5⟩ := hrs r hr
          refine ⟨q0, k, kk _ _ q1 ?_ q3 q5⟩
          rintro q; obtain ⟨o, ho⟩ := hLE; rw [← q, q0] at ho; cases ho
        · exact fun b o hb e => kk b o (Nat.ne_of_lt (ltO b o e)) hb (by have := ltO b o e; intro q; have q' : @Eq Nat b C := q; omega) (hstay b o e)
    · have old1 : ∀ b o, H2.get? b = some o → h₁.get? b = some o := hst₁
      refine ⟨h₁, s.toks, [], rfl, Nat.zero_le _, rfl, ⟨⟨_, old1 _ _ hitO, rfl, rfl⟩, hl.at fun o e => old1 _ _ (old _ _ e)⟩, ⟨0, old1 _ _ hDO⟩, ⟨_, hnsC⟩, ⟨none, hcell⟩, .nil, by intro r hr; simp at hr, fun b o e => old1 _ _ (old _ _ e), Nat.le_refl _⟩
  have hst0 : h₁.IsListIter It lst 0 ∧ h₁.IsList lst vs.toArray := ⟨⟨_, hst₁ _ _ hitO, rfl, rfl⟩, hl.at fun o e => hst₁ _ _ (old _ _ e)⟩
  exact codeAny_compStart_list loop (W.self 0 _ _ _ hst0 loop)
end
end Mine

/- part MSet -/
theorem Mine.offMSet : True := by
  w_top off
  trivial
namespace Mine
open PySem PySem.Spec PySem.Calls PySem.W PyProof.Rows PySem.Builtin

def SetX (prog : Program) (w : World) (h : Heap) (D : Addr) (ks : List Str) : Prop :=
  ∃ o es ep t ks', h.get? D = some o ∧ o.ExactSet ∧ o.data = .set es ep t ∧ ElemsOf (PySem.strKind prog w) es.toList ∧ StrsAre (es.toList.map (·.2)) ks' ∧ ks'.Nodup ∧ (∀ k, k ∈ ks' ↔ k ∈ ks) ∧ ks'.length ≤ ks.length ∧
    es.size < scanBound ∧ t.fits es.size = true ∧ (ks ≠ [] → t.plain = false)

theorem SetX.at {prog : Program} {w : World} {h h' : Heap} {D : Addr} {ks : List Str} (x : SetX prog w h D ks) (e : ∀ o, h.get? D = some o → h'.get? D = some o) : SetX prog w h' D ks :=
  let ⟨o, es, ep, t, ks', ho, r⟩ := x; ⟨o, es, ep, t, ks', e _ ho, r⟩

theorem is_str_iff {prog : Program} {w : World} {k : Str} {v : Value} : (PySem.strKind prog w).is k v = true ↔ ∃ t, v = .str k t := by
  constructor
  · intro h
    exact Value.isStrOf_shape h
  · rintro ⟨t, rfl⟩
    exact strKind_is prog w k t

theorem mem_strs {k : Str} : ∀ {vs : List Value} {ks : List Str}, StrsAre vs ks → (k ∈ ks ↔ ∃ v ∈ vs, ∃ t, v = .str k t)
  | _, _, .nil => by simp
  | _, _, .cons x t r => by
    rw [List.mem_cons, mem_strs r]
    constructor
    · rintro (rfl | ⟨v, hv, t', rfl⟩)
      · exact ⟨_, .head _, _, rfl⟩
      · exact ⟨_, .tail _ hv, _, rfl⟩
    · rintro ⟨v, hv, t', rfl⟩
      rcases List.mem_cons.mp hv with h | h
      · injection h with h1; exact .inl h1
      · exact .inr ⟨_, h, _, rfl⟩

theorem strs_perm {vs vs' : List Value} {ks : List Str} (h : StrsAre vs ks) (p : vs'.Perm vs) : ∃ ks', StrsAre vs' ks' ∧ ks'.Perm ks := by
  have h1 := strsAre_map vs' fun v hv => h.all v (p.mem_iff.mp hv)
  exact ⟨_, h1, by have := p.map PyProof.Rows.strOf; rwa [h.strs] at this⟩

theorem relay_plain (t : SetTable) (es : Array (Int × Value)) (n : Nat) (h : t.plain = false) : (relayAll t es n).2.1.plain = false := by
  unfold relayAll
  split
  · rename_i t' order he
    dsimp only
    split
    · unfold SetTable.relaid SetTable.laid at he
      simp only [Option.bind_eq_bind, Option.bind_eq_some_iff] at he
      obtain ⟨ow, _, hh⟩ := he
      injection hh with hh
      injection hh with h1 h2
      rw [← h1]; exact h
    · rfl
  · rfl

section
variable {prog : Program} {w : World} {A : Around} {E : Value → Shared → Prop} {s : Shared} {D : Addr}

theorem SetX.typeIs {ks : List Str} (x : SetX prog w s.heap D ks) : s.TypeIs (.ref D) "set" := let ⟨o, _, _, _, _, ho, hex, _⟩ := x; ⟨o, ho, hex.1⟩

theorem add_tail {g : Bool → Sem Unit} (hg : ∀ (b : Bool) (s₁ : Shared) (Q' : Unit → Shared → Prop), Q' () s₁ → wpAny (model prog w) A (g b) Q' E s₁) {o : Obj} {es : Array (Int × Value)} {ep : Nat} {t : SetTable}
    (ho : s.heap.get? D = some o) (hex : o.ExactSet) (hd : o.data = .set es ep t) {es1 : Array (Int × Value)} {t2 : SetTable} {ks ks1 : List Str}
    (hel : ElemsOf (PySem.strKind prog w) es1.toList) (hst : StrsAre (es1.toList.map (·.2)) ks1) (hnd : ks1.Nodup) (hmem : ∀ k, k ∈ ks1 ↔ k ∈ ks) (hle : ks1.length ≤ ks.length) (hb : es1.size < scanBound) (hf : t2.fits es1.size = true)
    (hpl : t2.plain = false) {wasDummy : Bool} {R : Option Bool → Shared → Prop} (h : ∀ h', Heap.SameBut D s.heap h' → SetX prog w h' D ks → R (some true) { s with heap := h' }) :
    wpAny (model prog w) A (do
        storeSet D es1 t2
        if (!wasDummy && t2.tooFull) = true then do
            g (relayAll t2 es1 (SetTable.grown es1.size)).2.2
            storeSet D (relayAll t2 es1 (SetTable.grown es1.size)).1 (relayAll t2 es1 (SetTable.grown es1.size)).2.1
            pure (some true)
          else pure (some true)) R E s := by
  have stored : ∀ {h : Heap} {o : Obj} {es : Array (Int × Value)} {ep : Nat} {t : SetTable} (es' : Array (Int × Value)) (t' : SetTable), h.get? D = some o → o.data = .set es ep t →
      (h.update D (Obj.putSet es' t')).get? D = some { o with data := .set es' (ep + 1) t' } := fun es' t' ho hd => by
    have := Heap.get?_update_self (Obj.putSet es' t') ho (by rw [putSet_of es' t' hd]; rfl)
    rw [putSet_of es' t' hd] at this; exact this
  refine wpAny_bind (wpAny_storeSet_of ho hd ?_ (fits_of_scanBound hb))
  have hs1 := Heap.SameBut.update s.heap D (Obj.putSet es1 t2)
  have ho1 := stored es1 t2 ho hd
  split
  · have hp := relayAll_perm t2 es1 (SetTable.grown es1.size)
    have hfr := relayAll_fits t2 es1 (SetTable.grown es1.size)
    have hpp := relay_plain t2 es1 (SetTable.grown es1.size) hpl
    have hsz : (relayAll t2 es1 (SetTable.grown es1.size)).1.size = es1.size := by rw [← Array.length_toList, hp.length_eq, Array.length_toList]
    refine wpAny_bind (hg _ _ _ ?_)
    refine wpAny_bind (wpAny_storeSet_of ho1 rfl ?_ (fits_of_scanBound (by rw [hsz]; exact hb)))
    have ho2 := stored (relayAll t2 es1 (SetTable.grown es1.size)).1 (relayAll t2 es1 (SetTable.grown es1.size)).2.1 ho1 rfl
    obtain ⟨ks2, hst2, hp2⟩ := strs_perm hst (hp.map (·.2))
    refine wpAny_pure (h _ (hs1.trans (Heap.SameBut.update _ D _)) ⟨_, _, _, _, ks2, ho2, hex, rfl, hel.perm hp, hst2, hp2.nodup_iff.mpr hnd, fun k => (hp2.mem_iff).trans (hmem k), by rw [hp2.length_eq]; exact hle, by rw [hsz]; exact hb, hfr, fun _ => hpp⟩)
  · exact wpAny_pure (h _ hs1 ⟨_, _, _, _, ks1, ho1, hex, rfl, hel, hst, hnd, hmem, hle, hb, hf, fun _ => hpl⟩)

theorem set_add_hashed {x : Str} {tx : Tok} {ks : List Str} {Q : Bool → Shared → Prop} (hS : SetX prog w s.heap D ks) (hroom : ks.length + 1 < 4096)
    (h : ∀ b h', Heap.SameBut D s.heap h' → SetX prog w h' D (ks ++ [x]) → Q b { s with heap := h' }) :
    wpAny (model prog w) A (setAddHashed D (.str x tx) ((PySem.strKind prog w).hash x)) Q E s := by
  obtain ⟨o, es, ep, t, ks', ho, hex, hd, hel, hst, hnd, hmem, hle, hb, hf, hpl⟩ := hS
  have hkey : (PySem.strKind prog w).is x (.str x tx) = true := strKind_is prog w x tx
  have hsc : (Value.str x tx).scannable = true := rfl
  have hlen : es.size = ks'.length := by have := StrsAre.size hst; rw [List.length_map, Array.length_toList] at this; exact this
  unfold setAddHashed setAddHashedIn
  refine wpAny_holding (wpAny_bind (wpAny_setState_of ho hd hf ?_))
  try dsimp only
  rw [byScan_of hsc hb hel]
  simp only [↓reduceIte]
  unfold setAddByScan
  refine wpAny_bind ?_
  refine wpAny_bind (wpAny_rule ?_)
  refine wpAny_bind (wpAny_setScan_of hkey ho hd hf hel ?_)
  cases hr : List.findIdx? (fun e => (PySem.strKind prog w).is x e.2) es.toList with
  | some j =>
    dsimp only
    obtain ⟨hj, hpj, _⟩ := List.findIdx?_eq_some_iff_getElem.mp hr
    have hx : x ∈ ks' := (mem_strs hst).mpr (by
      obtain ⟨t', e⟩ := is_str_iff.mp hpj
      exact ⟨_, List.mem_map_of_mem (List.getElem_mem hj), t', e⟩)
    have hx2 : x ∈ ks := (hmem x).mp hx
    refine wpAny_pure (wpAny_pure ?_)
    have e : s = { s with heap := s.heap } := by cases s; rfl
    rw [e]
    refine h _ s.heap (Heap.SameBut.refl D s.heap) ⟨o, es, ep, t, ks', ho, hex, hd, hel, hst, hnd, fun k => ?_, by rw [List.length_append]; omega, hb, hf, fun _ => hpl (List.ne_nil_of_mem hx2)⟩
    rw [List.mem_append, List.mem_singleton, hmem k]
    exact ⟨.inl, fun q => q.elim id (fun e => e ▸ hx2)⟩
  | none =>
    dsimp only
    have hx : x ∉ ks' := fun hm => by
      obtain ⟨v, hv, t', rfl⟩ := (mem_strs hst).mp hm
      obtain ⟨e, he, he2⟩ := List.mem_map.mp hv
      have := List.findIdx?_eq_none_iff.mp hr e he
      rw [he2, strKind_is] at this
      exact Bool.noConfusion this
    have hgw : ∀ (b : Bool) {s₁ : Shared} {Q' : Unit → Shared → Prop}, Q' () s₁ → wpAny (model prog w) A (match b with | true => rule "set.scan.the-table-gave-way" | false => pure ()) Q' E s₁ :=
      fun b s₁ Q' hq => by cases b <;> first | exact wpAny_pure hq | exact wpAny_rule hq
    have hperm := layNew_perm t es ((PySem.strKind prog w).hash x) (.str x tx)
    have hfits := layNew_fits t es ((PySem.strKind prog w).hash x) (.str x tx)
    generalize hL : layNew t es ((PySem.strKind prog w).hash x) (.str x tx) = L at hperm hfits ⊢
    obtain ⟨es1, t1, wasDummy, gave⟩ := L
    dsimp only at hperm hfits ⊢
    rw [Array.toList_push] at hperm
    have hel1 : ElemsOf (PySem.strKind prog w) es1.toList := (hel.push hkey hsc).perm hperm
    have hsz1 : es1.size = es.size + 1 := by rw [← Array.length_toList, hperm.length_eq, List.length_append, Array.length_toList]; rfl
    have hb1 : es1.size < scanBound := by rw [hsz1, hlen]; show _ < 4096; omega
    have hst0 : StrsAre ((es.toList ++ [((PySem.strKind prog w).hash x, Value.str x tx)]).map (·.2)) (ks' ++ [x]) := by rw [List.map_append]; exact hst.append' (.cons x tx .nil)
    obtain ⟨ks1, hst1, hp1⟩ := strs_perm hst0 (hperm.map (·.2))
    have hnd1 : ks1.Nodup := hp1.nodup_iff.mpr (by
      rw [List.nodup_append]
      exact ⟨hnd, by simp, fun a ha b hb => by rw [List.mem_singleton.mp hb]; rintro rfl; exact hx ha⟩)
    have hmem1 : ∀ k, k ∈ ks1 ↔ k ∈ ks ++ [x] := fun k => by rw [hp1.mem_iff, List.mem_append, List.mem_append, hmem k]
    have hle1 : ks1.length ≤ (ks ++ [x]).length := by rw [hp1.length_eq, List.length_append, List.length_append]; omega
    refine wpAny_bind (hgw _ ?_)
    split
    · refine wpAny_bind ?_
      rw [hashByValue_scannable 8 hsc]
      refine wpAny_pure ?_
      refine add_tail ?_ ho hex hd hel1 hst1 hnd1 hmem1 hle1 hb1 (t2 := { t1 with plain := false }) (SetTable.fits_plain_off hfits) rfl ?_
      · intro b s₁ Q' hq; cases b <;> first | exact wpAny_pure hq | exact wpAny_rule hq
      · intro h' hsb hS'; dsimp only; exact wpAny_pure (h _ h' hsb hS')
    · rename_i hpl1
      refine wpAny_bind (wpAny_pure ?_)
      simp only [↓reduceIte]
      refine add_tail ?_ ho hex hd hel1 hst1 hnd1 hmem1 hle1 hb1 hfits (by simpa using hpl1) ?_
      · intro b s₁ Q' hq; cases b <;> first | exact wpAny_pure hq | exact wpAny_rule hq
      · intro h' hsb hS'; dsimp only; exact wpAny_pure (h _ h' hsb hS')

theorem set_add_x {x : Str} {tx : Tok} {ks : List Str} {Q : Value → Shared → Prop} (hS : SetX prog w s.heap D ks) (hroom : ks.length + 1 < 4096)
    (h : ∀ h' tk, Heap.SameBut D s.heap h' → SetX prog w h' D (ks ++ [x]) → Q .none { s with heap := h', toks := tk }) :
    wpAny (model prog w) A (call (.builtin "set.add") [.ref D, .str x tx]) Q E s := by
  refine wpAny_call_entry F.slot_set_add hS.typeIs F.entry_set_add ?_ (F.args_set_add_2 _ _)
  unfold Builtin.«set.add» Builtin.Frozenset.oneOther
  simp only [List.isEmpty_nil, bind_assoc]
  unfold Builtin.Frozenset.addrOf setAdd
  refine wpAny_bind (wpAny_pure ?_)
  try dsimp only
  refine wpAny_bind (wpAny_pure ?_)
  try dsimp only
  refine wpAny_bind (wpAny_holding (wpAny_bind ((PySem.strKind prog w).pyHash (strKind_is prog w x tx) ?_)))
  refine set_add_hashed (s := { s with toks := s.toks + 1 }) hS hroom fun b h' hsb hS' => ?_
  exact wpAny_pure ⟨_, rfl, h h' _ hsb hS'⟩
end
end Mine

/- part MIter0 -/
theorem Mine.offMIter0 : True := by
  w_top off
  trivial
namespace Mine
open PySem PySem.Spec PySem.Calls PySem.W PyProof.Rows PySem.Builtin

theorem entry_set_iter : entryFor table "set.__iter__" = some Builtin.«frozenset.__iter__» :=
  entryFor_alias (id' := "frozenset.__iter__") (by rw [fastTable_eq_tree]; kernel_rfl) rfl (by decide +kernel) (by rw [fastTable_eq_tree]; kernel_rfl)
theorem slot_si_next : Slot "set_iterator" "__next__" "set_iterator.__next__" :=
  .of (owner := "set_iterator") (n := "__next__") (by rw [typeLookup_type, builtinLookup_eq_fast]; kernel_rfl) (by decide +kernel) (by decide +kernel) (by decide +kernel)
    (.inl (by rw [find?_eq_fast]; kernel_rfl)) (by rw [isSubtype_type]; kernel_rfl)
theorem slot_si_iter : Slot "set_iterator" "__iter__" "set_iterator.__iter__" :=
  .of (owner := "set_iterator") (n := "__iter__") (by rw [typeLookup_type, builtinLookup_eq_fast]; kernel_rfl) (by decide +kernel) (by decide +kernel) (by decide +kernel)
    (.inl (by rw [find?_eq_fast]; kernel_rfl)) (by rw [isSubtype_type]; kernel_rfl)
theorem entry_si_next : entryFor table "set_iterator.__next__" = some Builtin.«set_iterator.__next__» := entryFor_of_tree (by kernel_rfl)
theorem entry_si_iter : entryFor table "set_iterator.__iter__" = some Builtin.«dict_keyiterator.__iter__» :=
  entryFor_alias (id' := "dict_keyiterator.__iter__") (by rw [fastTable_eq_tree]; kernel_rfl) rfl (by decide +kernel) (by rw [fastTable_eq_tree]; kernel_rfl)
theorem owner_si : Manifest.owners.lookup (String.ofList ['r', 'o', 't', 'a', 'r', 'e', 't', 'i', '_', 't', 'e', 's'].reverse) = some Manifest.sig_set_iterator := by kernel_rfl
theorem args_si_iter (a : Value) : argsOk "set_iterator.__iter__" ⟨[a], []⟩ := by
  unfold argsOk; rw [signature?_of (id := "set_iterator.__iter__") (n := ['_', '_', 'r', 'e', 't', 'i', '_', '_']) (o := ['r', 'o', 't', 'a', 'r', 'e', 't', 'i', '_', 't', 'e', 's']) (by kernel_rfl) owner_si]; kernel_rfl
theorem args_si_next (a : Value) : argsOk "set_iterator.__next__" ⟨[a], []⟩ := by
  unfold argsOk; rw [signature?_of (id := "set_iterator.__next__") (n := ['_', '_', 't', 'x', 'e', 'n', '_', '_']) (o := ['r', 'o', 't', 'a', 'r', 'e', 't', 'i', '_', 't', 'e', 's']) (by kernel_rfl) owner_si]; kernel_rfl

end Mine

/- part MIter -/
theorem Mine.offMIter : True := by
  w_top off
  trivial
namespace Mine
open PySem PySem.Spec PySem.Calls PySem.W PyProof.Rows PySem.Builtin

theorem erase_perm {α : Type} : ∀ (l : List α) (i : Nat) (h : i < l.length), (l[i] :: l.eraseIdx i).Perm l
  | a :: l, 0, _ => by simp
  | a :: l, i + 1, h => by
    have ih := erase_perm l i (by simpa using h)
    simp only [List.getElem_cons_succ, List.eraseIdx_cons_succ]
    exact (List.Perm.swap a _ _).trans (ih.cons a)
section
variable {M : Model} {A : Around} {E : Value → Shared → Prop} {s : Shared}
theorem choose_wp {src : Source} {n : Nat} {Q : Nat → Shared → Prop} (hn : n ≠ 0) (h : ∀ i, i < n → Q i { s with drawn := s.drawn.bump src }) : wpAny M A (choose src n) Q E s := fun Γ p _ => by
  unfold choose
  rw [Sem.wp_choose]
  exact ⟨hn, h _ (Nat.mod_lt _ (Nat.pos_of_ne_zero hn))⟩

theorem draw_wp {α : Type} : ∀ (n : Nat) (xs : List α) (s : Shared) {Q : List α → Shared → Prop}, xs.length = n → (∀ ys dr, ys.Perm xs → Q ys { s with drawn := dr }) → wpAny M A (drawOrder n xs) Q E s
  | 0, xs, s, Q, hl, h => by
    have e : xs = [] := List.length_eq_zero_iff.mp hl
    subst e
    unfold drawOrder
    exact wpAny_pure (h [] s.drawn (List.Perm.refl _))
  | n + 1, [], s, Q, hl, h => by simp at hl
  | n + 1, x :: xs, s, Q, hl, h => by
    unfold drawOrder
    refine wpAny_bind (choose_wp (by simp) fun i hi => ?_)
    have e : (x :: xs)[i]? = some (x :: xs)[i] := List.getElem?_eq_getElem hi
    rw [e]
    dsimp only
    refine wpAny_bind (draw_wp n ((x :: xs).eraseIdx i) _ (by rw [List.length_eraseIdx, if_pos hi]; simp at hl ⊢; omega) fun ys dr hp => ?_)
    exact wpAny_pure (h _ dr ((hp.cons _).trans (erase_perm _ _ hi)))
end

theorem pickOrder_perm {α : Type} (f0 : Nat → Nat) (xs : Array α) : (pickOrder f0 xs).toList.Perm xs.toList := by
  have key : ∀ (f k : Nat) (left : List α) (out : Array α), left.length = f → (pickOrder.go f0 f k left out).toList.Perm (out.toList ++ left) := by
    intro f
    induction f with
    | zero =>
      intro k left out hl
      have e : left = [] := List.length_eq_zero_iff.mp hl
      subst e
      unfold pickOrder.go
      simp
    | succ f ih =>
      intro k left out hl
      unfold pickOrder.go
      have hlt : f0 k % left.length < left.length := Nat.mod_lt _ (by omega)
      rw [List.getElem?_eq_getElem hlt]
      dsimp only
      refine (ih (k + 1) _ _ (by rw [List.length_eraseIdx, if_pos hlt]; omega)).trans ?_
      rw [Array.toList_push, List.append_assoc]
      exact List.Perm.append_left _ (erase_perm _ _ hlt)
  have := key xs.size 0 xs.toList #[] (by simp)
  simpa [pickOrder] using this

def SetO (h : Heap) (D : Addr) (es : Array (Int × Value)) (ep : Nat) (t : SetTable) : Prop := ∃ o, h.get? D = some o ∧ o.cls = .type "set" ∧ o.data = .set es ep t
theorem SetO.at {h h' : Heap} {D : Addr} {es : Array (Int × Value)} {ep : Nat} {t : SetTable} (x : SetO h D es ep t) (e : ∀ o, h.get? D = some o → h'.get? D = some o) : SetO h' D es ep t :=
  let ⟨o, ho, r⟩ := x; ⟨o, e _ ho, r⟩
def SIter (h : Heap) (I : Addr) (first : Value) (D : Addr) (i n ep : Nat) : Prop := ∃ o, h.get? I = some o ∧ o.cls = .type "set_iterator" ∧ o.data = .fields #[first, .int i 0, .ref D, .int n 0, .int ep 0]
theorem SIter.at {h h' : Heap} {I : Addr} {first : Value} {D : Addr} {i n ep : Nat} (x : SIter h I first D i n ep) (e : ∀ o, h.get? I = some o → h'.get? I = some o) : SIter h' I first D i n ep :=
  let ⟨o, ho, r⟩ := x; ⟨o, e _ ho, r⟩

section
variable {prog : Program} {w : World} {A : Around} {E : Value → Shared → Prop} {s : Shared} {D I : Addr} {es : Array (Int × Value)} {ep : Nat} {t : SetTable}

theorem si_self {first : Value} {i n : Nat} {Q : Value → Shared → Prop} (hit : SIter s.heap I first D i n ep) (h : Q (.ref I) s) : wpAny (model prog w) A (pyIter (.ref I)) Q E s := by
  have hT : s.TypeIs (.ref I) "set_iterator" := let ⟨o, ho, hc, _⟩ := hit; ⟨o, ho, hc⟩
  refine wpAny_pyIter_slot hT slot_si_iter (wpAny_call_entry slot_si_iter hT entry_si_iter ?_ (args_si_iter _))
  show wpAny _ _ (ret (.ref I)) _ _ s
  exact wpAny_pure ⟨_, rfl, "set_iterator", _, hT, slot_si_next.lookup, h⟩


theorem si_head {first : Value} {i : Nat} {P : Fin → Shared → Prop} {E' : Value → Shared → Prop} (hit : SIter s.heap I first D i es.size ep) (hS : SetO s.heap D es ep t) (hf : t.fits es.size = true)
    (h : wpAny (model prog w) A (match first with
      | .int slot _ => (do
        match ← setNext D slot.toNat (i : Int).toNat (ep : Int).toNat with
        | some (x, nx) =>
          setField (.ref I) 0 (rawInt nx)
          setField (.ref I) 1 (rawInt ((i : Int) + 1))
          ret x
        | none => setField (.ref I) 2 .none; raiseNew (← newExc (.type "StopIteration") []))
      | _ => (do
        let some places ← seqItems? first | unsupported "internal:set_iterator"
        match places[(i : Int).toNat]? with
        | some (.int place _) =>
          let x ← setNextDrawn D place.toNat (ep : Int).toNat
          setField (.ref I) 1 (rawInt ((i : Int) + 1))
          ret x
        | some _ => unsupported "internal:set_iterator"
        | none => setField (.ref I) 0 (rawInt 0); setField (.ref I) 2 .none; raiseNew (← newExc (.type "StopIteration") []))) P E' s) :
    wpAny (model prog w) A (Builtin.«set_iterator.__next__» ⟨[.ref I], []⟩) P E' s := by
  obtain ⟨o, ho, hc, hd⟩ := hit
  obtain ⟨oS, hoS, hcS, hdS⟩ := hS
  unfold Builtin.«set_iterator.__next__»
  refine wpAny_bind (m := slotArgs "__next__" 0 _) (wpAny_pure ?_)
  refine wpAny_bind (wpAny_fieldsOf ho hd ?_)
  dsimp only
  refine wpAny_bind (wpAny_setEntries_of hoS hdS hf ?_)
  rw [if_neg (by simp)]
  exact h

theorem si_upd {first : Value} {i n : Nat} (hit : SIter s.heap I first D i n ep) : ∀ {j : Nat} {v : Value}, j < 5 → ∃ o vs, (s.heap.update I (Obj.mapFields (·.setIfInBounds j v))).get? I = some o ∧ o.cls = .type "set_iterator" ∧
    o.data = .fields vs ∧ vs = (#[first, .int i 0, .ref D, .int n 0, .int ep 0] : Array Value).setIfInBounds j v := by
  intro j v _
  obtain ⟨o, ho, hc, hd⟩ := hit
  exact ⟨_, _, Heap.get?_update_self _ ho (Obj.isFreed_of_fields (Obj.data_mapFields hd _)), (Obj.cls_mapFields ..).trans hc, Obj.data_mapFields hd _, rfl⟩

theorem si_item_drawn {T : Addr} {i p : Nat} {places : List Nat} {hx : Int} {x : Value} {Q : Option Value → Shared → Prop} (hit : SIter s.heap I (.ref T) D i es.size ep) (hS : SetO s.heap D es ep t) (hf : t.fits es.size = true)
    (hT : ∃ o n, s.heap.get? T = some o ∧ o.data = .seq (places.map fun i : Nat => rawInt i).toArray n) (hp : places[i]? = some p) (he : es[p]? = some (hx, x))
    (hQ : ∀ h', SIter h' I (.ref T) D (i + 1) es.size ep → Heap.SameBut I s.heap h' → Q (some x) { s with heap := h' }) : wpAny (model prog w) A (pyNext (.ref I)) Q E s := by
  have hTI : s.TypeIs (.ref I) "set_iterator" := let ⟨o, ho, hc, _⟩ := hit; ⟨o, ho, hc⟩
  unfold pyNext
  refine wpAny_bind (wpAny_attempt (wpAny_callSpecial?_slot (name := Str.ofString "__next__") hTI slot_si_next (wpAny_call_entry slot_si_next hTI entry_si_next (si_head hit hS hf ?_) (args_si_next _))))
  obtain ⟨oT, nT, hoT, hdT⟩ := hT
  obtain ⟨oS, hoS, hcS, hdS⟩ := id hS
  refine wpAny_bind (wpAny_seqItems hoT hdT ?_)
  have e1 : (places.map fun i : Nat => rawInt i).toArray[(i : Int).toNat]? = some (rawInt p) := by
    rw [Int.toNat_natCast, List.getElem?_toArray, List.getElem?_map, hp]; rfl
  dsimp only
  rw [e1]
  unfold rawInt
  dsimp only
  unfold setNextDrawn
  refine wpAny_bind (wpAny_bind (wpAny_setState_of hoS hdS hf ?_))
  dsimp only
  rw [if_neg (by simp)]
  rw [Int.toNat_natCast, he]
  dsimp only
  refine wpAny_pure ?_
  obtain ⟨o, ho, hc, hd⟩ := id hit
  refine wpAny_bind (wpAny_setField ho hd (by simp) ?_)
  refine wpAny_pure ⟨_, rfl, wpAny_pure (hQ _ ?_ (Heap.SameBut.update ..))⟩
  obtain ⟨o', vs, h1, h2, h3, h4⟩ := si_upd (s := s) hit (j := 1) (v := rawInt ((i : Int) + 1)) (by decide)
  exact ⟨o', h1, h2, by rw [h3, h4]; rfl⟩

theorem si_item_text {i : Nat} {hx : Int} {x : Value} {Q : Option Value → Shared → Prop} (hby : w.params.followText "set-order" = true) (hit : SIter s.heap I (.int 0 0) D i es.size ep) (hS : SetO s.heap D es ep t) (hf : t.fits es.size = true)
    (he : (pickOrder (w.params.setOrder D ep) es)[i]? = some (hx, x))
    (hQ : ∀ h', SIter h' I (.int 0 0) D (i + 1) es.size ep → Heap.ExtBut I s.heap h' → Q (some x) { s with heap := h' }) : wpAny (model prog w) A (pyNext (.ref I)) Q E s := by
  have hTI : s.TypeIs (.ref I) "set_iterator" := let ⟨o, ho, hc, _⟩ := hit; ⟨o, ho, hc⟩
  unfold pyNext
  refine wpAny_bind (wpAny_attempt (wpAny_callSpecial?_slot (name := Str.ofString "__next__") hTI slot_si_next (wpAny_call_entry slot_si_next hTI entry_si_next (si_head hit hS hf ?_) (args_si_next _))))
  obtain ⟨oS, hoS, hcS, hdS⟩ := id hS
  dsimp only
  unfold setNext setsByText
  refine wpAny_bind (wpAny_bind (wpAny_setState_of hoS hdS hf ?_))
  dsimp only
  refine wpAny_bind (wpAny_bind (wpAny_askSetting (wpAny_pure ?_)))
  have hby' : ((⟨(model prog w).prog, (model prog w).w.params⟩ : Setting).params.followText "set-order") = true := hby
  rw [hby']
  simp only [if_true]
  rw [if_neg (by simp)]
  refine wpAny_bind ?_
  unfold setWalk setsByText
  refine wpAny_bind (wpAny_setState_of hoS hdS hf ?_)
  dsimp only
  refine wpAny_bind (wpAny_bind (wpAny_askSetting (wpAny_pure ?_)))
  rw [hby']
  simp only [if_true]
  refine wpAny_bind (wpAny_askSetting (wpAny_pure ?_))
  have e2 : (pickOrder ((⟨(model prog w).prog, (model prog w).w.params⟩ : Setting).params.setOrder D ep) es)[(i : Int).toNat]? = some (hx, x) := by rw [Int.toNat_natCast]; exact he
  rw [e2]
  refine wpAny_pure ?_
  simp only [Option.map_some]
  obtain ⟨o, ho, hc, hd⟩ := id hit
  refine wpAny_bind (wpAny_setField ho hd (by simp) ?_)
  obtain ⟨o1, vs1, a1, a2, a3, a4⟩ := si_upd (s := s) hit (j := 0) (v := rawInt ((0 : Int).toNat : Int)) (by decide)
  refine wpAny_bind (wpAny_setField a1 a3 (by rw [a4]; simp) ?_)
  refine wpAny_pure ⟨_, rfl, wpAny_pure (hQ _ ?_ ((Heap.SameBut.update ..).extBut.trans (Heap.SameBut.update ..).extBut))⟩
  refine ⟨_, Heap.get?_update_self _ a1 (Obj.isFreed_of_fields (Obj.data_mapFields a3 _)), (Obj.cls_mapFields ..).trans a2, ?_⟩
  rw [Obj.data_mapFields a3, a4]
  rfl

theorem si_end_drawn {T : Addr} {i : Nat} {places : List Nat} {Q : Option Value → Shared → Prop} (hh : A.handled = none) (hit : SIter s.heap I (.ref T) D i es.size ep) (hS : SetO s.heap D es ep t) (hf : t.fits es.size = true)
    (hT : ∃ o n, s.heap.get? T = some o ∧ o.data = .seq (places.map fun i : Nat => rawInt i).toArray n) (hp : places[i]? = none)
    (hQ : ∀ h', Heap.ExtBut I s.heap h' → Q none { s with heap := h' }) : wpAny (model prog w) A (pyNext (.ref I)) Q E s := by
  have hTI : s.TypeIs (.ref I) "set_iterator" := let ⟨o, ho, hc, _⟩ := hit; ⟨o, ho, hc⟩
  unfold pyNext
  refine wpAny_bind (wpAny_attempt (wpAny_callSpecial?_slot (name := Str.ofString "__next__") hTI slot_si_next (wpAny_call_entry slot_si_next hTI entry_si_next (si_head hit hS hf ?_) (args_si_next _))))
  obtain ⟨oT, nT, hoT, hdT⟩ := hT
  refine wpAny_bind (wpAny_seqItems hoT hdT ?_)
  have e1 : (places.map fun i : Nat => rawInt i).toArray[(i : Int).toNat]? = none := by
    rw [Int.toNat_natCast, List.getElem?_toArray, List.getElem?_map, hp]; rfl
  dsimp only
  rw [e1]
  dsimp only
  obtain ⟨o, ho, hc, hd⟩ := id hit
  refine wpAny_bind (wpAny_setField ho hd (by simp) ?_)
  obtain ⟨o1, vs1, a1, a2, a3, a4⟩ := si_upd (s := s) hit (j := 0) (v := rawInt 0) (by decide)
  refine wpAny_bind (wpAny_setField a1 a3 (by rw [a4]; simp) ?_)
  refine wpAny_bind ?_
  simp only [newExc, newTuple]
  refine wpAny_bind (wpAny_newObj_type ?_ (by size_fits))
  refine wpAny_bind (m := firstArgMember _ _) (wpAny_of_eq (a := Value.none) (by first | rfl | (simp only [firstArgMember]; rfl)) ?_)
  refine wpAny_newObj_type ?_ (by size_fits)
  simp only [raiseNew]
  refine wpAny_bind (wpAny_handled ?_)
  rw [show A.in1.handled = none from hh]
  refine wpAny_bind (wpAny_pure (wpAny_throw ?_))
  refine wpAny_bind (wpAny_isInstance (T := "StopIteration") (b := true) ⟨_, Heap.get?_push_size _ rfl, rfl⟩ isSubtype_stop ?_)
  exact wpAny_pure (hQ _ ((((Heap.SameBut.update ..).extBut.trans (Heap.SameBut.update ..).extBut).push _).push _))

theorem si_end_text {i : Nat} {Q : Option Value → Shared → Prop} (hh : A.handled = none) (hby : w.params.followText "set-order" = true) (hit : SIter s.heap I (.int 0 0) D i es.size ep) (hS : SetO s.heap D es ep t) (hf : t.fits es.size = true)
    (he : (pickOrder (w.params.setOrder D ep) es)[i]? = none)
    (hQ : ∀ h', Heap.ExtBut I s.heap h' → Q none { s with heap := h' }) : wpAny (model prog w) A (pyNext (.ref I)) Q E s := by
  have hTI : s.TypeIs (.ref I) "set_iterator" := let ⟨o, ho, hc, _⟩ := hit; ⟨o, ho, hc⟩
  unfold pyNext
  refine wpAny_bind (wpAny_attempt (wpAny_callSpecial?_slot (name := Str.ofString "__next__") hTI slot_si_next (wpAny_call_entry slot_si_next hTI entry_si_next (si_head hit hS hf ?_) (args_si_next _))))
  obtain ⟨oS, hoS, hcS, hdS⟩ := id hS
  dsimp only
  unfold setNext setsByText
  refine wpAny_bind (wpAny_bind (wpAny_setState_of hoS hdS hf ?_))
  dsimp only
  refine wpAny_bind (wpAny_bind (wpAny_askSetting (wpAny_pure ?_)))
  have hby' : ((⟨(model prog w).prog, (model prog w).w.params⟩ : Setting).params.followText "set-order") = true := hby
  rw [hby']
  simp only [if_true]
  rw [if_neg (by simp)]
  refine wpAny_bind ?_
  unfold setWalk setsByText
  refine wpAny_bind (wpAny_setState_of hoS hdS hf ?_)
  dsimp only
  refine wpAny_bind (wpAny_bind (wpAny_askSetting (wpAny_pure ?_)))
  rw [hby']
  simp only [if_true]
  refine wpAny_bind (wpAny_askSetting (wpAny_pure ?_))
  have e2 : (pickOrder ((⟨(model prog w).prog, (model prog w).w.params⟩ : Setting).params.setOrder D ep) es)[(i : Int).toNat]? = none := by rw [Int.toNat_natCast]; exact he
  rw [e2]
  refine wpAny_pure ?_
  simp only [Option.map_none]
  obtain ⟨o, ho, hc, hd⟩ := id hit
  refine wpAny_bind (wpAny_setField ho hd (by simp) ?_)
  refine wpAny_bind ?_
  simp only [newExc, newTuple]
  refine wpAny_bind (wpAny_newObj_type ?_ (by size_fits))
  refine wpAny_bind (m := firstArgMember _ _) (wpAny_of_eq (a := Value.none) (by first | rfl | (simp only [firstArgMember]; rfl)) ?_)
  refine wpAny_newObj_type ?_ (by size_fits)
  simp only [raiseNew]
  refine wpAny_bind (wpAny_handled ?_)
  rw [show A.in1.handled = none from hh]
  refine wpAny_bind (wpAny_pure (wpAny_throw ?_))
  refine wpAny_bind (wpAny_isInstance (T := "StopIteration") (b := true) ⟨_, Heap.get?_push_size _ rfl, rfl⟩ isSubtype_stop ?_)
  exact wpAny_pure (hQ _ (((Heap.SameBut.update ..).extBut.push _).push _))

def SeqAt (vs : List Value) (i : Nat) (v : Value) : Prop := vs[i]? = some v

theorem walks_drawn (hh : A.handled = none) {T : Addr} {places : List Nat} {vs : List Value} (hDI : D ≠ I) (hTI : T ≠ I) (hf : t.fits es.size = true)
    (hvs : ∀ (i p : Nat), places[i]? = some p → ∃ hx v, es[p]? = some (hx, v) ∧ vs[i]? = some v) (hlen : places.length = vs.length) :
    Walks prog w A I [I, T, D] [I] vs.length (SeqAt vs) (fun i h => SIter h I (.ref T) D i es.size ep ∧ (∃ o n, h.get? T = some o ∧ o.data = .seq (places.map fun i : Nat => rawInt i).toArray n) ∧ SetO h D es ep t) where
  sub := fun b hb => by simp at hb; simp [hb]
  frame := fun i h h' st hk => ⟨st.1.at fun o e => hk I (by simp) o e, by obtain ⟨o, n, ho, hd⟩ := st.2.1; exact ⟨o, n, hk T (by simp) o ho, hd⟩, st.2.2.at fun o e => hk D (by simp) o e⟩
  item := fun i s Q E hi st hQ => by
    have hp : places[i]? = some places[i] := List.getElem?_eq_getElem (by omega)
    obtain ⟨hx, v, e1, e2⟩ := hvs i _ hp
    refine si_item_drawn st.1 st.2.2 hf st.2.1 hp e1 fun h' hit' hs' => hQ v h' s.toks e2 ⟨hit', ?_, st.2.2.at fun o e => hs'.extBut _ _ hDI e⟩ fun b o hb e => hs'.extBut b o (fun h => hb (by simp [h])) e
    obtain ⟨o, n, ho, hd⟩ := st.2.1
    exact ⟨o, n, hs'.extBut _ _ hTI ho, hd⟩
  done := fun s Q E st hQ => si_end_drawn hh st.1 st.2.2 hf st.2.1 (List.getElem?_eq_none (by omega)) fun h' he => hQ h' s.toks fun b o hb e => he b o (fun h => hb (by simp [h])) e
  self := fun i s Q E st hQ => si_self st.1 hQ

theorem walks_text (hh : A.handled = none) (hby : w.params.followText "set-order" = true) {vs : List Value} (hDI : D ≠ I) (hf : t.fits es.size = true) (hvs : vs = (pickOrder (w.params.setOrder D ep) es).toList.map (·.2)) :
    Walks prog w A I [I, D] [I] vs.length (SeqAt vs) (fun i h => SIter h I (.int 0 0) D i es.size ep ∧ SetO h D es ep t) where
  sub := fun b hb => by simp at hb; simp [hb]
  frame := fun i h h' st hk => ⟨st.1.at fun o e => hk I (by simp) o e, st.2.at fun o e => hk D (by simp) o e⟩
  item := fun i s Q E hi st hQ => by
    subst hvs
    have hi' : i < (pickOrder (w.params.setOrder D ep) es).size := by simpa using hi
    rcases hv : (pickOrder (w.params.setOrder D ep) es)[i] with ⟨hx, v⟩
    refine si_item_text hby st.1 st.2 hf (x := v) (hx := hx) (by rw [Array.getElem?_eq_getElem hi', hv]) fun h' hit' hs' => hQ v h' s.toks (by unfold SeqAt; rw [List.getElem?_map, Array.getElem?_toList, Array.getElem?_eq_getElem hi', hv]; rfl) ⟨hit', st.2.at fun o e => hs' _ _ hDI e⟩ fun b o hb e => hs' b o (fun h => hb (by simp [h])) e
  done := fun s Q E st hQ => by
    subst hvs
    exact si_end_text hh hby st.1 st.2 hf (Array.getElem?_eq_none (by simp)) fun h' he => hQ h' s.toks fun b o hb e => he b o (fun h => hb (by simp [h])) e
  self := fun i s Q E st hQ => si_self st.1 hQ

theorem set_iter {Q : Value → Shared → Prop} (hS : SetO s.heap D es ep t) (hf : t.fits es.size = true) (hpl : t.plain = false) (h2 : 2 ≤ es.size) (hb : es.size ≤ sizeLine)
    (h : ∀ I fp (St : Nat → Heap → Prop) (vs : List Value) h' dr, vs.Perm (es.toList.map (·.2)) → (∀ A' : Around, A'.handled = none → Walks prog w A' I fp [I] vs.length (SeqAt vs) St) → St 0 h' → (∀ b ∈ fp, b < h'.objs.size) → s.heap.StaysIn h' →
      (∀ b ∈ fp, b = D ∨ s.heap.get? b = none) → s.heap.get? I = none → s.heap.objs.size ≤ h'.objs.size → Q (.ref I) { s with heap := h', drawn := dr }) : wpAny (model prog w) A (pyIter (.ref D)) Q E s := by
  obtain ⟨o, ho, hc, hd⟩ := id hS
  have hT : s.TypeIs (.ref D) "set" := ⟨o, ho, hc⟩
  have hDl : D < s.heap.objs.size := Heap.lt_size ho
  refine wpAny_pyIter_slot hT F.slot_set_iter (wpAny_call_entry F.slot_set_iter hT entry_set_iter ?_ (F.args_set_iter_1 _))
  unfold Builtin.«frozenset.__iter__» Builtin.Frozenset.slot0
  refine wpAny_bind (wpAny_bind (m := slotArgs "__iter__" 0 _) (wpAny_pure ?_))
  unfold Builtin.Frozenset.addrOf Builtin.Frozenset.sizeOf
  refine wpAny_pure ?_
  refine wpAny_bind (wpAny_bind (wpAny_setEntries_of ho hd hf (wpAny_pure ?_)))
  refine wpAny_bind ?_
  unfold setDrawn setsByText
  refine wpAny_bind (wpAny_setState_of ho hd hf ?_)
  dsimp only
  refine wpAny_bind (wpAny_bind (wpAny_askSetting (wpAny_pure ?_)))
  dsimp only
  cases hby : w.params.followText "set-order" with
  | true =>
    have hbyM : (model prog w).w.params.followText "set-order" = true := hby
    refine wpAny_pure ?_
    refine wpAny_ite_split (fun hab => absurd hab (by rw [hbyM]; simp)) (fun _ => ?_)
    refine wpAny_bind (wpAny_pure ?_)
    refine wpAny_bind (wpAny_setEpoch_of ho hd hf ?_)
    refine wpAny_bind (wpAny_newObj_type (wpAny_pure ⟨_, rfl, "set_iterator", _, ⟨_, Heap.get?_push_size _ rfl, rfl⟩, slot_si_next.lookup, ?_⟩))
    have hIt : SIter (s.heap.push { cls := .type "set_iterator", data := .fields #[.int 0 0, .int 0 0, .ref D, .int es.size 0, .int ep 0] }) s.heap.objs.size (.int 0 0) D 0 es.size ep := ⟨_, Heap.get?_push_size _ rfl, rfl, rfl⟩
    refine h s.heap.objs.size [s.heap.objs.size, D] _ ((pickOrder (w.params.setOrder D ep) es).toList.map (·.2)) _ s.drawn ((pickOrder_perm _ es).map _) (fun A' hA' => walks_text (D := D) (I := s.heap.objs.size) (es := es) (ep := ep) (t := t) hA' hby (Nat.ne_of_lt hDl) hf rfl) ⟨hIt, hS.at fun o e => Heap.get?_push_of_some _ e⟩ ?_ (fun b o e => Heap.get?_push_of_some _ e) ?_ (Heap.get?_none_of_le (Nat.le_refl _)) (by rw [Heap.size_push]; exact Nat.le_succ _)
    · intro b hb
      rw [Heap.size_push]
      rcases List.mem_cons.mp hb with rfl | hb
      · exact Nat.lt_succ_self _
      · rw [List.mem_singleton.mp hb]; exact Nat.lt_succ_of_lt hDl
    · intro b hb
      rcases List.mem_cons.mp hb with rfl | hb
      · exact .inr (Heap.get?_none_of_le (Nat.le_refl _))
      · exact .inl (List.mem_singleton.mp hb)
  | false =>
    refine wpAny_pure ?_
    have hbyM : (model prog w).w.params.followText "set-order" = false := hby
    have hdr : (!(model prog w).w.params.followText "set-order" && (!t.plain && decide (es.size > 1))) = true := by rw [hbyM, hpl]; simp; omega
    refine wpAny_ite_split (fun _ => ?_) (fun hab => absurd hdr hab)
    refine wpAny_bind (draw_wp es.size (List.range es.size) s (by simp) fun places dr hp => ?_)
    have hpl2 : places.length = es.size := by rw [hp.length_eq]; simp
    refine wpAny_bind (wpAny_newTuple (items := places.map fun i : Nat => rawInt i) ?_ (by rw [List.length_map, hpl2]; exact hb))
    have up : ∀ b o, s.heap.get? b = some o → (s.heap.push { cls := .type "tuple", data := .seq (places.map fun i : Nat => rawInt i).toArray }).get? b = some o := fun b o e => Heap.get?_push_of_some _ e
    have hS1 : SetO (s.heap.push { cls := .type "tuple", data := .seq (places.map fun i : Nat => rawInt i).toArray }) D es ep t := hS.at fun o e => up _ _ e
    obtain ⟨o1, ho1, hc1, hd1⟩ := id hS1
    refine wpAny_bind (wpAny_setEpoch_of ho1 hd1 hf ?_)
    refine wpAny_bind (wpAny_newObj_type (wpAny_pure ⟨_, rfl, "set_iterator", _, ⟨_, Heap.get?_push_size _ rfl, rfl⟩, slot_si_next.lookup, ?_⟩))
    dsimp only
    generalize hH1 : s.heap.push { cls := .type "tuple", data := .seq (places.map fun i : Nat => rawInt i).toArray } = H1 at *
    have hsz1 : H1.objs.size = s.heap.objs.size + 1 := by rw [← hH1, Heap.size_push]
    have hTT : H1.get? s.heap.objs.size = some { cls := .type "tuple", data := .seq (places.map fun i : Nat => rawInt i).toArray } := by rw [← hH1]; exact Heap.get?_push_size _ rfl
    have hDI : D ≠ H1.objs.size := by rw [hsz1]; exact Nat.ne_of_lt (Nat.lt_succ_of_lt hDl)
    have hTI : s.heap.objs.size ≠ H1.objs.size := by rw [hsz1]; exact Nat.ne_of_lt (Nat.lt_succ_self _)
    have hlt : ∀ (i p : Nat), places[i]? = some p → p < es.size := fun i p e => by
      have := hp.mem_iff.mp (List.mem_of_getElem? e)
      exact List.mem_range.mp this
    have hvs : ∀ (i p : Nat), places[i]? = some p → ∃ hx v, es[p]? = some (hx, v) ∧ (places.map fun p => (es.getD p (0, .none)).2)[i]? = some v := fun i p e => by
      have hl := hlt i p e
      refine ⟨es[p].1, es[p].2, Array.getElem?_eq_getElem hl, ?_⟩
      rw [List.getElem?_map, e, Option.map_some, Array.getD_eq_getD_getElem?, Array.getElem?_eq_getElem hl]
      rfl
    have hperm : (places.map fun p => (es.getD p (0, .none)).2).Perm (es.toList.map (·.2)) := by
      refine (hp.map _).trans ?_
      have e : (List.range es.size).map (fun p => (es.getD p (0, .none)).2) = es.toList.map (·.2) := by
        apply List.ext_getElem
        · simp
        · intro i h1 h2
          have hi : i < es.size := by simpa using h1
          simp only [List.getElem_map, List.getElem_range, Array.getElem_toList]
          rw [Array.getD_eq_getD_getElem?, Array.getElem?_eq_getElem hi]
          rfl
      rw [e]
    have hIt : SIter (H1.push { cls := .type "set_iterator", data := .fields #[.ref s.heap.objs.size, .int 0 0, .ref D, .int es.size 0, .int ep 0] }) H1.objs.size (.ref s.heap.objs.size) D 0 es.size ep := ⟨_, Heap.get?_push_size _ rfl, rfl, rfl⟩
    refine h H1.objs.size [H1.objs.size, s.heap.objs.size, D] _ (places.map fun p => (es.getD p (0, .none)).2) _ dr hperm (fun A' hA' => walks_drawn (D := D) (I := H1.objs.size) (es := es) (ep := ep) (t := t) (T := s.heap.objs.size) (places := places) hA' hDI hTI hf hvs (by simp)) ⟨hIt, ⟨_, 0, Heap.get?_push_of_some _ hTT, rfl⟩, hS1.at fun o e => Heap.get?_push_of_some _ e⟩ ?_ (fun b o e => Heap.get?_push_of_some _ (up b o e)) ?_ ?_ ?_
    · intro b hb
      rw [Heap.size_push]
      simp only [List.mem_cons, List.not_mem_nil, or_false] at hb
      rcases hb with rfl | rfl | rfl
      · exact Nat.lt_succ_self _
      · rw [hsz1]; exact Nat.lt_succ_of_lt (Nat.lt_succ_self _)
      · rw [hsz1]; exact Nat.lt_succ_of_lt (Nat.lt_succ_of_lt hDl)
    · intro b hb
      simp only [List.mem_cons, List.not_mem_nil, or_false] at hb
      rcases hb with rfl | rfl | rfl
      · exact .inr (Heap.get?_none_of_le (by rw [hsz1]; exact Nat.le_succ _))
      · exact .inr (Heap.get?_none_of_le (Nat.le_refl _))
      · exact .inl rfl
    · exact Heap.get?_none_of_le (by rw [hsz1]; exact Nat.le_succ _)
    · rw [Heap.size_push, hsz1]; omega

theorem set_hint (hT : s.TypeIs (.ref D) "set") {Q : Bool → Shared → Prop} (h : Q false s) : wpAny (model prog w) A (Builtin.List.listLengthHint (.ref D)) Q E s := by
  unfold Builtin.List.listLengthHint
  refine wpAny_bind (wpAny_specialOf hT F.slot_set_len.lookup ?_)
  generalize hid : ("set.__len__" : String) = id0
  wp_delta
  rw [show splitId id0 = some ("set", "__len__") from by subst hid; decide +kernel]
  subst hid
  refine wpAny_bind (wpAny_isInstance (T := "set") (b := true) hT (by rw [isSubtype_type]; kernel_rfl) ?_)
  refine wpAny_ite_split (fun hab => absurd hab (by decide)) (fun _ => ?_)
  refine wpAny_ite_split (fun _ => ?_) (fun hab => absurd (by decide +kernel) hab)
  refine wpAny_bind (wpAny_typeOf hT ?_)
  exact wpAny_pure h

theorem set_collect {Q : List Value → Shared → Prop} (hh : A.handled = none) (hS : SetO s.heap D es ep t) (hf : t.fits es.size = true) (hpl : t.plain = false) (h2 : 2 ≤ es.size) (hb : es.size ≤ sizeLine)
    (h : ∀ vs h' tk dr, vs.Perm (es.toList.map (·.2)) → s.heap.StaysIn h' → Q vs { s with heap := h', toks := tk, drawn := dr }) : wpAny (model prog w) A (collect (.ref D)) Q E s := by
  obtain ⟨o, ho, hc, hd⟩ := id hS
  have hDl : D < s.heap.objs.size := Heap.lt_size ho
  unfold collect
  refine wpAny_bind (wpAny_runValue (codeAny_builtin entry_proto_collect' ?_))
  rw [Around.under_plainId PySem.F.plain_proto_collect _]
  show wpAny _ A.in1 (newList [] >>= fun l => again (.builtin "list.__iadd__" ⟨[l, .ref D], []⟩)) _ _ s
  refine wpAny_bind (wpAny_newObj_type ?_)
  refine wpAny_pure ⟨plainId_quiet PySem.F.plain_list_iadd _, codeAny_builtin entry_list_iadd' ?_⟩
  rw [Around.under_plainId PySem.F.plain_list_iadd _]
  show wpAny _ A.in1 (Builtin.List.listExtendWith (.ref s.heap.objs.size) (.ref D) (.ref s.heap.objs.size)) _ _ _
  have hS₁ : (s.heap.push { cls := .type "list", data := .seq ([] : List Value).toArray }).get? s.heap.objs.size = some { cls := .type "list", data := .seq #[] } := Heap.get?_push_size _ rfl
  have hDN : s.heap.objs.size ≠ D := Nat.ne_of_gt hDl
  have up1 : ∀ b o, s.heap.get? b = some o → (s.heap.push { cls := .type "list", data := .seq ([] : List Value).toArray }).get? b = some o := fun b o e => Heap.get?_push_of_some _ e
  generalize hN : s.heap.objs.size = N at *
  have oldN : ∀ b o, s.heap.get? b = some o → b ≠ N := fun b o e => by rw [← hN]; exact Nat.ne_of_lt (Heap.lt_size e)
  unfold Builtin.List.listExtendWith
  have hSO1 : SetO (s.heap.push { cls := .type "list", data := .seq ([] : List Value).toArray }) D es ep t := hS.at fun o e => up1 _ _ e
  have hT1 : Shared.TypeIs { s with heap := s.heap.push { cls := .type "list", data := .seq ([] : List Value).toArray } } (.ref D) "set" := ⟨o, up1 _ _ ho, hc⟩
  generalize hH1 : s.heap.push { cls := .type "list", data := .seq ([] : List Value).toArray } = H1 at *
  refine wpAny_bind (wpAny_typeOf (T := "set") hT1 ?_)
  have h1 : Builtin.List.listSameRef (.ref N) (.ref D) = false := by simp [Builtin.List.listSameRef, hDN]
  have h2' : (Value.type "set" == Value.type "list") = false := by decide
  have h3 : (Value.type "set" == Value.type "tuple") = false := by decide
  simp only [h1, h2', h3, Bool.or_false, Bool.false_eq_true, if_false]
  refine wpAny_bind (set_iter (s := { s with heap := H1 }) hSO1 hf hpl h2 hb fun I fp St vs h' dr hperm W hst hfp hstay hfpo hI0 hsz => ?_)
  dsimp only at hstay hI0 hsz ⊢
  have hNI : N ≠ I := by rintro rfl; rw [hS₁] at hI0; cases hI0
  have hNfp : N ∉ fp := fun hm => by
    rcases hfpo N hm with e | e
    · exact hDN e
    · rw [hS₁] at e; cases e
  have hTD : Shared.TypeIs { s with heap := h', drawn := dr } (.ref D) "set" := by
    obtain ⟨o1, ho1, hc1, _⟩ := hSO1
    exact ⟨o1, hstay _ _ ho1, hc1⟩
  refine wpAny_bind (wpAny_holding (set_hint hTD ?_))
  have hlen : vs.length = es.size := by rw [hperm.length_eq]; simp
  have fin : ∀ (g : Heap) (c : Nat) (tk : Nat), (∀ b o, b ≠ N → h'.get? b = some o → g.get? b = some o) → g.get? N = some { cls := .type "list", dict := none, data := .seq #[] c, slots := #[] } →
      codeAny (model prog w) A (.builtin "list.extend.loop" ⟨[.ref N, .ref I, .ref N], []⟩) (fun r s' => ∃ g' tk' acc c', r = .ok (.ret (.ref N)) ∧ s' = { s with heap := g', toks := tk', drawn := dr } ∧ s.heap.StaysIn g' ∧ g'.get? N = some { cls := .type "list", dict := none, data := .seq acc c', slots := #[] } ∧ acc.toList = vs)
        { s with heap := g, toks := tk, drawn := dr } := by
    intro g c tk hk hgN
    have Wt := W A.in1 hh
    have hstg : St 0 g := Wt.frame 0 h' g hst fun b hb o e => hk b o (fun q => hNfp (q ▸ hb)) e
    refine codeAny_extend_loopS Wt.toS (by rw [hlen]; exact hb) N hNfp (.ref N) vs.length 0 _ #[] c (Nat.sub_zero _) (Nat.zero_le _) hstg hgN (ItemsOf.nil _) fun s' acc' c' hm hS' hacc => ?_
    obtain ⟨g', gg, dd, tt, oo⟩ := s'
    obtain ⟨m1, m2, m3, m4, _⟩ := hm
    have m2' : gg = s.gens := m2
    have m3' : dd = dr := m3
    have m4' : oo = s.os := m4
    clear m2 m3 m4
    rw [m2', m3', m4']
    dsimp only at m1 hS'
    refine ⟨g', tt, acc', c', rfl, rfl, fun b o e => m1 b o ?_ (hk b o (oldN b o e) (hstay b o (up1 b o e))), hS', ?_⟩
    · simp only [List.mem_cons, List.not_mem_nil, or_false, not_or]
      exact ⟨oldN b o e, by rintro rfl; rw [up1 _ _ e] at hI0; cases hI0⟩
    · apply List.ext_getElem?
      intro j
      rcases Nat.lt_or_ge j acc'.size with hj | hj
      · have e1 : acc'[j]? = some acc'[j] := Array.getElem?_eq_getElem hj
        rw [Array.getElem?_toList, e1]
        exact (hacc.2 j _ e1).symm
      · rw [Array.getElem?_toList, Array.getElem?_eq_none hj, List.getElem?_eq_none (by rw [← hacc.1]; exact hj)]
  have fin2 : ∀ (g : Heap) (c : Nat) (tk : Nat), (∀ b o, b ≠ N → h'.get? b = some o → g.get? b = some o) → g.get? N = some { cls := .type "list", dict := none, data := .seq #[] c, slots := #[] } →
      codeAny (model prog w) A (.builtin "list.extend.loop" ⟨[.ref N, .ref I, .ref N], []⟩) (fun r s' =>
              match r with
              | Except.ok (Flow.ret v) =>
                wpAny (model prog w) A
                  (match v with
                  | Value.ref a => do
                    let od ← load a
                    match od.data with
                      | Data.seq xs epoch => pure xs.toList
                      | x => unsupported "internal:collect"
                  | x => unsupported "internal:collect")
                  Q E s'
              | Except.ok a => False
              | Except.error e => E e s') { s with heap := g, toks := tk, drawn := dr } := by
    intro g c tk hk hgN
    refine codeAny_mono (fin g c tk hk hgN) fun r s' hr => ?_
    obtain ⟨g', tk', acc, c', rfl, rfl, hst', hgN', rfl⟩ := hr
    show wpAny _ A (load N >>= _) _ _ _
    refine wpAny_bind (wpAny_load hgN' ?_)
    exact wpAny_pure (h _ g' tk' dr hperm hst')
  have hN' : h'.get? N = some { cls := .type "list", dict := none, data := .seq #[] 0, slots := #[] } := hstay _ _ hS₁
  refine wpAny_ite_split (fun _ => ?_) (fun _ => wpAny_pure ⟨plainId_quiet PySem.F.plain_extend_loop _, fin2 h' 0 _ (fun _ _ _ e => e) hN'⟩)
  refine wpAny_bind (wpAny_rule ?_)
  refine wpAny_bind ?_
  show wpAny _ _ (updateSeq N (·.push .none) >>= fun _ => updateSeq N (·.pop)) _ _ _
  refine wpAny_bind (wpAny_updateSeq hN' rfl ?_)
  have hS₂ := Heap.get?_update_self (Obj.mapSeq (·.push Value.none)) hN' rfl
  refine wpAny_updateSeq (hz := by seq_fits) hS₂ rfl ?_
  have hS₃ := Heap.get?_update_self (Obj.mapSeq (·.pop)) hS₂ rfl
  refine wpAny_pure ⟨plainId_quiet PySem.F.plain_extend_loop _, fin2 _ _ _ (fun b o hb e => ?_) hS₃⟩
  exact (Heap.get?_update_other _ _ (Ne.symm hb)).trans ((Heap.get?_update_other _ _ (Ne.symm hb)).trans e)

/-- sorted() of a set of strs that the code has just filled -/
theorem sorted_set {ks : List Str} {Q : Value → Shared → Prop} (hh : A.handled = none) (hS : SetX prog w s.heap D ks) (h2 : ∃ a b, a ∈ ks ∧ b ∈ ks ∧ a ≠ b) (h64 : ks.length < 64)
    (h : ∀ R h' tk dr n ws ss, s.heap.StaysIn h' → s.heap.get? R = none → h'.get? R = some (lsO ws n) → StrsAre ws ss → ss.Nodup → (∀ k, k ∈ ss ↔ k ∈ ks) → sortedS ss = true → ss.length ≤ ks.length → Q (.ref R) { s with heap := h', toks := tk, drawn := dr }) :
    wpAny (model prog w) A (call (.builtin "sorted") [.ref D]) Q E s := by
  obtain ⟨o, es, ep, t, ks', ho, hex, hd, hel, hst, hnd, hmem, hle, hb, hf, hpl⟩ := hS
  have hlen : es.size = ks'.length := by have := StrsAre.size hst; rw [List.length_map, Array.length_toList] at this; exact this
  obtain ⟨a, b, ha, hb', hab⟩ := h2
  have hpl' := hpl (List.ne_nil_of_mem ha)
  have h2' : 2 ≤ es.size := by
    rw [hlen]
    match ks', (hmem a).mpr ha, (hmem b).mpr hb' with
    | [], h1, _ => cases h1
    | [x], h1, h2 => exact absurd ((List.mem_singleton.mp h1).trans (List.mem_singleton.mp h2).symm) hab
    | _ :: _ :: _, _, _ => simp
  refine Calls.call_function_entry kind_sorted plain_sorted entry_sorted (args_sorted1 _) ?_
  unfold Builtin.«sorted»
  refine wpAny_bind (m := checkCount "sorted" 1 1 _) (wpAny_pure ?_)
  refine wpAny_bind (set_collect hh ⟨o, ho, hex.1, hd⟩ hf hpl' h2' (by rw [sizeLine_eq]; have : es.size ≤ 63 := by omega
                                                                       omega) fun vs h' tk dr hperm hstay => ?_)
  have hvl : vs.length < 64 := by
    have e : vs.length = es.size := by rw [hperm.length_eq]; simp
    omega
  obtain ⟨kv, hkv, hpk⟩ := strs_perm hst hperm
  refine wpAny_bind (wpAny_newList ?_)
  have hoL : (h'.push (seqObj "list" vs.toArray 0)).get? h'.objs.size = some (seqObj "list" vs.toArray 0) := Heap.get?_push_size _ rfl
  refine wpAny_bind (wpAny_holding (wpAny_call_entry slot_list_sort ⟨_, hoL, rfl⟩ entry_list_sort (list_sort_treeK strKind_oneLt hoL hkv.keysOf (fun v₁ v₂ rest e => keyKind_strs (by rw [← e]; exact hkv)) hvl fun st' a1 a2 => ⟨_, rfl, ?_⟩) (args_list_sort _)))
  obtain ⟨ss, h1, h2, h3⟩ := sorted_out_str hkv a1 a2
  have hperm2 : ss.Perm ks' := h2.trans hpk
  obtain ⟨e, he⟩ := sortedHeap_at (h := h'.push (seqObj "list" vs.toArray 0)) (a := h'.objs.size) (vs := vs) (n := 0) (out := (arrOf st').map (·.2)) hoL
  refine wpAny_pure ⟨_, rfl, h h'.objs.size _ tk dr e _ ss (fun b o hb => ?_) ?_ he h1 (hperm2.nodup_iff.mpr hnd) (fun k => hperm2.mem_iff.trans (hmem k)) h3 (by rw [hperm2.length_eq]; exact hle)⟩
  · have hlt : b < h'.objs.size := Heap.lt_size (hstay _ _ hb)
    rw [show (_ : Heap).get? b = _ from sortedHeap_old (Nat.ne_of_lt hlt) (by rw [Heap.size_push]; exact Nat.lt_succ_of_lt hlt)]
    exact Heap.get?_push_of_some _ (hstay _ _ hb)
  · cases e : s.heap.get? h'.objs.size with
    | none => rfl
    | some o => exact absurd (Heap.lt_size (hstay _ _ e)) (Nat.lt_irrefl _)
end
end Mine

/- part MLaw1 -/
theorem Mine.offMLaw1 : True := by
  w_top off
  trivial
namespace Mine
open PySem PySem.Spec PySem.Calls PySem.W PyProof.Rows PySem.Builtin PySem.Builtin.Str
set_option maxHeartbeats 1000000
theorem fillLaw (w : World) : (hd.heap_39 w.params) = (hd.heap_39 w.params) ∧ PySem.Challenge.rw_mq0154_01.prog = PySem.Challenge.rw_mq0154_01.prog := by k_fill; exact ⟨rfl, rfl⟩
def lawParts : List Stmt × Scope := match PySem.Challenge.pw_mq0154_01.main.body.getLast? with
  | some (.FunctionDef _ _ body _ _ _ scope _ _ _) => (body, scope)
  | _ => ([], { kind := .function, names := [], isGenerator := false, isCoroutine := false })
def lawBody : List Stmt := lawParts.1
def lawScope : Scope := lawParts.2
abbrev lawEnv (L fa : Addr) (cdv : Value) : Env := envOfC "law" lawScope L fa cdv
theorem lawBody_len : lawBody.length = 8 := rfl
theorem lawEnv_cells (L fa : Addr) (cdv : Value) : (lawEnv L fa cdv).cells = [(Str.ofString "texts", L + 1)] := rfl

def LSt (s : Shared) (L : Addr) (b : Nat) (nm : List (Str × Value)) (ls : List (Addr × List Value)) (tx : Option Value) (s' : Shared) : Prop :=
  ∃ h tk dr u, s' = { heap := h, gens := s.gens, drawn := dr, toks := tk, os := s.os } ∧ b ≤ tk ∧ Fr s.heap L h u ∧ h.IsCell (L + 1) tx ∧ (∀ p ∈ nm, u p.1 = some p.2) ∧ (∀ p ∈ ls, p.1 ≠ L ∧ p.1 ≠ L + 1 ∧ ∃ n, h.get? p.1 = some (lsO p.2 n))

theorem LSt.keep {s : Shared} {L : Addr} {b b' : Nat} {nm : List (Str × Value)} {ls : List (Addr × List Value)} {tx : Option Value} {s' s'' : Shared} (x : LSt s L b nm ls tx s') (hk : s'.heap.StaysIn s''.heap) (hg : s''.gens = s'.gens) (ho : s''.os = s'.os) (hb : b' ≤ s''.toks) : LSt s L b' nm ls tx s'' := by
  obtain ⟨h, tk, dr, u, rfl, hb0, F, hc, hnm, hls⟩ := x
  obtain ⟨h', g', dr', tk', o'⟩ := s''
  simp only at hk hg ho hb
  subst hg ho
  exact ⟨h', tk', dr', u, rfl, hb, F.keeps hk, hc.keeps hk, hnm, fun p hp => by obtain ⟨h1, h2, n, h3⟩ := hls p hp; exact ⟨h1, h2, n, hk _ _ h3⟩⟩
theorem LSt.less {s : Shared} {L : Addr} {b b' : Nat} {nm nm' : List (Str × Value)} {ls ls' : List (Addr × List Value)} {tx : Option Value} {s' : Shared} (x : LSt s L b nm ls tx s') (hb : b' ≤ b) (hn : ∀ p ∈ nm', p ∈ nm) (hl : ∀ p ∈ ls', p ∈ ls) : LSt s L b' nm' ls' tx s' := by
  obtain ⟨h, tk, dr, u, rfl, hb0, F, hc, hnm, hls⟩ := x
  exact ⟨h, tk, dr, u, rfl, Nat.le_trans hb hb0, F, hc, fun p hp => hnm p (hn p hp), fun p hp => hls p (hl p hp)⟩
theorem LSt.more {s : Shared} {L : Addr} {b : Nat} {nm : List (Str × Value)} {ls : List (Addr × List Value)} {tx : Option Value} {s' : Shared} {D : Addr} {ws : List Value} {n : Nat} (x : LSt s L b nm ls tx s') (h1 : D ≠ L) (h2 : D ≠ L + 1) (h3 : s'.heap.get? D = some (lsO ws n)) : LSt s L b nm ((D, ws) :: ls) tx s' := by
  obtain ⟨h, tk, dr, u, rfl, hb0, F, hc, hnm, hls⟩ := x
  refine ⟨h, tk, dr, u, rfl, hb0, F, hc, hnm, fun p hp => ?_⟩
  rcases List.mem_cons.mp hp with rfl | hp
  · exact ⟨h1, h2, n, h3⟩
  · exact hls p hp
theorem LSt.new {s : Shared} {L : Addr} {b : Nat} {nm : List (Str × Value)} {ls : List (Addr × List Value)} {tx : Option Value} {s' : Shared} (x : LSt s L b nm ls tx s') {D : Addr} (h : s'.heap.get? D = none) : D ≠ L ∧ D ≠ L + 1 := by
  obtain ⟨h, tk, dr, u, rfl, hb0, F, ⟨oc, hc, _⟩, hnm, hls⟩ := x
  constructor
  · rintro rfl
    obtain ⟨o, _, _, ho, _⟩ := F.ns
    rw [ho] at h; cases h
  · rintro rfl
    rw [hc] at h; cases h
theorem LSt.list {s : Shared} {L : Addr} {b : Nat} {nm : List (Str × Value)} {ls : List (Addr × List Value)} {tx : Option Value} {s' : Shared} (x : LSt s L b nm ls tx s') {p : Addr × List Value} (hp : p ∈ ls) : s'.heap.IsList p.1 p.2.toArray := by
  obtain ⟨h, tk, dr, u, rfl, hb0, F, hc, hnm, hls⟩ := x
  obtain ⟨h1, h2, n, h3⟩ := hls p hp
  exact ⟨_, h3, rfl, n, rfl⟩

section
variable {w : World} {mean : ExcName → Option Value} {mg mb : Str → Option Value} {dp un : Nat} {gd : Option (List Code)} {L fa : Addr} {cdv : Value} {s : Shared} {E : Value → Shared → Prop}
theorem law_store {x : Str} {v : Value} {b : Nat} {nm : List (Str × Value)} {ls : List (Addr × List Value)} {tx : Option Value} {s' : Shared} {M : Model} {A : Around} {Q : Unit → Shared → Prop} (hx : (lawEnv L fa cdv).kindOf x = some .local) (hl : LSt s L b nm ls tx s') (hne : ∀ p ∈ nm, p.1 ≠ x)
    (hQ : ∀ s'', LSt s L (b + 1) ((x, v) :: nm) ls tx s'' → Q () s'') : wpAny M A (storeName (lawEnv L fa cdv) x v) Q E s' := by
  obtain ⟨h, tk, dr, u, rfl, hb0, F, hc, hnm, hls⟩ := hl
  have hc0 : s.heap.get? (L + 1) = none := Heap.get?_none_of_le (Nat.le_succ_of_le F.above)
  have hL0 : s.heap.get? L = none := Heap.get?_none_of_le F.above
  refine wpAny_storeName_local hx F.ns fun h' hn' hs' => hQ _ ⟨h', _, dr, _, rfl, Nat.succ_le_succ hb0, ⟨hn', fun c o e => hs'.extBut c o (fun q => by have q' : c = L := q; rw [q', hL0] at e; cases e) (F.keep c o e), F.above⟩, hc.sameBut hs' (Nat.ne_of_gt (Nat.lt_succ_self L)), ?_, fun p hp => ?_⟩
  · intro p hp
    rcases List.mem_cons.mp hp with rfl | hp
    · simp
    · show (if p.1 = x then some v else u p.1) = _; rw [if_neg (hne p hp)]; exact hnm p hp
  · obtain ⟨h1, h2, n, h3⟩ := hls p hp
    exact ⟨h1, h2, n, hs'.extBut _ _ h1 h3⟩

local macro_rules | `(tactic| walk_at "call ref") => `(tactic| refine Stop.out ?_)
theorem law_1 (X : (hd.heap_39 w.params).In s.heap) (T : Top hd.view_39 (looseW hd.view_39 []) mean mg mb s.heap) (hdp : dp < recursionLimit) (ax : Addr) (vs : List Value) (ns : List Int) (hax : s.heap.IsList ax vs.toArray) (hI : IntsAre vs ns) (hnl : ns.length ≤ 63)
    (st : Stmt) (hst : lawBody[0]? = some st) (s' : Shared) (hs' : LSt s L 0 [("script", .ref ax)] [] none s') :
    wpAny (model PySem.Challenge.rw_mq0154_01.row.prog w) (aTop dp un gd [lawEnv L fa cdv]) (exec st (lawEnv L fa cdv))
      (fun f s'' => f = .next ∧ ∃ P pv ps, LSt s L 1 [("patterns", .ref P)] [(P, pv)] none s'' ∧ StrsAre pv ps ∧ Str.ofString "a*a" ∈ ps ∧ ps.length ≤ 4 ∧ ∀ p ∈ ps, GoodP p) E s' := by
  cases hst
  have hs0 := hs'
  obtain ⟨h, tk, dr, u, rfl, hb, F, hc, hnm, -⟩ := hs'
  have hu := hnm _ (.head _)
  have F1 := Fr_pins F [("script", .ref ax)] (by simp [hu])
  dsimp only [pinL] at F1
  have N : News s.heap L h [] := by intro p hp; cases hp
  k_steps
  refine Stop.mk (pats_spec (X.keeps F.keep) (T.keeps F.keep) hdp ax vs ns (hax.at fun o e => F.keep _ _ e) hI hnl ?_)
  intro h' tk' D ys ps hst hD0 hpl hstrs hain hlen hgood
  obtain ⟨n, hpl⟩ := hpl
  have hDL := hs0.new hD0
  have hs1 : LSt s L 0 [("script", .ref ax)] [(D, ys.toList)] none { heap := h', gens := s.gens, drawn := dr, toks := tk', os := s.os } := (LSt.keep (s'' := { heap := h', gens := s.gens, drawn := dr, toks := tk', os := s.os }) (b' := 0) hs0 hst rfl rfl (Nat.zero_le _)).more (n := n) hDL.1 hDL.2 (by simpa [lsO] using hpl)
  refine law_store rfl (hs1.less (nm' := []) (Nat.le_refl 0) (by intro p hp; cases hp) (fun p hp => hp)) (by intro p hp; cases hp) fun s'' h'' => ?_
  exact ⟨trivial, D, _, ps, h'', hstrs, hain, hlen, hgood⟩
end
end Mine

/- part MLaw2 -/
theorem Mine.offMLaw2 : True := by
  w_top off
  trivial
namespace Mine
open PySem PySem.Spec PySem.Calls PySem.W PyProof.Rows PySem.Builtin PySem.Builtin.Str
set_option maxHeartbeats 1000000
section
variable {w : World} {mean : ExcName → Option Value} {mg mb : Str → Option Value} {dp un : Nat} {gd : Option (List Code)} {L fa : Addr} {cdv : Value} {s : Shared} {E : Value → Shared → Prop}
theorem strs_map {f : Str → Str} : ∀ {vs ys : List Value} {ps : List Str}, StrsAre vs ps → Paired (fun v y => ∃ x t t', v = .str x t ∧ y = .str (f x) t') vs ys → StrsAre ys (ps.map f)
  | _, _, _, .nil, h => by cases h; exact .nil
  | _, _, _, .cons x t r, h => by
    cases h with
    | cons h1 h2 =>
      obtain ⟨x', t1, t2, e, rfl⟩ := h1
      cases e
      exact .cons _ _ (strs_map r h2)
theorem law_2 (P : Addr) (pv : List Value) (ps : List Str) (hps : StrsAre pv ps) (hlen : ps.length ≤ 4) (hgood : ∀ p ∈ ps, GoodP p) (b : Nat) (hb1 : 1 ≤ b) (nm : List (Str × Value)) (ls : List (Addr × List Value)) (hP : ((Str.ofString "patterns", Value.ref P) : Str × Value) ∈ nm) (hPl : (P, pv) ∈ ls)
    (hne : ∀ p ∈ nm, p.1 ≠ "dotted") (st : Stmt) (hst : lawBody[1]? = some st) (s' : Shared) (hs' : LSt s L b nm ls none s') :
    wpAny (model PySem.Challenge.rw_mq0154_01.row.prog w) (aTop dp un gd [lawEnv L fa cdv]) (exec st (lawEnv L fa cdv))
      (fun f s'' => f = .next ∧ ∃ D dv, LSt s L b (("dotted", .ref D) :: nm) ((D, dv) :: ls) none s'' ∧ StrsAre dv (ps.map fun p => Txt.replace p "*" "...")) E s' := by
  cases hst
  have hs0 := hs'
  obtain ⟨h, tk, dr, u, rfl, hb, F, hc, hnm, hls⟩ := hs'
  have hu := hnm _ hP
  refine wpAny_with_toks (n := b) hb ?_
  refine wpAny_Assign_ListComp_free (cl := []) (fun _ => true) (fun v y => ∃ x t t', v = .str x t ∧ y = .str (Txt.replace x "*" "...") t')
    (by with_unfolding_all rfl) (by with_unfolding_all rfl) (by decide) (by rfl) (by decide) (by rfl) (by rfl) (by rfl) ?_
  refine nmL F.ns hu ?_
  have hl := hs0.list hPl
  dsimp only at hl
  have hlt : P < h.objs.size := by obtain ⟨o, ho, _⟩ := hl; exact Heap.lt_size ho
  have up : ∀ b o, h.get? b = some o → (h.push { cls := .type "list_iterator", data := .fields #[.ref P, .int 0 0] }).get? b = some o := fun b o e => Heap.get?_push_of_some _ e
  have hIn : ∀ b o, h.get? b = some o → b ∉ [h.objs.size] := fun b o e hm => by rw [List.mem_singleton.mp hm] at e; exact Nat.lt_irrefl _ (Heap.lt_size e)
  refine wpAny_pyIter_list hl ?_
  have hpl : pv.length = ps.length := StrsAre.size hps
  refine ⟨_, _, _, _, _, _, u, rfl, Walks.list rfl h.objs.size P (Nat.ne_of_lt hlt) pv.toArray, ?_, ⟨⟨_, Heap.get?_push_size _ rfl, rfl, rfl⟩, hl.push _⟩, ?_, ?_, ?_, ⟨?_, ?_⟩, ?_⟩
  · rw [sizeLine_eq, List.size_toArray]; omega
  · intro b hb
    show b < (h.push _).objs.size
    rw [Heap.size_push]
    rcases List.mem_cons.mp hb with rfl | hb
    · exact Nat.lt_succ_self _
    · rw [List.mem_singleton.mp hb]; exact Nat.lt_succ_of_lt hlt
  · exact fun hm => Nat.lt_irrefl _ ((List.mem_singleton.mp hm) ▸ F.ns.lt)
  · exact F.ns.at' fun o e => up _ _ e
  · intro C j v s₃ m₃ E' hC hP hn hm hk htk
    simp only [List.forIn_nil]
    exact wpAny_pure ⟨rfl, _, _, rfl, fun _ _ e => e⟩
  · intro C j v s₃ m₃ E' hC hPj hpv hn hm hk htk
    obtain ⟨x, tx, rfl, hx⟩ := StrsAre.at hps (i := j) (v := v) (by simpa using hPj)
    have hg := hgood x (List.mem_of_getElem? hx)
    have htk3 : 1 ≤ s₃.toks := Nat.le_trans (Nat.le_trans hb1 hb) htk
    clear hk hC hPj hs0 hnm hls F hl up hIn
    walk1
    refine nmL (env := compEnvC _ _ _ _) hn hm ?_
    walk1
    walk1
    walk1
    walk1
    walk1
    walk1
    walk1
    refine SC.replaceW (by show s₃.toks ≠ 0; omega) (by show s₃.toks + 1 ≠ 0; omega) (by show s₃.toks ≠ s₃.toks + 1; omega) (by decide) (by have := hg.1; omega) (by decide) ?_
    intro t' k
    exact ⟨⟨x, tx, t', rfl, rfl⟩, _, _, rfl, fun _ _ e => e⟩
  · intro D h' tk' ys ws hD hlD hplD hwl hwP hpair hns hk
    obtain ⟨n', hD'⟩ := hplD
    have e1 : ws = pv := list_of_at (by simpa using hwl) fun j v h => by simpa using hwP j v h
    subst e1
    intro htkb
    refine ⟨rfl, D, ys.toList, ?_, ?_⟩
    · have hD0 : h.get? D = none := by
        cases e : h.get? D with
        | none => rfl
        | some o => have := up _ _ e; rw [hD] at this; cases this
      obtain ⟨hDL, hDL1⟩ := hs0.new (D := D) hD0
      have hk2 : ∀ c o, c ≠ L → h.get? c = some o → h'.get? c = some o := fun c o hc e => hk c o hc (hIn c o e) (up c o e)
      have hL0 : s.heap.get? L = none := Heap.get?_none_of_le F.above
      refine ⟨h', tk', dr, _, rfl, htkb, ⟨hns, fun c o e => hk2 c o (fun q => by rw [q, hL0] at e; cases e) (F.keep c o e), F.above⟩, ?_, ?_, ?_⟩
      · obtain ⟨o, ho, hd⟩ := hc
        exact ⟨o, hk2 _ _ (Nat.ne_of_gt (Nat.lt_succ_self L)) ho, hd⟩
      · intro p hp
        rcases List.mem_cons.mp hp with rfl | hp
        · simp
        · show (if p.1 = _ then _ else u p.1) = _; rw [if_neg (hne p hp)]; exact hnm p hp
      · intro p hp
        rcases List.mem_cons.mp hp with rfl | hp
        · exact ⟨hDL, hDL1, n', by simpa [lsO] using hD'⟩
        · obtain ⟨h1, h2, n, h3⟩ := hls p hp
          exact ⟨h1, h2, n, hk2 _ _ h1 h3⟩
    · rw [List.filter_eq_self.mpr (fun _ _ => rfl)] at hpair
      exact strs_map hps hpair
theorem law_3 (P : Addr) (pv : List Value) (ps : List Str) (hps : StrsAre pv ps) (hlen : ps.length ≤ 4) (hgood : ∀ p ∈ ps, GoodP p) (b : Nat) (hb1 : 1 ≤ b) (nm : List (Str × Value)) (ls : List (Addr × List Value)) (hP : ((Str.ofString "patterns", Value.ref P) : Str × Value) ∈ nm) (hPl : (P, pv) ∈ ls)
    (hne : ∀ p ∈ nm, p.1 ≠ "bare") (st : Stmt) (hst : lawBody[2]? = some st) (s' : Shared) (hs' : LSt s L b nm ls none s') :
    wpAny (model PySem.Challenge.rw_mq0154_01.row.prog w) (aTop dp un gd [lawEnv L fa cdv]) (exec st (lawEnv L fa cdv))
      (fun f s'' => f = .next ∧ ∃ D dv, LSt s L b (("bare", .ref D) :: nm) ((D, dv) :: ls) none s'' ∧ StrsAre dv (ps.map fun p => Txt.replace p "*" "c")) E s' := by
  cases hst
  have hs0 := hs'
  obtain ⟨h, tk, dr, u, rfl, hb, F, hc, hnm, hls⟩ := hs'
  have hu := hnm _ hP
  refine wpAny_with_toks (n := b) hb ?_
  refine wpAny_Assign_ListComp_free (cl := []) (fun _ => true) (fun v y => ∃ x t t', v = .str x t ∧ y = .str (Txt.replace x "*" "c") t')
    (by with_unfolding_all rfl) (by with_unfolding_all rfl) (by decide) (by rfl) (by decide) (by rfl) (by rfl) (by rfl) ?_
  refine nmL F.ns hu ?_
  have hl := hs0.list hPl
  dsimp only at hl
  have hlt : P < h.objs.size := by obtain ⟨o, ho, _⟩ := hl; exact Heap.lt_size ho
  have up : ∀ b o, h.get? b = some o → (h.push { cls := .type "list_iterator", data := .fields #[.ref P, .int 0 0] }).get? b = some o := fun b o e => Heap.get?_push_of_some _ e
  have hIn : ∀ b o, h.get? b = some o → b ∉ [h.objs.size] := fun b o e hm => by rw [List.mem_singleton.mp hm] at e; exact Nat.lt_irrefl _ (Heap.lt_size e)
  refine wpAny_pyIter_list hl ?_
  have hpl : pv.length = ps.length := StrsAre.size hps
  refine ⟨_, _, _, _, _, _, u, rfl, Walks.list rfl h.objs.size P (Nat.ne_of_lt hlt) pv.toArray, ?_, ⟨⟨_, Heap.get?_push_size _ rfl, rfl, rfl⟩, hl.push _⟩, ?_, ?_, ?_, ⟨?_, ?_⟩, ?_⟩
  · rw [sizeLine_eq, List.size_toArray]; omega
  · intro b hb
    show b < (h.push _).objs.size
    rw [Heap.size_push]
    rcases List.mem_cons.mp hb with rfl | hb
    · exact Nat.lt_succ_self _
    · rw [List.mem_singleton.mp hb]; exact Nat.lt_succ_of_lt hlt
  · exact fun hm => Nat.lt_irrefl _ ((List.mem_singleton.mp hm) ▸ F.ns.lt)
  · exact F.ns.at' fun o e => up _ _ e
  · intro C j v s₃ m₃ E' hC hP hn hm hk htk
    simp only [List.forIn_nil]
    exact wpAny_pure ⟨rfl, _, _, rfl, fun _ _ e => e⟩
  · intro C j v s₃ m₃ E' hC hPj hpv hn hm hk htk
    obtain ⟨x, tx, rfl, hx⟩ := StrsAre.at hps (i := j) (v := v) (by simpa using hPj)
    have hg := hgood x (List.mem_of_getElem? hx)
    have htk3 : 1 ≤ s₃.toks := Nat.le_trans (Nat.le_trans hb1 hb) htk
    clear hk hC hPj hs0 hnm hls F hl up hIn
    walk1
    refine nmL (env := compEnvC _ _ _ _) hn hm ?_
    walk1
    walk1
    walk1
    walk1
    walk1
    walk1
    walk1
    refine SC.replaceW (by show s₃.toks ≠ 0; omega) (by show s₃.toks + 1 ≠ 0; omega) (by show s₃.toks ≠ s₃.toks + 1; omega) (by decide) (by have := hg.1; omega) (by decide) ?_
    intro t' k
    exact ⟨⟨x, tx, t', rfl, rfl⟩, _, _, rfl, fun _ _ e => e⟩
  · intro D h' tk' ys ws hD hlD hplD hwl hwP hpair hns hk
    obtain ⟨n', hD'⟩ := hplD
    have e1 : ws = pv := list_of_at (by simpa using hwl) fun j v h => by simpa using hwP j v h
    subst e1
    intro htkb
    refine ⟨rfl, D, ys.toList, ?_, ?_⟩
    · have hD0 : h.get? D = none := by
        cases e : h.get? D with
        | none => rfl
        | some o => have := up _ _ e; rw [hD] at this; cases this
      obtain ⟨hDL, hDL1⟩ := hs0.new (D := D) hD0
      have hk2 : ∀ c o, c ≠ L → h.get? c = some o → h'.get? c = some o := fun c o hc e => hk c o hc (hIn c o e) (up c o e)
      have hL0 : s.heap.get? L = none := Heap.get?_none_of_le F.above
      refine ⟨h', tk', dr, _, rfl, htkb, ⟨hns, fun c o e => hk2 c o (fun q => by rw [q, hL0] at e; cases e) (F.keep c o e), F.above⟩, ?_, ?_, ?_⟩
      · obtain ⟨o, ho, hd⟩ := hc
        exact ⟨o, hk2 _ _ (Nat.ne_of_gt (Nat.lt_succ_self L)) ho, hd⟩
      · intro p hp
        rcases List.mem_cons.mp hp with rfl | hp
        · simp
        · show (if p.1 = _ then _ else u p.1) = _; rw [if_neg (hne p hp)]; exact hnm p hp
      · intro p hp
        rcases List.mem_cons.mp hp with rfl | hp
        · exact ⟨hDL, hDL1, n', by simpa [lsO] using hD'⟩
        · obtain ⟨h1, h2, n, h3⟩ := hls p hp
          exact ⟨h1, h2, n, hk2 _ _ h1 h3⟩
    · rw [List.filter_eq_self.mpr (fun _ _ => rfl)] at hpair
      exact strs_map hps hpair
end
end Mine

/- part MLaw4 -/
theorem Mine.offMLaw4 : True := by
  w_top off
  trivial
namespace Mine
open PySem PySem.Spec PySem.Calls PySem.W PyProof.Rows PySem.Builtin PySem.Builtin.Str
set_option maxHeartbeats 1000000
theorem fillL4 (w : World) : (hd.heap_39 w.params) = (hd.heap_39 w.params) ∧ PySem.Challenge.rw_mq0154_01.prog = PySem.Challenge.rw_mq0154_01.prog := by k_fill; exact ⟨rfl, rfl⟩
theorem emitted3 {P : Nat → Value → Prop} {a b c : Str} : ∀ {j : Nat} {l : List (Value × Value)}, Emitted P (fun _ us => StrsAre us [a, b, c]) j l → l.length = 3 * j
  | _, _, .nil => rfl
  | _, _, .snoc h1 _ h3 => by
    have := emitted3 h1
    have h4 := StrsAre.size h3
    simp at h4
    simp [this, h4]; omega
theorem emitted_sub {P : Nat → Value → Prop} {U : Value → List Value → Prop} : ∀ {n : Nat} {l : List (Value × Value)}, Emitted P U n l → ∀ q ∈ l, ∃ j us, j < n ∧ P j q.1 ∧ U q.1 us ∧ q.2 ∈ us
  | _, _, .nil, q, hq => by cases hq
  | _, _, .snoc h1 h2 h3, q, hq => by
    rcases List.mem_append.mp hq with hq | hq
    · obtain ⟨j, us, hj, r⟩ := emitted_sub h1 q hq
      exact ⟨j, us, Nat.lt_succ_of_lt hj, r⟩
    · obtain ⟨u, hu, rfl⟩ := List.mem_map.mp hq
      exact ⟨_, _, Nat.lt_succ_self _, h2, h3, hu⟩
theorem emitted_sup {P : Nat → Value → Prop} {U : Value → List Value → Prop} : ∀ {n : Nat} {l : List (Value × Value)}, Emitted P U n l → ∀ j, j < n → ∃ v us, P j v ∧ U v us ∧ ∀ u ∈ us, (v, u) ∈ l
  | _, _, .nil, j, hj => by cases hj
  | _, _, .snoc (j := k) h1 h2 h3, j, hj => by
    rcases Nat.lt_succ_iff_lt_or_eq.mp hj with h | rfl
    · obtain ⟨v, us, a, b, c⟩ := emitted_sup h1 j h
      exact ⟨v, us, a, b, fun u hu => List.mem_append_left _ (c u hu)⟩
    · exact ⟨_, _, h2, h3, fun u hu => List.mem_append_right _ (List.mem_map_of_mem hu)⟩
theorem keys3 {f : Str → Str → Str} {pv : List Value} {ps rs : List Str} (hps : StrsAre pv ps) {l : List (Value × Value)} (hE : Emitted (fun i v => pv.toArray[i]? = some v) (fun _ us => StrsAre us rs) pv.toArray.size l) (k : Str) :
    k ∈ (l.map fun p => f (strOf p.1) (strOf p.2)) ↔ ∃ p ∈ ps, ∃ r ∈ rs, k = f p r := by
  constructor
  · intro h
    obtain ⟨q, hq, rfl⟩ := List.mem_map.mp h
    obtain ⟨j, us, hj, hP, hU, hu⟩ := emitted_sub hE q hq
    obtain ⟨x, tx, e, hx⟩ := StrsAre.at hps (i := j) (v := q.1) (by simpa using hP)
    obtain ⟨i, hi, e2⟩ := List.getElem_of_mem hu
    obtain ⟨r, tr, e3, hr⟩ := StrsAre.at hU (i := i) (v := q.2) (by rw [List.getElem?_eq_getElem hi, e2])
    refine ⟨x, List.mem_of_getElem? hx, r, List.mem_of_getElem? hr, ?_⟩
    rw [e, e3]; rfl
  · rintro ⟨p, hp, r, hr, rfl⟩
    obtain ⟨v, hv, tv, rfl⟩ := (mem_strs hps).mp hp
    obtain ⟨j, hj, e⟩ := List.getElem_of_mem hv
    obtain ⟨v', us, hP, hU, hall⟩ := emitted_sup hE j (by simpa using hj)
    obtain ⟨v2, hv2, t2, rfl⟩ := (mem_strs hU).mp hr
    have e2 : pv[j]? = some v' := by simpa using hP
    rw [List.getElem?_eq_getElem hj, e] at e2
    cases e2
    exact List.mem_map.mpr ⟨_, hall _ hv2, rfl⟩
section
variable {w : World} {mean : ExcName → Option Value} {mg mb : Str → Option Value} {dp un : Nat} {gd : Option (List Code)} {L fa : Addr} {cdv : Value} {s : Shared} {E : Value → Shared → Prop}
theorem law_4 (X : (hd.heap_39 w.params).In s.heap) (T : Top hd.view_39 (looseW hd.view_39 []) mean mg mb s.heap) (P : Addr) (pv : List Value) (ps : List Str) (hps : StrsAre pv ps) (hlen : ps.length ≤ 4) (hgood : ∀ p ∈ ps, GoodP p) (ha : Str.ofString "a*a" ∈ ps) (b : Nat) (hb1 : 1 ≤ b) (nm : List (Str × Value)) (ls : List (Addr × List Value)) (hP : ((Str.ofString "patterns", Value.ref P) : Str × Value) ∈ nm) (hPl : (P, pv) ∈ ls)
    (st : Stmt) (hst : lawBody[3]? = some st) (s' : Shared) (hs' : LSt s L b nm ls none s') :
    wpAny (model PySem.Challenge.rw_mq0154_01.row.prog w) (aTop dp un gd [lawEnv L fa cdv]) (exec st (lawEnv L fa cdv))
      (fun f s'' => f = .next ∧ ∃ D dv ts, LSt s L b nm ((D, dv) :: ls) (some (.ref D)) s'' ∧ StrsAre dv ts ∧ ts.Nodup ∧ sortedS ts = true ∧ ts.length ≤ 12 ∧ ∀ k, k ∈ ts ↔ ∃ p ∈ ps, ∃ r ∈ [Str.ofString "", Str.ofString "c", Str.ofString "ba"], k = Txt.replace p "*" r) E s' := by
  cases hst
  have hs0 := hs'
  obtain ⟨h, tk, dr, u, rfl, hb, F, hc, hnm, hls⟩ := hs'
  have hu := hnm _ hP
  refine wpAny_with_toks (n := b) hb ?_
  walk1
  walk1
  refine nmB (X.keeps F.keep) (T.keeps F.keep) (by k_is) (by boot_by_name) (by decide) ?_
  walk1
  walk1
  rw [arm_eval_SetComp]
  dsimp only
  refine wpAny_comprehension_free (use := none) (cl := []) rfl (by intro _; rfl) (by with_unfolding_all rfl) (by rfl) (by decide) ?_
  refine nmL F.ns hu ?_
  have hl := hs0.list hPl
  dsimp only at hl
  have hlt : P < h.objs.size := by obtain ⟨o, ho, _⟩ := hl; exact Heap.lt_size ho
  have up : ∀ b o, h.get? b = some o → (h.push { cls := .type "list_iterator", data := .fields #[.ref P, .int 0 0] }).get? b = some o := fun b o e => Heap.get?_push_of_some _ e
  have hIn : ∀ b o, h.get? b = some o → b ∉ [h.objs.size] := fun b o e hm => by rw [List.mem_singleton.mp hm] at e; exact Nat.lt_irrefl _ (Heap.lt_size e)
  refine wpAny_pyIter_list hl ?_
  have hpl : pv.length = ps.length := StrsAre.size hps
  refine comp2_block .set (Walks.list rfl h.objs.size P (Nat.ne_of_lt hlt) pv.toArray) (fun D l h => SetX PySem.Challenge.rw_mq0154_01.row.prog w h D (l.map fun p => Txt.replace (strOf p.1) "*" (strOf p.2))) (fun v us => StrsAre us [Str.ofString "", Str.ofString "c", Str.ofString "ba"])
    ?_ ?_ (by intros; rfl) rfl (by intros; rfl) (by decide) rfl rfl rfl (by decide) ?_ ?_ ?_ ?_ ?_
  · intro Q' hQ
    refine wpAny_newSet_of (knd := PySem.strKind _ w) fun led _ => hQ _ _ _ (Nat.le_refl _) (fun b o e => Heap.get?_push_of_some _ e) ?_ ?_ (Nat.le_refl _) ?_
    · exact ⟨_, #[], 0, _, [], Heap.get?_push_size _ rfl, ⟨rfl, rfl, rfl⟩, rfl, by intro e he; simp at he, .nil, List.nodup_nil, by intro k; simp, Nat.le_refl _, by decide, by rfl, fun hh => absurd rfl hh⟩
    · exact Nat.lt_of_lt_of_eq (Nat.lt_succ_self _) (Heap.size_push ..).symm
    · exact Nat.le_of_lt (Nat.lt_of_lt_of_eq (Nat.lt_succ_self _) (Heap.size_push ..).symm)
  · exact fun D l h h' ha hk => ha.at hk
  · exact ⟨⟨_, Heap.get?_push_size _ rfl, rfl, rfl⟩, hl.push _⟩
  · intro b hb
    show b < (h.push _).objs.size
    rw [Heap.size_push]
    rcases List.mem_cons.mp hb with rfl | hb
    · exact Nat.lt_succ_self _
    · rw [List.mem_singleton.mp hb]; exact Nat.lt_succ_of_lt hlt
  · intro C D' i1 v s₃ m₃ E' hC0 hD0 hDC hi hPi hn hm hk htk hDe
    walk1
    walk1
    walk1
    walk1
    walk1
    walk1
    walk1
    walk1
    refine wpAny_newTuple ?_
    obtain ⟨T0, hT0⟩ : ∃ T0 : Nat, s₃.toks = T0 := ⟨_, rfl⟩
    have hT1 : @LE.le Nat _ 1 T0 := by rw [← hT0]; exact Nat.le_trans (Nat.le_trans hb1 hb) htk
    rw [hT0]
    obtain ⟨items, hit⟩ : ∃ items : List Value, items = [Value.str (Str.ofString "") T0, Value.str (Str.ofString "c") (T0 + 1), Value.str (Str.ofString "ba") (T0 + 1 + 1)] := ⟨_, rfl⟩
    rw [← hit]
    obtain ⟨x, tx, rfl, hx⟩ := StrsAre.at hps (i := i1) (v := v) (by simpa using hPi)
    have hg := hgood x (List.mem_of_getElem? hx)
    have hTt : (s₃.heap.push { cls := .type "tuple", data := .seq items.toArray }).IsTuple s₃.heap.objs.size items.toArray := ⟨_, Heap.get?_push_size _ rfl, rfl, 0, rfl⟩
    refine wpAny_pyIter_tuple hTt ?_
    have e1 : (s₃.heap.push { cls := .type "tuple", data := .seq items.toArray }).objs.size = s₃.heap.objs.size + 1 := Heap.size_push ..
    have up3 : ∀ b o, s₃.heap.get? b = some o → ((s₃.heap.push { cls := .type "tuple", data := .seq items.toArray }).push { cls := .type "tuple_iterator", data := .fields #[.ref s₃.heap.objs.size, .int 0 0] }).get? b = some o := fun b o e => Heap.get?_push_of_some _ (Heap.get?_push_of_some _ e)
    have nw : ∀ b, b ∈ [s₃.heap.objs.size + 1, s₃.heap.objs.size] → s₃.heap.get? b = none := fun b hb => Heap.get?_none_of_le (by
      simp only [List.mem_cons, List.not_mem_nil, or_false] at hb
      rcases hb with rfl | rfl
      · exact Nat.le_succ _
      · exact Nat.le_refl _)
    have hmem : ∀ (j : Nat) (u : Value), items[j]? = some u → ∃ (r : Str) (tr : Tok), u = .str r tr ∧ r.length ≤ 14 ∧ (Str.ofString "*" == r) = false ∧ @LE.le Nat _ 1 tr ∧ @LT.lt Nat _ tr (T0 + 3) := by
      intro j u hu
      rw [hit] at hu
      match j with
      | 0 => cases hu; exact ⟨_, _, rfl, by decide, by decide, by show @LE.le Nat _ 1 (T0 + 0); omega, by show @LT.lt Nat _ (T0 + 0) (T0 + 3); omega⟩
      | 1 => cases hu; exact ⟨_, _, rfl, by decide, by decide, by show @LE.le Nat _ 1 (T0 + 1); omega, by show @LT.lt Nat _ (T0 + 1) (T0 + 3); omega⟩
      | 2 => cases hu; exact ⟨_, _, rfl, by decide, by decide, by show @LE.le Nat _ 1 (T0 + 1 + 1); omega, by show @LT.lt Nat _ (T0 + 1 + 1) (T0 + 3); omega⟩
      | j + 3 => simp at hu
    rw [e1]
    refine ⟨_, _, s₃.heap.objs.size + 1, _, _, items.toArray.size, _, _, rfl, rfl, Walks.tuple rfl (s₃.heap.objs.size + 1) s₃.heap.objs.size (Nat.ne_of_lt (Nat.lt_succ_self _)) items.toArray, ?_, ?_, ?_, ?_, ?_, ?_, ?_, ?_⟩
    · exact ⟨⟨_, by rw [← e1]; exact Heap.get?_push_size _ rfl, rfl, rfl⟩, let ⟨o, ho, r⟩ := hTt; ⟨o, Heap.get?_push_of_some _ ho, r⟩⟩
    · exact up3
    · exact fun b hb => nw b (by rw [List.mem_singleton.mp hb]; exact .head _)
    · intro hm'
      obtain ⟨o, e⟩ := hDe
      rw [nw _ hm'] at e; cases e
    · intro hm'
      obtain ⟨o, e⟩ := hDe
      rw [nw _ (by rw [List.mem_singleton.mp hm']; exact .head _)] at e; cases e
    · intro hm'
      obtain ⟨o, _, _, e, _⟩ := hn
      rw [nw _ hm'] at e; cases e
    · intro us hus hP2
      have e : us = items := list_of_at (by simpa using hus) fun j v h => by simpa using hP2 j v h
      rw [e, hit]
      exact .cons _ _ (.cons _ _ (.cons _ _ .nil))
    · intro i2 u l s₆ m₆ E'' hi2 hPu ha6 hn6 hx6 hy6 hk6 htk6 hl6
      obtain ⟨r, tr, rfl, hr14, hrs, htr1, htr⟩ := hmem i2 u (by simpa using hPu)
      have hT6 : @LE.le Nat _ (T0 + 3) s₆.toks := htk6
      refine wpAny_bind ?_
      walk1
      refine nmL (env := compEnvC _ _ _ _) hn6 hx6 ?_
      walk1
      walk1
      walk1
      walk1
      walk1
      refine nmL (env := compEnvC _ _ _ _) hn6 hy6 ?_
      walk1
      refine SC.replaceW (Nat.ne_of_gt (show @LT.lt Nat _ 0 s₆.toks by omega)) (Nat.ne_of_gt htr1) (Nat.ne_of_gt (show @LT.lt Nat _ tr s₆.toks by omega)) hrs (by have := hg.1; omega) hr14 ?_
      intro t' k6
      refine wpAny_bind (wpAny_standAt ?_)
      refine wpAny_bind (set_add_x ha6 ?_ ?_)
      · obtain ⟨l0, us, hE0, hus, rfl⟩ := hl6
        have h1 := emitted3 hE0
        rw [List.length_map, List.length_append, List.length_map]
        have h2 : items.toArray.size = 3 := by rw [hit]; rfl
        have h3 : i1 < ps.length := by rw [← hpl]; simpa using hi
        omega
      · intro h7 tk7 hs7 hS7
        refine wpAny_pure ⟨h7, tk7, rfl, fun b o hb e => hs7.extBut b o hb e, ?_⟩
        rw [List.map_append]
        exact hS7
  · intro D C h' tk' m' l hD hC hDC hE ha' hn hk
    refine ⟨m', hn, fun h'' hs'' => ?_⟩
    dsimp only at hs''
    walk1
    have hkeys := keys3 (f := fun p q => Txt.replace p "*" q) hps hE
    have hl3 := emitted3 hE
    have hsz : pv.toArray.size = ps.length := by simpa using hpl
    have hD2 : C ≠ D := Ne.symm hDC
    refine sorted_set rfl (ha'.at fun o e => hs''.extBut _ _ hDC e) ⟨Txt.replace "a*a" "*" "", Txt.replace "a*a" "*" "c", (hkeys _).mpr ⟨_, ha, _, .head _, rfl⟩, (hkeys _).mpr ⟨_, ha, _, .tail _ (.head _), rfl⟩, by decide +kernel⟩ (by rw [List.length_map]; omega) ?_
    intro R h3 tk3 dr3 n ws ss hst hR0 hR hss hnd hmem hsorted hsl
    rw [List.length_map] at hsl
    dsimp only at hst hR0 ⊢
    have hk3 : ∀ c o, h.get? c = some o → h3.get? c = some o := fun c o e => hst _ _ (hs''.extBut _ _ (by rintro rfl; have := up _ _ e; rw [hC] at this; cases this) (hk c o (hIn c o e) (up c o e)))
    obtain ⟨hRL, hRL1⟩ := hs0.new (D := R) (by
      cases e : h.get? R with
      | none => rfl
      | some o =>
        have e2 := hs''.extBut _ _ (by rintro rfl; have := up _ _ e; rw [hC] at this; cases this) (hk R o (hIn R o e) (up R o e))
        rw [e2] at hR0; cases hR0)
    obtain ⟨oc, hoc, hocd⟩ := hc
    refine wpAny_storeName_cell (c := L + 1) rfl rfl rfl (v₀ := none) ⟨oc, hk3 _ _ hoc, hocd⟩ fun h4 hc4 hs4 => ?_
    dsimp only at hs4 ⊢
    intro htkb
    have hL1 : s.heap.get? (L + 1) = none := Heap.get?_none_of_le (Nat.le_succ_of_le F.above)
    have hk4 : ∀ c o, c ≠ L + 1 → h.get? c = some o → h4.get? c = some o := fun c o hc e => hs4.extBut c o hc (hk3 c o e)
    refine ⟨trivial, R, ws, ss, ⟨h4, _, dr3, u, rfl, htkb, ⟨F.ns.at' fun o e => hk4 _ o (Nat.ne_of_lt (Nat.lt_succ_self L)) e, fun c o e => hk4 c o (fun q => by rw [q, hL1] at e; cases e) (F.keep c o e), F.above⟩, hc4, hnm, ?_⟩, hss, hnd, hsorted, by omega, fun k => (hmem k).trans (hkeys k)⟩
    intro p hp
    rcases List.mem_cons.mp hp with rfl | hp
    · exact ⟨hRL, hRL1, n, hs4.extBut _ _ hRL1 hR⟩
    · obtain ⟨h1, h2, n, h3⟩ := hls p hp
      exact ⟨h1, h2, n, hk4 _ _ h2 h3⟩
  · exact fun D l h ⟨o, _, _, _, _, ho, _⟩ => ⟨o, ho⟩
end
end Mine

/- part MLaw5 -/
theorem Mine.offMLaw5 : True := by
  w_top off
  trivial
namespace Mine
open PySem PySem.Spec PySem.Calls PySem.W PyProof.Rows PySem.Builtin PySem.Builtin.Str
set_option maxHeartbeats 1000000
theorem fillL5 (w : World) : (hd.heap_39 w.params) = (hd.heap_39 w.params) ∧ PySem.Challenge.rw_mq0154_01.prog = PySem.Challenge.rw_mq0154_01.prog := by k_fill; exact ⟨rfl, rfl⟩
section
variable {w : World} {mean : ExcName → Option Value} {mg mb : Str → Option Value} {dp un : Nat} {gd : Option (List Code)} {L fa : Addr} {cdv : Value} {s : Shared} {E : Value → Shared → Prop}
local macro_rules | `(tactic| walk_at "call ref") => `(tactic| refine Stop.out ?_)
theorem law_5 (X : (hd.heap_39 w.params).In s.heap) (T : Top hd.view_39 (looseW hd.view_39 []) mean mg mb s.heap) (hdp : dp < recursionLimit) (P : Addr) (pv : List Value) (ps : List Str) (hps : StrsAre pv ps) (hlen : ps.length ≤ 1000) (hgood : ∀ p ∈ ps, p.length ≤ 1000)
    (Dt : Addr) (tv : List Value) (ts : List Str) (hts : StrsAre tv ts) (htl : ts.length ≤ 1000) (htg : ∀ t ∈ ts, t.length ≤ 1000) (b : Nat) (nm : List (Str × Value)) (ls : List (Addr × List Value)) (hP : ((Str.ofString "dotted", Value.ref P) : Str × Value) ∈ nm) (hPl : (P, pv) ∈ ls) (hTl : (Dt, tv) ∈ ls)
    (hne : ∀ p ∈ nm, p.1 ≠ "taken") (st : Stmt) (hst : lawBody[4]? = some st) (s' : Shared) (hs' : LSt s L b nm ls (some (.ref Dt)) s') :
    wpAny (model PySem.Challenge.rw_mq0154_01.row.prog w) (aTop dp un gd [lawEnv L fa cdv]) (exec st (lawEnv L fa cdv))
      (fun f s'' => f = .next ∧ ∃ R rs, LSt s L b (("taken", .ref R) :: nm) ((R, rs.map fun r => Value.ref r.1) :: (rs ++ ls)) (some (.ref Dt)) s'' ∧ Paired (fun v (r : Addr × List Value) => ∃ x t, v = .str x t ∧ StrsAre r.2 (ts.filter (emB x))) pv rs) E s' := by
  cases hst
  have hs0 := hs'
  obtain ⟨h, tk, dr, u, rfl, hb, F, hc, hnm, hls⟩ := hs'
  have hu := hnm _ hP
  refine wpAny_with_toks (n := b) hb ?_
  have hl := hs0.list hPl
  have hlT := hs0.list hTl
  dsimp only at hl hlT
  refine comp_cells (cl := [(Str.ofString "texts", L + 1)]) (vs := pv) (lst := P) (fun v ws => ∃ x t, v = .str x t ∧ StrsAre ws (ts.filter (emB x))) rfl (by with_unfolding_all rfl) (by with_unfolding_all rfl) (by rfl) (by decide) (by intro n; rfl) (by intro h; rfl) (by intro C cl'; rfl) (by rfl) (by rfl) (by intro v; rfl)
    (fun Q' hq => nmL F.ns hu hq) hl (by rw [sizeLine_eq]; have := StrsAre.size hps; omega) F.ns ?_ ?_
  · intro i v C s₃ E' hv hst htk hcell
    dsimp only at hst
    obtain ⟨x, tx, rfl, hx⟩ := StrsAre.at hps (i := i) (v := v) hv
    have hxl := hgood x (List.mem_of_getElem? hx)
    have hc3 : s₃.heap.IsCell (L + 1) (some (.ref Dt)) := hc.keeps hst
    have hl3 : s₃.heap.IsList Dt tv.toArray := hlT.at fun o e => hst _ _ e
    have X3 := X.keeps fun b o e => hst b o (F.keep b o e)
    have T3 := T.keeps fun b o e => hst b o (F.keep b o e)
    refine wpAny_ListComp_free (cl := [(Str.ofString "want", C + 1)]) (fun v => emB x (strOf v)) (fun v y => y = v) (by with_unfolding_all rfl) (by decide) (by rfl) (by decide) (by rfl) ?_
    refine nmC hc3 ?_
    have hlt : Dt < s₃.heap.objs.size := by obtain ⟨o, e, _⟩ := hl3; exact Heap.lt_size e
    have up : ∀ b o, s₃.heap.get? b = some o → (s₃.heap.push { cls := .type "list_iterator", data := .fields #[.ref Dt, .int 0 0] }).get? b = some o := fun b o e => Heap.get?_push_of_some _ e
    have hIn : ∀ b o, s₃.heap.get? b = some o → b ∉ [s₃.heap.objs.size] := fun b o e hm => by rw [List.mem_singleton.mp hm] at e; exact Nat.lt_irrefl _ (Heap.lt_size e)
    refine wpAny_pyIter_list hl3 ?_
    refine ⟨_, _, _, _, _, _, rfl, Walks.list rfl s₃.heap.objs.size Dt (Nat.ne_of_lt hlt) tv.toArray, ?_, ⟨⟨_, Heap.get?_push_size _ rfl, rfl, rfl⟩, hl3.push _⟩, ?_, ⟨?_, ?_⟩, ?_⟩
    · rw [sizeLine_eq]
      have := StrsAre.size hts
      simp only [List.size_toArray]; omega
    · intro b hb
      show b < (s₃.heap.push _).objs.size
      rw [Heap.size_push]
      rcases List.mem_cons.mp hb with rfl | hb
      · exact Nat.lt_succ_self _
      · rw [List.mem_singleton.mp hb]; exact Nat.lt_succ_of_lt hlt
    · intro C2 j v2 s4 m4 E2 hC2 hP2 hn hm hk htk4
      obtain ⟨t, tt, rfl, ht⟩ := StrsAre.at hts (i := j) (v := v2) (by simpa using hP2)
      have htl2 := htg t (List.mem_of_getElem? ht)
      have hk4 : ∀ b o, s₃.heap.get? b = some o → s4.heap.get? b = some o := fun b o e => hk _ _ (hIn _ _ e) (up _ _ e)
      have hw4 : s4.heap.IsCell (C + 1) (some (.str x tx)) := hcell.keeps hk4
      have X4 := X3.keeps hk4
      have T4 := T3.keeps hk4
      clear hk hls hnm hst hs0 X3 T3 X T
      refine wpAny_tests_one ?_
      walk1
      walk1
      refine nmG X4 T4 (by k_is) ?_
      walk1
      walk1
      refine nmC hw4 ?_
      walk1
      refine nmL (env := compEnvC _ _ _ _) hn hm ?_
      walk1
      refine ⟨X4, em_spec X4 T4 hdp x t tx tt hxl htl2 ?_⟩
      intro h5 tk5 hst5
      exact wpAny_truthy_bool ⟨rfl, _, _, rfl, hst5⟩
    · intro C2 j v2 s4 m4 E2 hC2 hP2 hpv hn hm hk htk4
      exact nmL (env := compEnvC _ _ _ _) hn hm ⟨rfl, _, _, rfl, fun _ _ e => e⟩
    · intro D h' tk' ys ws hD hls' hpl hlen' hP2 hpair hk
      have e1 : ws = tv := list_of_at (by simpa using hlen') fun j v h => by simpa using hP2 j v h
      subst e1
      have e2 := paired_eq hpair
      obtain ⟨n, hpl⟩ := hpl
      refine ⟨h', tk', D, ys.toList, n, rfl, fun b o e => hk _ _ (hIn _ _ e) (up _ _ e), rfl, ?_, by simpa [lsO] using hpl, x, tx, rfl, ?_⟩
      · cases e : s₃.heap.get? D with
        | none => rfl
        | some o => have := up _ _ e; rw [hD] at this; cases this
      · rw [e2]; exact StrsAre.filter (emB x) hts
  · intro D h' tk' n rs hD0 hpair hDl hrs hns hk htk htkb
    dsimp only at hD0 hrs hk ⊢
    obtain ⟨hDL, hDL1⟩ := hs0.new (D := D) hD0
    have hL0 : s.heap.get? L = none := Heap.get?_none_of_le F.above
    refine ⟨rfl, D, rs, ⟨h', tk', dr, _, rfl, htkb, ⟨hns, fun c o e => hk c o (fun q => by have q' : c = L := q; rw [q', hL0] at e; cases e) (F.keep c o e), F.above⟩, ?_, ?_, ?_⟩, hpair⟩
    · obtain ⟨o, ho, hd⟩ := hc
      exact ⟨o, hk _ _ (Nat.ne_of_gt (Nat.lt_succ_self L)) ho, hd⟩
    · intro p hp
      rcases List.mem_cons.mp hp with rfl | hp
      · simp
      · show (if p.1 = _ then _ else u p.1) = _; rw [if_neg (hne p hp)]; exact hnm p hp
    · intro p hp
      rcases List.mem_cons.mp hp with rfl | hp
      · exact ⟨hDL, hDL1, n, hDl⟩
      · rcases List.mem_append.mp hp with hp | hp
        · obtain ⟨q0, k, q1⟩ := hrs p hp
          obtain ⟨q2, q3⟩ := hs0.new (D := p.1) q0
          exact ⟨q2, q3, k, q1⟩
        · obtain ⟨h1, h2, n, h3⟩ := hls p hp
          exact ⟨h1, h2, n, hk _ _ h1 h3⟩
theorem law_6 (X : (hd.heap_39 w.params).In s.heap) (T : Top hd.view_39 (looseW hd.view_39 []) mean mg mb s.heap) (hdp : dp < recursionLimit) (P : Addr) (pv : List Value) (ps : List Str) (hps : StrsAre pv ps) (hlen : ps.length ≤ 1000) (hgood : ∀ p ∈ ps, p.length ≤ 1000)
    (Dt : Addr) (tv : List Value) (ts : List Str) (hts : StrsAre tv ts) (htl : ts.length ≤ 1000) (htg : ∀ t ∈ ts, t.length ≤ 1000) (b : Nat) (nm : List (Str × Value)) (ls : List (Addr × List Value)) (hP : ((Str.ofString "patterns", Value.ref P) : Str × Value) ∈ nm) (hPl : (P, pv) ∈ ls) (hTl : (Dt, tv) ∈ ls)
    (hne : ∀ p ∈ nm, p.1 ≠ "meant") (st : Stmt) (hst : lawBody[5]? = some st) (s' : Shared) (hs' : LSt s L b nm ls (some (.ref Dt)) s') :
    wpAny (model PySem.Challenge.rw_mq0154_01.row.prog w) (aTop dp un gd [lawEnv L fa cdv]) (exec st (lawEnv L fa cdv))
      (fun f s'' => f = .next ∧ ∃ R rs, LSt s L b (("meant", .ref R) :: nm) ((R, rs.map fun r => Value.ref r.1) :: (rs ++ ls)) (some (.ref Dt)) s'' ∧ Paired (fun v (r : Addr × List Value) => ∃ x t, v = .str x t ∧ StrsAre r.2 (ts.filter (takesB x))) pv rs) E s' := by
  cases hst
  have hs0 := hs'
  obtain ⟨h, tk, dr, u, rfl, hb, F, hc, hnm, hls⟩ := hs'
  have hu := hnm _ hP
  refine wpAny_with_toks (n := b) hb ?_
  have hl := hs0.list hPl
  have hlT := hs0.list hTl
  dsimp only at hl hlT
  refine comp_cells (cl := [(Str.ofString "texts", L + 1)]) (vs := pv) (lst := P) (fun v ws => ∃ x t, v = .str x t ∧ StrsAre ws (ts.filter (takesB x))) rfl (by with_unfolding_all rfl) (by with_unfolding_all rfl) (by rfl) (by decide) (by intro n; rfl) (by intro h; rfl) (by intro C cl'; rfl) (by rfl) (by rfl) (by intro v; rfl)
    (fun Q' hq => nmL F.ns hu hq) hl (by rw [sizeLine_eq]; have := StrsAre.size hps; omega) F.ns ?_ ?_
  · intro i v C s₃ E' hv hst htk hcell
    dsimp only at hst
    obtain ⟨x, tx, rfl, hx⟩ := StrsAre.at hps (i := i) (v := v) hv
    have hxl := hgood x (List.mem_of_getElem? hx)
    have hc3 : s₃.heap.IsCell (L + 1) (some (.ref Dt)) := hc.keeps hst
    have hl3 : s₃.heap.IsList Dt tv.toArray := hlT.at fun o e => hst _ _ e
    have X3 := X.keeps fun b o e => hst b o (F.keep b o e)
    have T3 := T.keeps fun b o e => hst b o (F.keep b o e)
    refine wpAny_ListComp_free (cl := [(Str.ofString "pattern", C + 1)]) (fun v => takesB x (strOf v)) (fun v y => y = v) (by with_unfolding_all rfl) (by decide) (by rfl) (by decide) (by rfl) ?_
    refine nmC hc3 ?_
    have hlt : Dt < s₃.heap.objs.size := by obtain ⟨o, e, _⟩ := hl3; exact Heap.lt_size e
    have up : ∀ b o, s₃.heap.get? b = some o → (s₃.heap.push { cls := .type "list_iterator", data := .fields #[.ref Dt, .int 0 0] }).get? b = some o := fun b o e => Heap.get?_push_of_some _ e
    have hIn : ∀ b o, s₃.heap.get? b = some o → b ∉ [s₃.heap.objs.size] := fun b o e hm => by rw [List.mem_singleton.mp hm] at e; exact Nat.lt_irrefl _ (Heap.lt_size e)
    refine wpAny_pyIter_list hl3 ?_
    refine ⟨_, _, _, _, _, _, rfl, Walks.list rfl s₃.heap.objs.size Dt (Nat.ne_of_lt hlt) tv.toArray, ?_, ⟨⟨_, Heap.get?_push_size _ rfl, rfl, rfl⟩, hl3.push _⟩, ?_, ⟨?_, ?_⟩, ?_⟩
    · rw [sizeLine_eq]
      have := StrsAre.size hts
      simp only [List.size_toArray]; omega
    · intro b hb
      show b < (s₃.heap.push _).objs.size
      rw [Heap.size_push]
      rcases List.mem_cons.mp hb with rfl | hb
      · exact Nat.lt_succ_self _
      · rw [List.mem_singleton.mp hb]; exact Nat.lt_succ_of_lt hlt
    · intro C2 j v2 s4 m4 E2 hC2 hP2 hn hm hk htk4
      obtain ⟨t, tt, rfl, ht⟩ := StrsAre.at hts (i := j) (v := v2) (by simpa using hP2)
      have htl2 := htg t (List.mem_of_getElem? ht)
      have hk4 : ∀ b o, s₃.heap.get? b = some o → s4.heap.get? b = some o := fun b o e => hk _ _ (hIn _ _ e) (up _ _ e)
      have hw4 : s4.heap.IsCell (C + 1) (some (.str x tx)) := hcell.keeps hk4
      have X4 := X3.keeps hk4
      have T4 := T3.keeps hk4
      clear hk hls hnm hst hs0 X3 T3 X T
      refine wpAny_tests_one ?_
      walk1
      walk1
      refine nmG X4 T4 (by k_is) ?_
      walk1
      walk1
      refine nmC hw4 ?_
      walk1
      refine nmL (env := compEnvC _ _ _ _) hn hm ?_
      walk1
      refine ⟨X4, takes_spec X4 T4 hdp x t tx tt hxl htl2 ?_⟩
      intro h5 tk5 hst5
      exact wpAny_truthy_bool ⟨rfl, _, _, rfl, hst5⟩
    · intro C2 j v2 s4 m4 E2 hC2 hP2 hpv hn hm hk htk4
      exact nmL (env := compEnvC _ _ _ _) hn hm ⟨rfl, _, _, rfl, fun _ _ e => e⟩
    · intro D h' tk' ys ws hD hls' hpl hlen' hP2 hpair hk
      have e1 : ws = tv := list_of_at (by simpa using hlen') fun j v h => by simpa using hP2 j v h
      subst e1
      have e2 := paired_eq hpair
      obtain ⟨n, hpl⟩ := hpl
      refine ⟨h', tk', D, ys.toList, n, rfl, fun b o e => hk _ _ (hIn _ _ e) (up _ _ e), rfl, ?_, by simpa [lsO] using hpl, x, tx, rfl, ?_⟩
      · cases e : s₃.heap.get? D with
        | none => rfl
        | some o => have := up _ _ e; rw [hD] at this; cases this
      · rw [e2]; exact StrsAre.filter (takesB x) hts
  · intro D h' tk' n rs hD0 hpair hDl hrs hns hk htk htkb
    dsimp only at hD0 hrs hk ⊢
    obtain ⟨hDL, hDL1⟩ := hs0.new (D := D) hD0
    have hL0 : s.heap.get? L = none := Heap.get?_none_of_le F.above
    refine ⟨rfl, D, rs, ⟨h', tk', dr, _, rfl, htkb, ⟨hns, fun c o e => hk c o (fun q => by have q' : c = L := q; rw [q', hL0] at e; cases e) (F.keep c o e), F.above⟩, ?_, ?_, ?_⟩, hpair⟩
    · obtain ⟨o, ho, hd⟩ := hc
      exact ⟨o, hk _ _ (Nat.ne_of_gt (Nat.lt_succ_self L)) ho, hd⟩
    · intro p hp
      rcases List.mem_cons.mp hp with rfl | hp
      · simp
      · show (if p.1 = _ then _ else u p.1) = _; rw [if_neg (hne p hp)]; exact hnm p hp
    · intro p hp
      rcases List.mem_cons.mp hp with rfl | hp
      · exact ⟨hDL, hDL1, n, hDl⟩
      · rcases List.mem_append.mp hp with hp | hp
        · obtain ⟨q0, k, q1⟩ := hrs p hp
          obtain ⟨q2, q3⟩ := hs0.new (D := p.1) q0
          exact ⟨q2, q3, k, q1⟩
        · obtain ⟨h1, h2, n, h3⟩ := hls p hp
          exact ⟨h1, h2, n, hk _ _ h1 h3⟩
end
end Mine

/- part MLaw7 -/
theorem Mine.offMLaw7 : True := by
  w_top off
  trivial
namespace Mine
open PySem PySem.Spec PySem.Calls PySem.W PyProof.Rows PySem.Builtin PySem.Builtin.Str
set_option maxHeartbeats 1000000
def KB (L : Addr) (h h' : Heap) : Prop := ∀ b o, b ≠ L → h.get? b = some o → h'.get? b = some o
theorem KB.trans {L : Addr} {a b c : Heap} (x : KB L a b) (y : KB L b c) : KB L a c := fun d o hd e => y d o hd (x d o hd e)
theorem KB.refl {L : Addr} {a : Heap} : KB L a a := fun _ _ _ e => e

theorem LSt.keepBut {s : Shared} {L I : Addr} {b b' : Nat} {nm : List (Str × Value)} {ls : List (Addr × List Value)} {tx : Option Value} {s' s'' : Shared} (x : LSt s L b nm ls tx s') (hI0 : s.heap.get? I = none) (hIL : I ≠ L) (hIL1 : I ≠ L + 1) (hIl : ∀ p ∈ ls, p.1 ≠ I)
    (hk : ∀ c o, c ≠ I → s'.heap.get? c = some o → s''.heap.get? c = some o) (hg : s''.gens = s'.gens) (ho : s''.os = s'.os) (hb : b' ≤ s''.toks) : LSt s L b' nm ls tx s'' := by
  obtain ⟨h, tk, dr, u, rfl, hb0, F, hc, hnm, hls⟩ := x
  obtain ⟨h', g', dr', tk', o'⟩ := s''
  simp only at hk hg ho hb
  subst hg ho
  refine ⟨h', tk', dr', u, rfl, hb, ⟨F.ns.at' fun o e => hk _ o (Ne.symm hIL) e, fun c o e => hk c o (by rintro rfl; rw [hI0] at e; cases e) (F.keep c o e), F.above⟩, ?_, hnm, fun p hp => ?_⟩
  · obtain ⟨o, e, d⟩ := hc; exact ⟨o, hk _ _ (Ne.symm hIL1) e, d⟩
  · obtain ⟨h1, h2, n, h3⟩ := hls p hp; exact ⟨h1, h2, n, hk _ _ (hIl p hp) h3⟩

section
variable {w : World} {mean : ExcName → Option Value} {mg mb : Str → Option Value} {dp un : Nat} {gd : Option (List Code)} {L fa : Addr} {cdv : Value} {s : Shared} {prog : Program} {A : Around} {E : Value → Shared → Prop}
theorem law_store' {x : Str} {v : Value} {b : Nat} {nm : List (Str × Value)} {ls : List (Addr × List Value)} {tx : Option Value} {s' : Shared} {M : Model} {Q : Unit → Shared → Prop} (hx : (lawEnv L fa cdv).kindOf x = some .local) (hl : LSt s L b nm ls tx s') (hne : ∀ p ∈ nm, p.1 ≠ x)
    (hQ : ∀ s'', LSt s L (b + 1) ((x, v) :: nm) ls tx s'' → KB L s'.heap s''.heap → Q () s'') : wpAny M A (storeName (lawEnv L fa cdv) x v) Q E s' := by
  obtain ⟨h, tk, dr, u, rfl, hb0, F, hc, hnm, hls⟩ := hl
  have hc0 : s.heap.get? (L + 1) = none := Heap.get?_none_of_le (Nat.le_succ_of_le F.above)
  have hL0 : s.heap.get? L = none := Heap.get?_none_of_le F.above
  refine wpAny_storeName_local hx F.ns fun h' hn' hs' => hQ _ ⟨h', _, dr, _, rfl, Nat.succ_le_succ hb0, ⟨hn', fun c o e => hs'.extBut c o (fun q => by have q' : c = L := q; rw [q', hL0] at e; cases e) (F.keep c o e), F.above⟩, hc.sameBut hs' (Nat.ne_of_gt (Nat.lt_succ_self L)), ?_, fun p hp => ?_⟩
    (fun c o hc e => hs'.extBut c o hc e)
  · intro p hp
    rcases List.mem_cons.mp hp with rfl | hp
    · simp
    · show (if p.1 = x then some v else u p.1) = _; rw [if_neg (hne p hp)]; exact hnm p hp
  · obtain ⟨h1, h2, n, h3⟩ := hls p hp
    exact ⟨h1, h2, n, hs'.extBut _ _ h1 h3⟩

theorem law_for {x : Str} {px : Pos} {body : List Stmt} {n : Nat} {s' : Shared} {nm : List (Str × Value)} {ls : List (Addr × List Value)} {tx : Option Value} {R : Addr} {t1 t2 t3 : Tok} {Q : Flow → Shared → Prop} (hh : A.handled = none)
    (hr : IsRange s'.heap R 0 n 1 t1 t2 t3) (hn : n ≤ 1000) (hl : LSt s L 0 nm ls tx s') (hx : (lawEnv L fa cdv).kindOf x = some .local) (hne : ∀ p ∈ nm, p.1 ≠ x)
    (turn : ∀ (i : Nat) s₁ t E', i < n → LSt s L 0 ((x, .int i t) :: nm) ls tx s₁ → KB L s'.heap s₁.heap → wpAny (model prog w) A (execs body (lawEnv L fa cdv)) (fun f s₂ => f = .next ∧ LSt s L 0 nm ls tx s₂ ∧ KB L s₁.heap s₂.heap) E' s₁)
    (done : ∀ s₂, LSt s L 0 nm ls tx s₂ → KB L s'.heap s₂.heap → Q .next s₂) :
    wpAny (model prog w) A (pyIter (.ref R)) (fun it s₂ => codeAny (model prog w) A (.forLoop (.Name x px) it body [] (lawEnv L fa cdv)) (fun r s' => match r with | .ok f => Q f s' | .error e => cameBackBy (model prog w) A (lawEnv L fa cdv) E e s') s₂) E s' := by
  refine wpAny_pyIter_range hr (small_one (by omega) (by omega) (by omega) (by omega)) ?_
  have W := Walks.range (prog := prog) (w := w) hh s'.heap.objs.size 0 1 n
  have hI : s'.heap.get? s'.heap.objs.size = none := Heap.get?_none_of_le (Nat.le_refl _)
  obtain ⟨hIL, hIL1⟩ := hl.new hI
  have hI0 : s.heap.get? s'.heap.objs.size = none := by
    obtain ⟨h, tk, dr, u, rfl, hb0, F, hc, hnm, hls⟩ := hl
    cases e : s.heap.get? h.objs.size with
    | none => rfl
    | some o => have := F.keep _ _ e; rw [show h.get? h.objs.size = none from hI] at this; cases this
  have hIl : ∀ p ∈ ls, p.1 ≠ s'.heap.objs.size := fun p hp q => by
    obtain ⟨h, tk, dr, u, rfl, hb0, F, hc, hnm, hls⟩ := hl
    obtain ⟨_, _, k, e⟩ := hls p hp
    rw [q, show h.get? h.objs.size = none from hI] at e; cases e
  have hsz : Builtin.Range.rangeSize 0 n 1 = n := by rw [rangeSize_one]; split <;> omega
  have up : ∀ b o, s'.heap.get? b = some o → (s'.heap.push { cls := .type "range_iterator", data := .fields #[rawInt 0, rawInt (Builtin.Range.rangeSize 0 n 1), rawInt 1] }).get? b = some o := fun b o e => Heap.get?_push_of_some _ e
  have ltI : ∀ b o, s'.heap.get? b = some o → b ≠ s'.heap.objs.size := fun b o e q => by rw [q, hI] at e; cases e
  generalize hIn : s'.heap.objs.size = I at *
  refine codeAny_forLoop_any (fun k s₁ => ∃ i, i ≤ n ∧ k = n + 1 - i ∧ IsRangeIter s₁.heap I (0 + (i : Nat) * 1) ((n : Int) - (i : Nat)) 1 ∧ LSt s L 0 nm ls tx s₁ ∧ KB L s'.heap s₁.heap) ?_ (n + 1) ⟨0, Nat.zero_le _, rfl, ?_, ?_, fun b o _ e => up b o e⟩
  · rintro k s₁ ⟨i, hi, rfl, hst, hls, hkb⟩
    by_cases hlt : i < n
    · refine W.item i s₁ _ _ hlt hst fun v h₁ tk₁ hP hst₁ hk₁ => ?_
      obtain ⟨tv, rfl⟩ := hP
      have ev : (0 : Int) + (i : Int) * 1 = (i : Int) := by omega
      have hk₁' : ∀ c o, c ≠ I → s₁.heap.get? c = some o → h₁.get? c = some o := fun c o hc e => hk₁ c o (fun hm => hc (List.mem_singleton.mp hm)) e
      have hls₁ : LSt s L 0 nm ls tx { s₁ with heap := h₁, toks := tk₁ } := hls.keepBut (b' := 0) hI0 hIL hIL1 hIl hk₁' rfl rfl (Nat.zero_le _)
      dsimp only
      refine wpAny_pure ?_
      refine wpAny_assign_Name (law_store' hx hls₁ hne fun s₂ hl₂ hk₂ => ?_)
      rw [ev] at hl₂
      dsimp only at hk₂
      refine wpAny_mono (turn i s₂ tv _ hlt (hl₂.less (Nat.zero_le _) (fun p hp => hp) (fun p hp => hp)) (fun b o hb e => hk₂ b o hb (hk₁' b o (ltI b o e) (hkb b o hb e)))) (fun f s₃ h₃ => ?_) fun _ _ e => e
      obtain ⟨rfl, hl₃, hk₃⟩ := h₃
      exact ⟨n + 1 - (i + 1), by omega, i + 1, hlt, rfl, W.frame _ _ _ hst₁ fun b hb o e => hk₃ b o (by rw [List.mem_singleton.mp hb]; exact hIL) (hk₂ b o (by rw [List.mem_singleton.mp hb]; exact hIL) e), hl₃,
        fun b o hb e => hk₃ b o hb (hk₂ b o hb (hk₁' b o (ltI b o e) (hkb b o hb e)))⟩
    · have hin : i = n := by omega
      subst hin
      refine W.done s₁ _ _ hst fun h₁ tk₁ hk₁ => ?_
      have hk₁' : ∀ c o, c ≠ I → s₁.heap.get? c = some o → h₁.get? c = some o := fun c o hc e => hk₁ c o (fun hm => hc (List.mem_singleton.mp hm)) e
      refine execs_nil' ?_
      exact done _ (hls.keepBut (b' := 0) hI0 hIL hIL1 hIl hk₁' rfl rfl (Nat.zero_le _)) fun b o hb e => hk₁' b o (ltI b o e) (hkb b o hb e)
  · have e0 : (0 : Int) + ((0 : Nat) : Int) * 1 = 0 := by simp
    have e1 : (n : Int) - ((0 : Nat) : Int) = (n : Int) := by simp
    rw [e0, e1, ← hIn]
    have e2 := Heap.get?_push_size (o := { cls := .type "range_iterator", data := .fields #[rawInt 0, rawInt (Builtin.Range.rangeSize 0 n 1), rawInt 1] }) s'.heap rfl
    exact e2.trans (by rw [hsz])
  · exact hl.keep (s'' := { s' with heap := s'.heap.push { cls := .type "range_iterator", data := .fields #[rawInt 0, rawInt (Builtin.Range.rangeSize 0 n 1), rawInt 1] } }) up rfl rfl (Nat.zero_le _)
end
end Mine

/- part MLaw8 -/
theorem Mine.offMLaw8 : True := by
  w_top off
  trivial
namespace Mine
open PySem PySem.Spec PySem.Calls PySem.W PyProof.Rows PySem.Builtin PySem.Builtin.Str
set_option maxHeartbeats 1000000
theorem fillL8 (w : World) : (hd.heap_39 w.params) = (hd.heap_39 w.params) ∧ PySem.Challenge.rw_mq0154_01.prog = PySem.Challenge.rw_mq0154_01.prog := by k_fill; exact ⟨rfl, rfl⟩
def innerBody : List Stmt := match (lawBody[6]? : Option Stmt) with
  | some (Stmt.For _ _ [Stmt.For _ _ b _ _] _ _) => b
  | _ => []
theorem innerBody_len : innerBody.length = 5 := rfl
section
variable {w : World} {mean : ExcName → Option Value} {mg mb : Str → Option Value} {dp un : Nat} {gd : Option (List Code)} {L fa : Addr} {cdv : Value} {s : Shared} {E : Value → Shared → Prop}
theorem body_1 (X : (hd.heap_39 w.params).In s.heap) (T : Top hd.view_39 (looseW hd.view_39 []) mean mg mb s.heap) (hdp : dp < recursionLimit) (nm : List (Str × Value)) (ls : List (Addr × List Value)) (tx : Option Value)
    (TK : Addr) (tks : List Value) (i j : Nat) (t1 t2 : Tok) (hT : ((Str.ofString "taken", Value.ref TK) : Str × Value) ∈ nm) (hTl : (TK, tks) ∈ ls) (h1 : ((Str.ofString "one", Value.int i t1) : Str × Value) ∈ nm) (h2 : ((Str.ofString "other", Value.int j t2) : Str × Value) ∈ nm)
    (ai aj : Addr) (wi wj : List Value) (ti tj : List Str) (hai : tks[i]? = some (.ref ai)) (haj : tks[j]? = some (.ref aj)) (hi : i < 1000) (hj : j < 1000) (hwi : (ai, wi) ∈ ls) (hwj : (aj, wj) ∈ ls) (si : StrsAre wi ti) (sj : StrsAre wj tj)
    (hn1 : ti.length ≤ 1000) (hn2 : tj.length ≤ 1000) (ho1' : ∀ (i : Nat) x y, ti[i]? = some x → ti[i + 1]? = some y → x ≠ y) (ho2' : ∀ (i : Nat) x y, tj[i]? = some x → tj[i + 1]? = some y → x ≠ y)
    (hne : ∀ p ∈ nm, p.1 ≠ "missing" ∧ p.1 ≠ "unexpected") (st : Stmt) (hst : innerBody[0]? = some st) (s' : Shared) (hs' : LSt s L 0 nm ls tx s') :
    wpAny (model PySem.Challenge.rw_mq0154_01.row.prog w) (aTop dp un gd [lawEnv L fa cdv]) (exec st (lawEnv L fa cdv))
      (fun f s'' => f = .next ∧ ∃ D1 D2 ms us, LSt s L 0 (("unexpected", .ref D2) :: ("missing", .ref D1) :: nm) ((D1, ms) :: (D2, us) :: ls) tx s'' ∧ StrsAre ms (sdiff ti tj).1 ∧ StrsAre us (sdiff ti tj).2 ∧ KB L s'.heap s''.heap) E s' := by
  cases hst
  have hs0 := hs'
  obtain ⟨h, tk, dr, u, rfl, hb, F, hc, hnm, hls⟩ := hs'
  have X1 := X.keeps F.keep
  have T1 := T.keeps F.keep
  walk1
  walk1
  refine nmG X1 T1 (by k_is) ?_
  walk1
  walk1
  walk1
  refine nmL F.ns (hnm _ hT) ?_
  refine nmL F.ns (hnm _ h1) ?_
  refine item_inX (hs0.list hTl) (by omega) (by omega) (x := .ref ai) (by rw [List.getElem?_toArray, Int.toNat_natCast]; exact hai) ?_
  walk1
  walk1
  refine nmL F.ns (hnm _ hT) ?_
  refine nmL F.ns (hnm _ h2) ?_
  refine item_inX (hs0.list hTl) (by omega) (by omega) (x := .ref aj) (by rw [List.getElem?_toArray, Int.toNat_natCast]; exact haj) ?_
  walk1
  have hL0 : s.heap.get? L = none := Heap.get?_none_of_le F.above
  obtain ⟨oL, es, ep, hoL, hdL, hns'⟩ := id F.ns
  have B : Below (aTop dp un gd [lawEnv L fa cdv]) s.heap [lawEnv L fa cdv] h := ⟨rfl, F.keep, .cons (by show ¬ (_ = ScopeKind.module); exact ScopeKind.noConfusion) rfl F.ns hL0 trivial⟩
  refine ⟨X1, sld_spec (base := s.heap) (o1 := oL) (L1 := L) B X T rfl rfl hoL (by rw [hdL]; intro vs q; cases q) (by rw [hdL]; intro xs n q; cases q) hdp ai aj wi wj ti tj (hs0.list hwi) (hs0.list hwj) si sj hn1 hn2 ho1' ho2' ?_⟩
  intro h' tk' Tt E1 E2 n1 n2 ms us hk hsl hTt hE1 hE2 hTt0 hE10 hE20 hlt1 hlt2 hms hus
  obtain ⟨sl, hsl⟩ := hsl
  dsimp only at hk hTt0 hE10 hE20 ⊢
  have hKB : KB L h h' := hk
  have F' : Fr s.heap L h' u := ⟨⟨_, es, ep, hsl, hdL, hns'⟩, fun c o e => hk c o (fun q => by rw [q, hL0] at e; cases e) (F.keep c o e), F.above⟩
  have hs1 : LSt s L 0 nm ls tx { heap := h', gens := s.gens, drawn := dr, toks := tk', os := s.os } :=
    ⟨h', tk', dr, u, rfl, Nat.zero_le _, F', by obtain ⟨o, ho, hd⟩ := hc; exact ⟨o, hk _ _ (Nat.ne_of_gt (Nat.lt_succ_self L)) ho, hd⟩, hnm, fun p hp => by obtain ⟨h1, h2, n, h3⟩ := hls p hp; exact ⟨h1, h2, n, hk _ _ h1 h3⟩⟩
  obtain ⟨hE1L, hE1L1⟩ := hs0.new (D := E1) hE10
  obtain ⟨hE2L, hE2L1⟩ := hs0.new (D := E2) hE20
  refine wpAny_assign_Tuple (items := #[.ref E1, .ref E2]) rfl ⟨_, hTt, rfl, 0, rfl⟩ rfl rfl fun h2 hx2 => ?_
  dsimp only at hx2
  have hst2 : h'.StaysIn h2 := fun b o e => hx2 b o (Nat.ne_of_lt (Heap.lt_size e)) e
  have hs2 : LSt s L 0 nm ls tx { heap := h2, gens := s.gens, drawn := dr, toks := tk', os := s.os } := hs1.keep (s'' := { heap := h2, gens := s.gens, drawn := dr, toks := tk', os := s.os }) hst2 rfl rfl (Nat.zero_le _)
  have hs3 := (hs2.more (D := E2) (ws := us) (n := n2) hE2L hE2L1 (hst2 _ _ hE2)).more (D := E1) (ws := ms) (n := n1) hE1L hE1L1 (hst2 _ _ hE1)
  refine wpAny_assignInOrder_more ?_
  refine wpAny_assign_Name (law_store' rfl hs3 (fun p hp => (hne p hp).1) fun s4 hl4 hk4 => ?_)
  refine wpAny_assignInOrder_more ?_
  refine wpAny_assign_Name (law_store' rfl hl4 ?_ fun s5 hl5 hk5 => ?_)
  · intro p hp
    rcases List.mem_cons.mp hp with rfl | hp
    · show Str.ofString "missing" ≠ Str.ofString "unexpected"; decide
    · exact (hne p hp).2
  refine wpAny_assignInOrder_none ?_
  refine ⟨trivial, E1, E2, ms, us, hl5.less (Nat.zero_le _) (fun p hp => hp) (fun p hp => hp), hms, hus, (hKB.trans fun b o hb e => hst2 b o e).trans (hk4.trans hk5)⟩
end
end Mine

/- part MEq -/
theorem Mine.offMEq : True := by
  w_top off
  trivial
namespace Mine
open PySem PySem.Spec PySem.Calls PySem.W PyProof.Rows PyProof.V
theorem st_depthAll : ∀ ns : List Str, PyData.depthAll (ns.map PyData.str) = 0
  | [] => rfl
  | _ :: r => by simp [PyData.depthAll, PyData.depth, st_depthAll r]
theorem st_shaped (ns : List Str) (h : ∀ k ∈ ns, PyData.strOk k = true) : SeqAt.shaped (.list (ns.map PyData.str)) = true := by
  have e : PyData.canLayAll0 (ns.map PyData.str) = true := by rw [canLayAll_strs', List.all_eq_true]; exact h
  simp [SeqAt.shaped, PyData.canLay0, PyData.depth, e, st_depthAll]
theorem st_sameAll : ∀ ns ms : List Str, PySem.Spec.sameAll (ns.map PyData.str) (ms.map PyData.str) = decide (ns = ms)
  | [], [] => by simp [PySem.Spec.sameAll]
  | [], _ :: _ => by simp [PySem.Spec.sameAll]
  | _ :: _, [] => by simp [PySem.Spec.sameAll]
  | a :: r, b :: t => by
    simp only [List.map_cons, PySem.Spec.sameAll, PySem.Spec.same, st_sameAll r t]
    by_cases h : a = b <;> by_cases h' : r = t <;> simp [h, h']
theorem st_same (ns ms : List Str) : PySem.Spec.same (.list (ns.map PyData.str)) (.list (ms.map PyData.str)) = decide (ns = ms) := by
  simp only [PySem.Spec.same]; exact st_sameAll ns ms
theorem st_carried : ∀ {vs : List Value} {ns : List Str}, StrsAre vs ns → CarriedAll vs (ns.map PyData.str)
  | _, _, .nil => .nil
  | _, _, .cons _ t r => .cons (.str _ t) (st_carried r)
section
variable {prog : Program} {w : World} {A : Around} {E : Value → Shared → Prop} {s : Shared} {a b : Addr} {xs ys : List Value} {ns ms : List Str} {Q : Value → Shared → Prop}
theorem st_eq (ha : s.heap.IsList a xs.toArray) (hb : s.heap.IsList b ys.toArray) (hi : StrsAre xs ns) (hj : StrsAre ys ms) (oi : ∀ k ∈ ns, PyData.strOk k = true) (oj : ∀ k ∈ ms, PyData.strOk k = true) (hu : A.units + 64 < cLine) (h : Q (.bool (decide (ns = ms))) s) :
    wpAny (model prog w) A (compareOp .Eq (.ref a) (.ref b)) Q E s :=
  eq_dataH_same (reads_newData ha (st_carried hi)) (reads_newData hb (st_carried hj)) (st_shaped _ oi) (st_shaped _ oj) hu (SeqAt.noMix_of_shape (.list .str) rfl _ _ (list_map_has fun _ => rfl) (list_map_has fun _ => rfl)) (by rw [st_same]; exact h)
theorem st_ne (ha : s.heap.IsList a xs.toArray) (hb : s.heap.IsList b ys.toArray) (hi : StrsAre xs ns) (hj : StrsAre ys ms) (oi : ∀ k ∈ ns, PyData.strOk k = true) (oj : ∀ k ∈ ms, PyData.strOk k = true) (hu : A.units + 64 < cLine) (h : Q (.bool (!decide (ns = ms))) s) :
    wpAny (model prog w) A (compareOp .NotEq (.ref a) (.ref b)) Q E s :=
  ne_dataH_same (reads_newData ha (st_carried hi)) (reads_newData hb (st_carried hj)) (st_shaped _ oi) (st_shaped _ oj) hu (SeqAt.noMix_of_shape (.list .str) rfl _ _ (list_map_has fun _ => rfl) (list_map_has fun _ => rfl)) (by rw [st_same]; exact h)
end
end Mine

/- part MLaw9 -/
theorem Mine.offMLaw9 : True := by
  w_top off
  trivial
namespace Mine
open PySem PySem.Spec PySem.Calls PySem.W PyProof.Rows PySem.Builtin PySem.Builtin.Str
set_option maxHeartbeats 1000000
theorem fillL9 (w : World) : (hd.heap_39 w.params) = (hd.heap_39 w.params) ∧ PySem.Challenge.rw_mq0154_01.prog = PySem.Challenge.rw_mq0154_01.prog := by k_fill; exact ⟨rfl, rfl⟩
section
variable {w : World} {mean : ExcName → Option Value} {mg mb : Str → Option Value} {dp un : Nat} {gd : Option (List Code)} {L fa : Addr} {cdv : Value} {s : Shared} {E : Value → Shared → Prop}
theorem body_2 (X : (hd.heap_39 w.params).In s.heap) (T : Top hd.view_39 (looseW hd.view_39 []) mean mg mb s.heap) (hdp : dp < recursionLimit) (hun : un + 64 < cLine) (nm : List (Str × Value)) (ls : List (Addr × List Value)) (tx : Option Value)
    (MT : Addr) (mts : List Value) (i j : Nat) (t1 t2 : Tok) (hT : ((Str.ofString "meant", Value.ref MT) : Str × Value) ∈ nm) (hTl : (MT, mts) ∈ ls) (h1 : ((Str.ofString "one", Value.int i t1) : Str × Value) ∈ nm) (h2 : ((Str.ofString "other", Value.int j t2) : Str × Value) ∈ nm)
    (ai aj : Addr) (wi wj : List Value) (mi mj : List Str) (hai : mts[i]? = some (.ref ai)) (haj : mts[j]? = some (.ref aj)) (hi : i < 1000) (hj : j < 1000) (hwi : (ai, wi) ∈ ls) (hwj : (aj, wj) ∈ ls) (si : StrsAre wi mi) (sj : StrsAre wj mj)
    (hn1 : mi.length ≤ 1000) (hn2 : mj.length ≤ 1000) (D1 : Addr) (ms : List Value) (mx : List Str) (hD : ((Str.ofString "missing", Value.ref D1) : Str × Value) ∈ nm) (hDl : (D1, ms) ∈ ls) (sm : StrsAre ms mx)
    (hpure : mx = mi.filter fun a => !(mj.any (· == a))) (hok : ∀ k ∈ mx, PyData.strOk k = true)
    (st : Stmt) (hst : innerBody[1]? = some st) (s' : Shared) (hs' : LSt s L 0 nm ls tx s') :
    wpAny (model PySem.Challenge.rw_mq0154_01.row.prog w) (aTop dp un gd [lawEnv L fa cdv]) (exec st (lawEnv L fa cdv)) (fun f s'' => f = .next ∧ LSt s L 0 nm ls tx s'' ∧ KB L s'.heap s''.heap) E s' := by
  cases hst
  have hs0 := hs'
  obtain ⟨h, tk, dr, u, rfl, hb, F, hc, hnm, hls⟩ := hs'
  have X1 := X.keeps F.keep
  have T1 := T.keeps F.keep
  walk1
  walk1
  refine nmL F.ns (hnm _ hD) ?_
  walk1
  refine nmG X1 T1 (by k_is) ?_
  walk1
  walk1
  walk1
  refine nmL F.ns (hnm _ hT) ?_
  refine nmL F.ns (hnm _ h1) ?_
  refine item_inX (hs0.list hTl) (by omega) (by omega) (x := .ref ai) (by rw [List.getElem?_toArray, Int.toNat_natCast]; exact hai) ?_
  walk1
  walk1
  refine nmL F.ns (hnm _ hT) ?_
  refine nmL F.ns (hnm _ h2) ?_
  refine item_inX (hs0.list hTl) (by omega) (by omega) (x := .ref aj) (by rw [List.getElem?_toArray, Int.toNat_natCast]; exact haj) ?_
  walk1
  refine ⟨X1, alone_spec X1 T1 hdp ai aj wi wj mi mj (hs0.list hwi) (hs0.list hwj) si sj hn1 ?_⟩
  intro h' tk' D ys hst' hD0 hpl hys
  refine st_ne (xs := ms) (ys := ys.toList) (ns := mx) ((hs0.list hDl).at fun o e => hst' _ _ e) (by simpa using hpl.isList) sm hys hok (by rw [← hpure]; exact hok) hun ?_
  rw [← hpure]
  refine wpAny_truthy_bool ?_
  rw [if_neg (by simp)]
  refine execs_nil' ⟨rfl, LSt.keep (s'' := { heap := h', gens := s.gens, drawn := dr, toks := tk', os := s.os }) hs0 hst' rfl rfl (Nat.zero_le _), fun b o _ e => hst' b o e⟩
theorem body_3 (X : (hd.heap_39 w.params).In s.heap) (T : Top hd.view_39 (looseW hd.view_39 []) mean mg mb s.heap) (hdp : dp < recursionLimit) (hun : un + 64 < cLine) (nm : List (Str × Value)) (ls : List (Addr × List Value)) (tx : Option Value)
    (MT : Addr) (mts : List Value) (i j : Nat) (t1 t2 : Tok) (hT : ((Str.ofString "meant", Value.ref MT) : Str × Value) ∈ nm) (hTl : (MT, mts) ∈ ls) (h1 : ((Str.ofString "one", Value.int i t1) : Str × Value) ∈ nm) (h2 : ((Str.ofString "other", Value.int j t2) : Str × Value) ∈ nm)
    (ai aj : Addr) (wi wj : List Value) (mi mj : List Str) (hai : mts[i]? = some (.ref ai)) (haj : mts[j]? = some (.ref aj)) (hi : i < 1000) (hj : j < 1000) (hwi : (ai, wi) ∈ ls) (hwj : (aj, wj) ∈ ls) (si : StrsAre wi mi) (sj : StrsAre wj mj)
    (hn1 : mi.length ≤ 1000) (hn2 : mj.length ≤ 1000) (D1 : Addr) (ms : List Value) (mx : List Str) (hD : ((Str.ofString "unexpected", Value.ref D1) : Str × Value) ∈ nm) (hDl : (D1, ms) ∈ ls) (sm : StrsAre ms mx)
    (hpure : mx = mj.filter fun a => !(mi.any (· == a))) (hok : ∀ k ∈ mx, PyData.strOk k = true)
    (st : Stmt) (hst : innerBody[2]? = some st) (s' : Shared) (hs' : LSt s L 0 nm ls tx s') :
    wpAny (model PySem.Challenge.rw_mq0154_01.row.prog w) (aTop dp un gd [lawEnv L fa cdv]) (exec st (lawEnv L fa cdv)) (fun f s'' => f = .next ∧ LSt s L 0 nm ls tx s'' ∧ KB L s'.heap s''.heap) E s' := by
  cases hst
  have hs0 := hs'
  obtain ⟨h, tk, dr, u, rfl, hb, F, hc, hnm, hls⟩ := hs'
  have X1 := X.keeps F.keep
  have T1 := T.keeps F.keep
  walk1
  walk1
  refine nmL F.ns (hnm _ hD) ?_
  walk1
  refine nmG X1 T1 (by k_is) ?_
  walk1
  walk1
  walk1
  refine nmL F.ns (hnm _ hT) ?_
  refine nmL F.ns (hnm _ h2) ?_
  refine item_inX (hs0.list hTl) (by omega) (by omega) (x := .ref aj) (by rw [List.getElem?_toArray, Int.toNat_natCast]; exact haj) ?_
  walk1
  walk1
  refine nmL F.ns (hnm _ hT) ?_
  refine nmL F.ns (hnm _ h1) ?_
  refine item_inX (hs0.list hTl) (by omega) (by omega) (x := .ref ai) (by rw [List.getElem?_toArray, Int.toNat_natCast]; exact hai) ?_
  walk1
  refine ⟨X1, alone_spec X1 T1 hdp aj ai wj wi mj mi (hs0.list hwj) (hs0.list hwi) sj si hn2 ?_⟩
  intro h' tk' D ys hst' hD0 hpl hys
  refine st_ne (xs := ms) (ys := ys.toList) (ns := mx) ((hs0.list hDl).at fun o e => hst' _ _ e) (by simpa using hpl.isList) sm hys hok (by rw [← hpure]; exact hok) hun ?_
  rw [← hpure]
  refine wpAny_truthy_bool ?_
  rw [if_neg (by simp)]
  refine execs_nil' ⟨rfl, LSt.keep (s'' := { heap := h', gens := s.gens, drawn := dr, toks := tk', os := s.os }) hs0 hst' rfl rfl (Nat.zero_le _), fun b o _ e => hst' b o e⟩
end
end Mine

/- part MLaw10 -/
theorem Mine.offMLaw10 : True := by
  w_top off
  trivial
namespace Mine
open PySem PySem.Spec PySem.Calls PySem.W PyProof.Rows PySem.Builtin PySem.Builtin.Str
set_option maxHeartbeats 1000000
theorem fillL10 (w : World) : (hd.heap_39 w.params) = (hd.heap_39 w.params) ∧ PySem.Challenge.rw_mq0154_01.prog = PySem.Challenge.rw_mq0154_01.prog := by k_fill; exact ⟨rfl, rfl⟩
section
variable {w : World} {mean : ExcName → Option Value} {mg mb : Str → Option Value} {dp un : Nat} {gd : Option (List Code)} {L fa : Addr} {cdv : Value} {s : Shared} {E : Value → Shared → Prop}
theorem body_4 (X : (hd.heap_39 w.params).In s.heap) (T : Top hd.view_39 (looseW hd.view_39 []) mean mg mb s.heap) (hdp : dp < recursionLimit) (hun : un + 64 < cLine) (nm : List (Str × Value)) (ls : List (Addr × List Value)) (tx : Option Value)
    (PD PB : Addr) (dv bv : List Value) (ds bs : List Str) (i j : Nat) (t1 t2 : Tok) (hT : ((Str.ofString "dotted", Value.ref PD) : Str × Value) ∈ nm) (hTl : (PD, dv) ∈ ls) (hB : ((Str.ofString "bare", Value.ref PB) : Str × Value) ∈ nm) (hBl : (PB, bv) ∈ ls)
    (h1 : ((Str.ofString "one", Value.int i t1) : Str × Value) ∈ nm) (h2 : ((Str.ofString "other", Value.int j t2) : Str × Value) ∈ nm)
    (sd : StrsAre dv ds) (sb : StrsAre bv bs) (d b : Str) (hd' : ds[j]? = some d) (hb' : bs[i]? = some b) (hi : i < 1000) (hj : j < 1000) (hdl : d.length ≤ 1000) (hbl : b.length ≤ 1000)
    (D1 : Addr) (ms : List Value) (mx : List Str) (hD : ((Str.ofString "missing", Value.ref D1) : Str × Value) ∈ nm) (hDl : (D1, ms) ∈ ls) (sm : StrsAre ms mx) (hok : ∀ k ∈ mx, PyData.strOk k = true) (hpure : decide (mx = []) = emB d b)
    (st : Stmt) (hst : innerBody[3]? = some st) (s' : Shared) (hs' : LSt s L 0 nm ls tx s') :
    wpAny (model PySem.Challenge.rw_mq0154_01.row.prog w) (aTop dp un gd [lawEnv L fa cdv]) (exec st (lawEnv L fa cdv)) (fun f s'' => f = .next ∧ LSt s L 0 nm ls tx s'' ∧ KB L s'.heap s''.heap) E s' := by
  cases hst
  have hs0 := hs'
  obtain ⟨h, tk, dr, u, rfl, hb, F, hc, hnm, hls⟩ := hs'
  walk1
  walk1
  walk1
  refine nmL F.ns (hnm _ hD) ?_
  walk1
  walk1
  refine wpAny_newList ?_
  have up : ∀ b o, h.get? b = some o → (h.push { cls := .type "list", data := .seq ([] : List Value).toArray }).get? b = some o := fun b o e => Heap.get?_push_of_some _ e
  have hnew : (h.push { cls := .type "list", data := .seq ([] : List Value).toArray }).IsList h.objs.size ([] : List Value).toArray := ⟨_, Heap.get?_push_size _ rfl, rfl, 0, rfl⟩
  refine st_eq (xs := ms) (ys := []) (ns := mx) (ms := []) ((hs0.list hDl).at fun o e => up _ _ e) hnew sm .nil hok (by intro k hk; cases hk) hun ?_
  generalize hH : h.push { cls := .type "list", data := .seq ([] : List Value).toArray } = H at *
  have F1 : Fr s.heap L H u := F.keeps up
  have X1 := X.keeps F1.keep
  have T1 := T.keeps F1.keep
  have hs1 : LSt s L 0 nm ls tx { heap := H, gens := s.gens, drawn := dr, toks := tk, os := s.os } := LSt.keep (s'' := { heap := H, gens := s.gens, drawn := dr, toks := tk, os := s.os }) hs0 up rfl rfl (Nat.zero_le _)
  have lD := hs1.list hTl
  have lB := hs1.list hBl
  dsimp only at lD lB
  obtain ⟨td, hdv⟩ := sd.get j _ hd'
  obtain ⟨tb, hbv⟩ := sb.get i _ hb'
  walk1
  refine nmG X1 T1 (by k_is) ?_
  walk1
  walk1
  walk1
  refine nmL F1.ns (hnm _ hT) ?_
  refine nmL F1.ns (hnm _ h2) ?_
  refine item_inX lD (by omega) (by omega) (x := .str d td) (by rw [List.getElem?_toArray, Int.toNat_natCast]; exact hdv) ?_
  walk1
  walk1
  refine nmL F1.ns (hnm _ hB) ?_
  refine nmL F1.ns (hnm _ h1) ?_
  refine item_inX lB (by omega) (by omega) (x := .str b tb) (by rw [List.getElem?_toArray, Int.toNat_natCast]; exact hbv) ?_
  walk1
  refine ⟨X1, em_spec X1 T1 hdp d b td tb hdl hbl ?_⟩
  intro h' tk' hst'
  rw [hpure]
  walk1
  refine wpAny_truthy_bool ?_
  rw [if_neg (by simp)]
  exact execs_nil' ⟨rfl, LSt.keep (s'' := { heap := h', gens := s.gens, drawn := dr, toks := tk', os := s.os }) hs1 hst' rfl rfl (Nat.zero_le _), fun b o _ e => hst' b o (up b o e)⟩
theorem body_5 (X : (hd.heap_39 w.params).In s.heap) (T : Top hd.view_39 (looseW hd.view_39 []) mean mg mb s.heap) (hdp : dp < recursionLimit) (hun : un + 64 < cLine) (nm : List (Str × Value)) (ls : List (Addr × List Value)) (tx : Option Value)
    (PD PB : Addr) (dv bv : List Value) (ds bs : List Str) (i j : Nat) (t1 t2 : Tok) (hT : ((Str.ofString "dotted", Value.ref PD) : Str × Value) ∈ nm) (hTl : (PD, dv) ∈ ls) (hB : ((Str.ofString "bare", Value.ref PB) : Str × Value) ∈ nm) (hBl : (PB, bv) ∈ ls)
    (h1 : ((Str.ofString "one", Value.int i t1) : Str × Value) ∈ nm) (h2 : ((Str.ofString "other", Value.int j t2) : Str × Value) ∈ nm)
    (sd : StrsAre dv ds) (sb : StrsAre bv bs) (d b : Str) (hd' : ds[i]? = some d) (hb' : bs[j]? = some b) (hi : i < 1000) (hj : j < 1000) (hdl : d.length ≤ 1000) (hbl : b.length ≤ 1000)
    (D1 : Addr) (ms : List Value) (mx : List Str) (hD : ((Str.ofString "unexpected", Value.ref D1) : Str × Value) ∈ nm) (hDl : (D1, ms) ∈ ls) (sm : StrsAre ms mx) (hok : ∀ k ∈ mx, PyData.strOk k = true) (hpure : decide (mx = []) = emB d b)
    (st : Stmt) (hst : innerBody[4]? = some st) (s' : Shared) (hs' : LSt s L 0 nm ls tx s') :
    wpAny (model PySem.Challenge.rw_mq0154_01.row.prog w) (aTop dp un gd [lawEnv L fa cdv]) (exec st (lawEnv L fa cdv)) (fun f s'' => f = .next ∧ LSt s L 0 nm ls tx s'' ∧ KB L s'.heap s''.heap) E s' := by
  cases hst
  have hs0 := hs'
  obtain ⟨h, tk, dr, u, rfl, hb, F, hc, hnm, hls⟩ := hs'
  walk1
  walk1
  walk1
  refine nmL F.ns (hnm _ hD) ?_
  walk1
  walk1
  refine wpAny_newList ?_
  have up : ∀ b o, h.get? b = some o → (h.push { cls := .type "list", data := .seq ([] : List Value).toArray }).get? b = some o := fun b o e => Heap.get?_push_of_some _ e
  have hnew : (h.push { cls := .type "list", data := .seq ([] : List Value).toArray }).IsList h.objs.size ([] : List Value).toArray := ⟨_, Heap.get?_push_size _ rfl, rfl, 0, rfl⟩
  refine st_eq (xs := ms) (ys := []) (ns := mx) (ms := []) ((hs0.list hDl).at fun o e => up _ _ e) hnew sm .nil hok (by intro k hk; cases hk) hun ?_
  generalize hH : h.push { cls := .type "list", data := .seq ([] : List Value).toArray } = H at *
  have F1 : Fr s.heap L H u := F.keeps up
  have X1 := X.keeps F1.keep
  have T1 := T.keeps F1.keep
  have hs1 : LSt s L 0 nm ls tx { heap := H, gens := s.gens, drawn := dr, toks := tk, os := s.os } := LSt.keep (s'' := { heap := H, gens := s.gens, drawn := dr, toks := tk, os := s.os }) hs0 up rfl rfl (Nat.zero_le _)
  have lD := hs1.list hTl
  have lB := hs1.list hBl
  dsimp only at lD lB
  obtain ⟨td, hdv⟩ := sd.get i _ hd'
  obtain ⟨tb, hbv⟩ := sb.get j _ hb'
  walk1
  refine nmG X1 T1 (by k_is) ?_
  walk1
  walk1
  walk1
  refine nmL F1.ns (hnm _ hT) ?_
  refine nmL F1.ns (hnm _ h1) ?_
  refine item_inX lD (by omega) (by omega) (x := .str d td) (by rw [List.getElem?_toArray, Int.toNat_natCast]; exact hdv) ?_
  walk1
  walk1
  refine nmL F1.ns (hnm _ hB) ?_
  refine nmL F1.ns (hnm _ h2) ?_
  refine item_inX lB (by omega) (by omega) (x := .str b tb) (by rw [List.getElem?_toArray, Int.toNat_natCast]; exact hbv) ?_
  walk1
  refine ⟨X1, em_spec X1 T1 hdp d b td tb hdl hbl ?_⟩
  intro h' tk' hst'
  rw [hpure]
  walk1
  refine wpAny_truthy_bool ?_
  rw [if_neg (by simp)]
  exact execs_nil' ⟨rfl, LSt.keep (s'' := { heap := h', gens := s.gens, drawn := dr, toks := tk', os := s.os }) hs1 hst' rfl rfl (Nat.zero_le _), fun b o _ e => hst' b o (up b o e)⟩
end
end Mine

/- part MLaw11 -/
theorem Mine.offMLaw11 : True := by
  w_top off
  trivial
namespace Mine
open PySem PySem.Spec PySem.Calls PySem.W PyProof.Rows PySem.Builtin PySem.Builtin.Str
set_option maxHeartbeats 1000000
theorem fillL11 (w : World) : (hd.heap_39 w.params) = (hd.heap_39 w.params) ∧ PySem.Challenge.rw_mq0154_01.prog = PySem.Challenge.rw_mq0154_01.prog := by k_fill; exact ⟨rfl, rfl⟩
def dotP (p : Str) : Str := Txt.replace p "*" "..."
def bareP (p : Str) : Str := Txt.replace p "*" "c"
structure PairOK (ti tj mi mj : List Str) (di dj bi bj : Str) : Prop where
  p1 : (sdiff ti tj).1 = mi.filter fun a => !(mj.any (· == a))
  p2 : (sdiff ti tj).2 = mj.filter fun a => !(mi.any (· == a))
  p3 : decide ((sdiff ti tj).1 = []) = emB dj bi
  p4 : decide ((sdiff ti tj).2 = []) = emB di bj
  ok1 : ∀ k ∈ (sdiff ti tj).1, PyData.strOk k = true
  ok2 : ∀ k ∈ (sdiff ti tj).2, PyData.strOk k = true
  nd1 : ∀ (i : Nat) x y, ti[i]? = some x → ti[i + 1]? = some y → x ≠ y
  nd2 : ∀ (i : Nat) x y, tj[i]? = some x → tj[i + 1]? = some y → x ≠ y

theorem execs_step {M : Model} {A : Around} {E : Value → Shared → Prop} {s : Shared} {env : Env} {Q : Flow → Shared → Prop} {body : List Stmt} (k : Nat) {st : Stmt} (h : body[k]? = some st)
    (h1 : wpAny M A (exec st env) (fun f s' => match f with | .next => wpAny M A (execs (body.drop (k + 1)) env) Q E s' | f => Q f s') E s) : wpAny M A (execs (body.drop k) env) Q E s := by
  obtain ⟨hk, e⟩ := List.getElem?_eq_some_iff.mp h
  rw [List.drop_eq_getElem_cons hk, e]
  exact execs_cons' h1

section
variable {w : World} {mean : ExcName → Option Value} {mg mb : Str → Option Value} {dp un : Nat} {gd : Option (List Code)} {L fa : Addr} {cdv : Value} {s : Shared} {E : Value → Shared → Prop}
structure Room (nm : List (Str × Value)) (ls : List (Addr × List Value)) (ps ts : List Str) (P PD PB TK MT : Addr) (pv dv bv tks mks : List Value) : Prop where
  nP : ((Str.ofString "patterns", Value.ref P) : Str × Value) ∈ nm
  nD : ((Str.ofString "dotted", Value.ref PD) : Str × Value) ∈ nm
  nB : ((Str.ofString "bare", Value.ref PB) : Str × Value) ∈ nm
  nT : ((Str.ofString "taken", Value.ref TK) : Str × Value) ∈ nm
  nM : ((Str.ofString "meant", Value.ref MT) : Str × Value) ∈ nm
  lP : (P, pv) ∈ ls
  lD : (PD, dv) ∈ ls
  lB : (PB, bv) ∈ ls
  lT : (TK, tks) ∈ ls
  lM : (MT, mks) ∈ ls
  sP : StrsAre pv ps
  sD : StrsAre dv (ps.map dotP)
  sB : StrsAre bv (ps.map bareP)
  fT : ∀ (i : Nat) p, ps[i]? = some p → ∃ a wv, tks[i]? = some (.ref a) ∧ (a, wv) ∈ ls ∧ StrsAre wv (ts.filter (emB (dotP p)))
  fM : ∀ (i : Nat) p, ps[i]? = some p → ∃ a wv, mks[i]? = some (.ref a) ∧ (a, wv) ∈ ls ∧ StrsAre wv (ts.filter (takesB p))
  len : ps.length ≤ 4
  tlen : ts.length ≤ 1000
  dl : ∀ p ∈ ps, (dotP p).length ≤ 1000
  bl : ∀ p ∈ ps, (bareP p).length ≤ 1000
  ok : ∀ p ∈ ps, ∀ q ∈ ps, PairOK (ts.filter (emB (dotP p))) (ts.filter (emB (dotP q))) (ts.filter (takesB p)) (ts.filter (takesB q)) (dotP p) (dotP q) (bareP p) (bareP q)
  fresh : ∀ z ∈ nm, z.1 ≠ "missing" ∧ z.1 ≠ "unexpected" ∧ z.1 ≠ "one" ∧ z.1 ≠ "other"

theorem law_pair (X : (hd.heap_39 w.params).In s.heap) (T : Top hd.view_39 (looseW hd.view_39 []) mean mg mb s.heap) (hdp : dp < recursionLimit) (hun : un + 64 < cLine) {nm : List (Str × Value)} {ls : List (Addr × List Value)} {tx : Option Value} {ps ts : List Str} {P PD PB TK MT : Addr} {pv dv bv tks mks : List Value}
    (R : Room nm ls ps ts P PD PB TK MT pv dv bv tks mks) (i j : Nat) (t1 t2 : Tok) (hi : i < ps.length) (hj : j < ps.length) (s' : Shared) (hs' : LSt s L 0 ((Str.ofString "other", .int j t2) :: (Str.ofString "one", .int i t1) :: nm) ls tx s') :
    wpAny (model PySem.Challenge.rw_mq0154_01.row.prog w) (aTop dp un gd [lawEnv L fa cdv]) (execs innerBody (lawEnv L fa cdv)) (fun f s'' => f = .next ∧ LSt s L 0 ((Str.ofString "one", .int i t1) :: nm) ls tx s'' ∧ KB L s'.heap s''.heap) E s' := by
  have hlen := R.len
  have hpi : ps[i]? = some ps[i] := List.getElem?_eq_getElem hi
  have hpj : ps[j]? = some ps[j] := List.getElem?_eq_getElem hj
  obtain ⟨ai, wi, hai, hwi, si⟩ := R.fT i _ hpi
  obtain ⟨aj, wj, haj, hwj, sj⟩ := R.fT j _ hpj
  obtain ⟨bi, xi, hbi, hxi, mi⟩ := R.fM i _ hpi
  obtain ⟨bj, xj, hbj, hxj, mj⟩ := R.fM j _ hpj
  have O := R.ok _ (List.getElem_mem hi) _ (List.getElem_mem hj)
  have fl : ∀ f : Str → Bool, (ts.filter f).length ≤ 1000 := fun f => Nat.le_trans (List.length_filter_le _ _) R.tlen
  have up2 : ∀ {z : Str × Value}, z ∈ nm → z ∈ ((Str.ofString "other", Value.int j t2) :: (Str.ofString "one", Value.int i t1) :: nm) := fun h => .tail _ (.tail _ h)
  refine execs_step (body := innerBody) 0 rfl ?_
  refine wpAny_mono (body_1 X T hdp _ ls tx TK tks i j t1 t2 (up2 R.nT) R.lT (.tail _ (.head _)) (.head _) ai aj wi wj _ _ hai haj (by omega) (by omega) hwi hwj si sj (fl _) (fl _) O.nd1 O.nd2 ?_ _ rfl s' hs') (fun f s₁ h₁ => ?_) fun _ _ e => e
  · intro p hp
    rcases List.mem_cons.mp hp with rfl | hp
    · exact ⟨show Str.ofString "other" ≠ Str.ofString "missing" by decide, show Str.ofString "other" ≠ Str.ofString "unexpected" by decide⟩
    · rcases List.mem_cons.mp hp with rfl | hp
      · exact ⟨show Str.ofString "one" ≠ Str.ofString "missing" by decide, show Str.ofString "one" ≠ Str.ofString "unexpected" by decide⟩
      · exact ⟨(R.fresh p hp).1, (R.fresh p hp).2.1⟩
  obtain ⟨rfl, D1, D2, ms, us, hl₁, sm, su, hk₁⟩ := h₁
  dsimp only
  have up4 : ∀ {z : Str × Value}, z ∈ nm → z ∈ ((Str.ofString "unexpected", Value.ref D2) :: (Str.ofString "missing", Value.ref D1) :: (Str.ofString "other", Value.int j t2) :: (Str.ofString "one", Value.int i t1) :: nm) := fun h => .tail _ (.tail _ (up2 h))
  have upl : ∀ {z : Addr × List Value}, z ∈ ls → z ∈ ((D1, ms) :: (D2, us) :: ls) := fun h => .tail _ (.tail _ h)
  refine execs_step (body := innerBody) 1 rfl ?_
  refine wpAny_mono (body_2 X T hdp hun _ _ tx MT mks i j t1 t2 (up4 R.nM) (upl R.lM) (.tail _ (.tail _ (.tail _ (.head _)))) (.tail _ (.tail _ (.head _))) bi bj xi xj _ _ hbi hbj (by omega) (by omega) (upl hxi) (upl hxj) mi mj (fl _) (fl _) D1 ms _ (.tail _ (.head _)) (.head _) sm O.p1 O.ok1 _ rfl s₁ hl₁) (fun f s₂ h₂ => ?_) fun _ _ e => e
  obtain ⟨rfl, hl₂, hk₂⟩ := h₂
  dsimp only
  refine execs_step (body := innerBody) 2 rfl ?_
  refine wpAny_mono (body_3 X T hdp hun _ _ tx MT mks i j t1 t2 (up4 R.nM) (upl R.lM) (.tail _ (.tail _ (.tail _ (.head _)))) (.tail _ (.tail _ (.head _))) bi bj xi xj _ _ hbi hbj (by omega) (by omega) (upl hxi) (upl hxj) mi mj (fl _) (fl _) D2 us _ (.head _) (.tail _ (.head _)) su O.p2 O.ok2 _ rfl s₂ hl₂) (fun f s₃ h₃ => ?_) fun _ _ e => e
  obtain ⟨rfl, hl₃, hk₃⟩ := h₃
  dsimp only
  refine execs_step (body := innerBody) 3 rfl ?_
  refine wpAny_mono (body_4 X T hdp hun _ _ tx PD PB dv bv _ _ i j t1 t2 (up4 R.nD) (upl R.lD) (up4 R.nB) (upl R.lB) (.tail _ (.tail _ (.tail _ (.head _)))) (.tail _ (.tail _ (.head _))) R.sD R.sB (dotP ps[j]) (bareP ps[i]) (by rw [List.getElem?_map, hpj]; rfl) (by rw [List.getElem?_map, hpi]; rfl) (by omega) (by omega) (R.dl _ (List.getElem_mem hj)) (R.bl _ (List.getElem_mem hi)) D1 ms _ (.tail _ (.head _)) (.head _) sm O.ok1 O.p3 _ rfl s₃ hl₃) (fun f s₄ h₄ => ?_) fun _ _ e => e
  obtain ⟨rfl, hl₄, hk₄⟩ := h₄
  dsimp only
  refine execs_step (body := innerBody) 4 rfl ?_
  refine wpAny_mono (body_5 X T hdp hun _ _ tx PD PB dv bv _ _ i j t1 t2 (up4 R.nD) (upl R.lD) (up4 R.nB) (upl R.lB) (.tail _ (.tail _ (.tail _ (.head _)))) (.tail _ (.tail _ (.head _))) R.sD R.sB (dotP ps[i]) (bareP ps[j]) (by rw [List.getElem?_map, hpi]; rfl) (by rw [List.getElem?_map, hpj]; rfl) (by omega) (by omega) (R.dl _ (List.getElem_mem hi)) (R.bl _ (List.getElem_mem hj)) D2 us _ (.head _) (.tail _ (.head _)) su O.ok2 O.p4 _ rfl s₄ hl₄) (fun f s₅ h₅ => ?_) fun _ _ e => e
  obtain ⟨rfl, hl₅, hk₅⟩ := h₅
  dsimp only
  refine execs_nil' ⟨rfl, hl₅.less (Nat.le_refl 0) (fun p hp => .tail _ (.tail _ (.tail _ hp))) (fun p hp => .tail _ (.tail _ hp)), hk₁.trans (hk₂.trans (hk₃.trans (hk₄.trans hk₅)))⟩

theorem law_7 (X : (hd.heap_39 w.params).In s.heap) (T : Top hd.view_39 (looseW hd.view_39 []) mean mg mb s.heap) (hdp : dp < recursionLimit) (hun : un + 64 < cLine) {nm : List (Str × Value)} {ls : List (Addr × List Value)} {tx : Option Value} {ps ts : List Str} {P PD PB TK MT : Addr} {pv dv bv tks mks : List Value}
    (R : Room nm ls ps ts P PD PB TK MT pv dv bv tks mks) (st : Stmt) (hst : lawBody[6]? = some st) (s' : Shared) (hs' : LSt s L 0 nm ls tx s') :
    wpAny (model PySem.Challenge.rw_mq0154_01.row.prog w) (aTop dp un gd [lawEnv L fa cdv]) (exec st (lawEnv L fa cdv)) (fun f s'' => f = .next ∧ LSt s L 0 nm ls tx s'') E s' := by
  cases hst
  have hs0 := hs'
  obtain ⟨h, tk, dr, u, rfl, hb, F, hc, hnm, hls⟩ := hs'
  have X1 := X.keeps F.keep
  have T1 := T.keeps F.keep
  have hlen := R.len
  have hpl : pv.length = ps.length := StrsAre.size R.sP
  refine wpAny_For ?_
  walk1
  refine nmB X1 T1 (by k_is) (by boot_by_name) (by decide) ?_
  walk1
  walk1
  walk1
  refine nmB X1 T1 (by k_is) (by boot_by_name) (by decide) ?_
  walk1
  walk1
  refine nmL F.ns (hnm _ R.nP) ?_
  walk1
  refine PyProof.Rows.len_list (hs0.list R.lP) (by simp; omega) ?_
  have hsz : ((pv.toArray.size : Nat) : Int) = ((ps.length : Nat) : Int) := by simp [hpl]
  rw [hsz]
  walk1
  refine call_range_1 ?_
  dsimp only
  generalize hH : h.push { cls := .type "range", data := .fields #[_, _, _] } = H
  have up : ∀ b o, h.get? b = some o → H.get? b = some o := fun b o e => by rw [← hH]; exact Heap.get?_push_of_some _ e
  have hs1 : ∀ tk', LSt s L 0 nm ls tx { heap := H, gens := s.gens, drawn := dr, toks := tk', os := s.os } := fun tk' => LSt.keep (s'' := { heap := H, gens := s.gens, drawn := dr, toks := tk', os := s.os }) hs0 up rfl rfl (Nat.zero_le _)
  refine law_for (n := ps.length) rfl (by rw [← hH]; exact IsRange.new ..) (by omega) (hs1 _) rfl (fun p hp => (R.fresh p hp).2.2.1) ?_ ?_
  · intro i s₁ t E' hi hl₁ hk₁
    refine execs_cons' ?_
    have hs2 := hl₁
    obtain ⟨h₁, tk₁, dr₁, u₁, rfl, hb₁, F₁, hc₁, hnm₁, hls₁⟩ := hl₁
    have X2 := X.keeps F₁.keep
    have T2 := T.keeps F₁.keep
    refine wpAny_For ?_
    walk1
    refine nmB X2 T2 (by k_is) (by boot_by_name) (by decide) ?_
    walk1
    walk1
    refine nmL F₁.ns (hnm₁ _ (.head _)) ?_
    walk1
    refine call_range_1 ?_
    dsimp only
    generalize hH2 : h₁.push { cls := .type "range", data := .fields #[_, _, _] } = H2
    have up2 : ∀ b o, h₁.get? b = some o → H2.get? b = some o := fun b o e => by rw [← hH2]; exact Heap.get?_push_of_some _ e
    have hs3 : ∀ tk', LSt s L 0 ((Str.ofString "one", .int i t) :: nm) ls tx { heap := H2, gens := s.gens, drawn := dr₁, toks := tk', os := s.os } := fun tk' => LSt.keep (s'' := { heap := H2, gens := s.gens, drawn := dr₁, toks := tk', os := s.os }) hs2 up2 rfl rfl (Nat.zero_le _)
    refine law_for (n := i) rfl (by rw [← hH2]; exact IsRange.new ..) (by omega) (hs3 _) rfl ?_ ?_ ?_
    · intro p hp
      rcases List.mem_cons.mp hp with rfl | hp
      · show Str.ofString "one" ≠ Str.ofString "other"; decide
      · exact (R.fresh p hp).2.2.2
    · intro j s₂ t2 E2 hj hl₂ hk₂
      exact law_pair X T hdp hun R i j t t2 hi (by omega) s₂ hl₂
    · intro s₂ hl₂ hk₂
      refine execs_nil' ⟨rfl, hl₂.less (Nat.le_refl 0) (fun p hp => .tail _ hp) (fun p hp => hp), fun b o hb e => hk₂ b o hb (up2 b o e)⟩
  · intro s₂ hl₂ hk₂
    exact ⟨rfl, hl₂⟩
end
end Mine

/- part MP1 -/
theorem Mine.offMP1 : True := by
  w_top off
  trivial
namespace Mine
open PySem PySem.Spec PySem.Calls PySem.W PyProof.Rows PySem.Builtin PySem.Builtin.Str

def mat : List Nat → List Nat → Prop
  | [], t => t = []
  | c :: p, t => if c = 42 then ∃ k, k ≤ t.length ∧ mat p (t.drop k) else ∃ t', t = c :: t' ∧ mat p t'
theorem mat_star {p t : List Nat} : mat (42 :: p) t ↔ ∃ k, k ≤ t.length ∧ mat p (t.drop k) := by
  rw [mat, if_pos rfl]
theorem mat_sign {c : Nat} {p t : List Nat} (h : c ≠ 42) : mat (c :: p) t ↔ ∃ t', t = c :: t' ∧ mat p t' := by
  rw [mat, if_neg h]

def sb (z : List Nat) (l : List Nat) : List Nat := l.flatMap fun c => if c = 42 then z else [c]
theorem sb_nil {z : List Nat} : sb z [] = [] := rfl
theorem sb_star {z l : List Nat} : sb z (42 :: l) = z ++ sb z l := by simp [sb]
theorem sb_sign {z l : List Nat} {c : Nat} (h : c ≠ 42) : sb z (c :: l) = c :: sb z l := by simp [sb, h]
theorem sb_append {z a b : List Nat} : sb z (a ++ b) = sb z a ++ sb z b := by simp [sb]
theorem sb_free {z : List Nat} : ∀ {l : List Nat}, 42 ∉ l → sb z l = l
  | [], _ => rfl
  | c :: l, h => by
    rw [sb_sign (by rintro rfl; exact h (.head _)), sb_free fun m => h (.tail _ m)]

theorem mat_self : ∀ p : List Nat, mat p (sb [99] p)
  | [] => rfl
  | c :: p => by
    by_cases h : c = 42
    · subst h
      rw [mat_star, sb_star]
      exact ⟨1, by simp, by simpa using mat_self p⟩
    · rw [mat_sign h, sb_sign h]
      exact ⟨_, rfl, mat_self p⟩

theorem mat_drop : ∀ (p t : List Nat), mat p t → ∀ k, ∃ j, j ≤ t.length ∧ mat (p.drop k) (t.drop j)
  | p, t, h, 0 => ⟨0, Nat.zero_le _, by simpa using h⟩
  | [], t, h, k + 1 => ⟨0, Nat.zero_le _, by simpa using h⟩
  | c :: p, t, h, k + 1 => by
    by_cases hc : c = 42
    · subst hc
      obtain ⟨j, hj, h'⟩ := mat_star.mp h
      obtain ⟨i, hi, h2⟩ := mat_drop p _ h' k
      rw [List.length_drop] at hi
      exact ⟨j + i, by omega, by rw [List.drop_drop] at h2; exact h2⟩
    · obtain ⟨t', rfl, h'⟩ := (mat_sign hc).mp h
      obtain ⟨i, hi, h2⟩ := mat_drop p _ h' k
      exact ⟨i + 1, by simp; omega, by simpa using h2⟩

theorem bare_drop : ∀ (p : List Nat) (k : Nat), (sb [99] p).drop k = sb [99] (p.drop k)
  | p, 0 => rfl
  | [], k + 1 => rfl
  | c :: p, k + 1 => by
    by_cases hc : c = 42
    · subst hc
      rw [sb_star]
      simpa using bare_drop p k
    · rw [sb_sign hc]
      simpa using bare_drop p k

theorem mat_incl : ∀ (q p t : List Nat), 99 ∉ q → mat q (sb [99] p) → mat p t → mat q t
  | [], p, t, _, h, h2 => by
    have e : sb [99] p = [] := h
    cases p with
    | nil => exact h2
    | cons c p =>
      by_cases hc : c = 42
      · subst hc; rw [sb_star] at e; simp at e
      · rw [sb_sign hc] at e; simp at e
  | x :: q, p, t, hq, h, h2 => by
    have hq' : 99 ∉ q := fun m => hq (.tail _ m)
    by_cases hx : x = 42
    · subst hx
      obtain ⟨k, hk, h'⟩ := mat_star.mp h
      rw [bare_drop] at h'
      obtain ⟨j, hj, h3⟩ := mat_drop p t h2 k
      exact mat_star.mpr ⟨j, hj, mat_incl q _ _ hq' h' h3⟩
    · obtain ⟨r, e, h'⟩ := (mat_sign hx).mp h
      cases p with
      | nil => simp [sb] at e
      | cons c p =>
        by_cases hc : c = 42
        · subst hc
          rw [sb_star] at e
          simp only [List.cons_append, List.nil_append, List.cons.injEq] at e
          exact absurd e.1 (fun e => hq (e ▸ .head _))
        · rw [sb_sign hc] at e
          injection e with e1 e2
          subst e1
          obtain ⟨t', rfl, h3⟩ := (mat_sign hc).mp h2
          exact (mat_sign hx).mpr ⟨t', rfl, mat_incl q p t' hq' (e2 ▸ h') h3⟩

theorem tk_mat (t : Str) : ∀ (p : List Nat) (ps : List Nat), ps.Pairwise (· ≤ ·) → (∀ q ∈ ps, q ≤ t.length) → (t.length ∈ p.foldl (tkStep t) ps ↔ ∃ q ∈ ps, mat p (t.cps.toList.drop q))
  | [], ps, hs, hb => by
    have hl : t.cps.toList.length = t.length := rfl
    constructor
    · intro h
      exact ⟨_, h, show List.drop _ _ = [] from List.drop_of_length_le (Nat.le_of_eq hl)⟩
    · rintro ⟨q, hq, h⟩
      have h' : t.cps.toList.drop q = [] := h
      have h1 := List.drop_eq_nil_iff.mp h'
      have h2 := hb q hq
      have e : q = t.length := by omega
      rw [← e]; exact hq
  | c :: p, ps, hs, hb => by
    have hl : t.cps.toList.length = t.length := rfl
    rw [List.foldl_cons]
    by_cases hc : c = 42
    · subst hc
      cases ps with
      | nil =>
        rw [tkStep_nil, tk_mat t p [] (by simp) (by simp)]
        simp
      | cons f r =>
        rw [tkStep_star, tk_mat t p _ ((List.pairwise_lt_range' ..).imp Nat.le_of_lt) (by
          intro q hq
          have := List.mem_range'_1.mp hq
          have := hb f (.head _)
          omega)]
        constructor
        · rintro ⟨q, hq, h⟩
          have hq' := List.mem_range'_1.mp hq
          refine ⟨f, .head _, mat_star.mpr ⟨q - f, ?_, ?_⟩⟩
          · rw [List.length_drop]; omega
          · rw [List.drop_drop, show f + (q - f) = q by omega]; exact h
        · rintro ⟨q, hq, h⟩
          obtain ⟨k, hk, h'⟩ := mat_star.mp h
          rw [List.drop_drop] at h'
          rw [List.length_drop] at hk
          have hfq : f ≤ q := by
            rcases List.mem_cons.mp hq with rfl | hq
            · exact Nat.le_refl _
            · exact List.rel_of_pairwise_cons hs hq
          have hqb := hb q hq
          exact ⟨q + k, List.mem_range'_1.mpr ⟨by omega, by omega⟩, h'⟩
    · rw [tkStep_letter hc, tk_mat t p]
      · constructor
        · rintro ⟨q, hq, h⟩
          obtain ⟨q', hq', rfl⟩ := List.mem_map.mp hq
          obtain ⟨h1, h2⟩ := List.mem_filter.mp hq'
          have h3 : t.cps.toList[q']? = some c := by simpa using h2
          obtain ⟨hlt, h4⟩ := List.getElem?_eq_some_iff.mp h3
          refine ⟨q', h1, (mat_sign hc).mpr ⟨_, ?_, h⟩⟩
          rw [List.drop_eq_getElem_cons hlt, h4]
        · rintro ⟨q, hq, h⟩
          obtain ⟨t', e, h'⟩ := (mat_sign hc).mp h
          have hlt : q < t.cps.toList.length := by
            rcases Nat.lt_or_ge q t.cps.toList.length with h | h
            · exact h
            · rw [List.drop_of_length_le h] at e; cases e
          rw [List.drop_eq_getElem_cons hlt] at e
          injection e with e1 e2
          refine ⟨q + 1, List.mem_map.mpr ⟨q, List.mem_filter.mpr ⟨hq, ?_⟩, rfl⟩, by rw [e2]; exact h'⟩
          rw [beq_iff_eq, ← e1, ← Array.getElem?_toList]
          exact List.getElem?_eq_getElem hlt
      · refine List.Pairwise.map _ ?_ (hs.filter _)
        intro a b h; omega
      · intro q hq
        obtain ⟨q', hq', rfl⟩ := List.mem_map.mp hq
        have h2 := (List.mem_filter.mp hq').2
        have h3 : t.cps.toList[q']? = some c := by simpa using h2
        have := (List.getElem?_eq_some_iff.mp h3).1
        omega

theorem takes_mat (p t : Str) : takesB p t = true ↔ mat p.cps.toList t.cps.toList := by
  unfold takesB
  rw [List.any_eq_true]
  have := tk_mat t p.cps.toList [0] (by simp) (by simp)
  simp only [List.mem_singleton, exists_eq_left, List.drop_zero] at this
  rw [← this]
  constructor
  · rintro ⟨x, hx, e⟩
    rw [beq_iff_eq] at e; rw [← e]; exact hx
  · intro h; exact ⟨_, h, by simp⟩

theorem strLt_irrefl (a : Str) : strLt a a = false := by
  unfold strLt; exact decide_eq_false (List.lt_irrefl _)
theorem strLt_asymm {a b : Str} (h : strLt a b = true) : strLt b a = false := by
  unfold strLt at *
  exact decide_eq_false fun h2 => List.lt_asymm (of_decide_eq_true h) h2
theorem strLt_trans {a b c : Str} (h : strLt a b = true) (h2 : strLt b c = true) : strLt a c = true := by
  unfold strLt at *
  exact decide_eq_true (List.lt_trans (of_decide_eq_true h) (of_decide_eq_true h2))
theorem strLt_total {a b : Str} (h : strLt a b = false) (h2 : strLt b a = false) : a = b := by
  unfold strLt at *
  have h1 := of_decide_eq_false h
  have h3 := of_decide_eq_false h2
  have e : a.cps.toList = b.cps.toList := List.le_antisymm (List.not_lt.mp h3) (List.not_lt.mp h1)
  cases a; cases b
  simp only [Str.mk.injEq]
  exact Array.toList_inj.mp e

theorem filter_none {α : Type} [BEq α] [LawfulBEq α] {xs : List α} {l : List α} {y : α} (h : ∀ x ∈ xs, x ≠ y) : xs.filter (fun a => !((y :: l).any (· == a))) = xs.filter fun a => !(l.any (· == a)) := by
  apply List.filter_congr
  intro x hx
  have : (y == x) = false := beq_eq_false_iff_ne.mpr (Ne.symm (h x hx))
  simp [this]

theorem sdiff_filter : ∀ (xs ys : List Str), xs.Pairwise (fun a b => strLt a b = true) → ys.Pairwise (fun a b => strLt a b = true) →
    sdiff xs ys = (xs.filter (fun a => !(ys.any (· == a))), ys.filter fun a => !(xs.any (· == a)))
  | [], ys, _, _ => by
    rw [sdiff]
    simp only [List.filter_nil, List.any_nil, Bool.not_false]
    rw [List.filter_eq_self.mpr fun _ _ => rfl]
  | x :: xs, [], _, _ => by
    rw [sdiff]
    simp only [List.filter_nil, List.any_nil, Bool.not_false]
    rw [List.filter_eq_self.mpr fun _ _ => rfl]
  | x :: xs, y :: ys, hx, hy => by
    have hx1 := (List.pairwise_cons.mp hx)
    have hy1 := (List.pairwise_cons.mp hy)
    rw [sdiff]
    by_cases h : strLt x y = true
    · rw [if_pos h, sdiff_filter xs (y :: ys) hx1.2 hy]
      have hxy : ∀ b ∈ y :: ys, b ≠ x := by
        intro b hb q
        rcases List.mem_cons.mp hb with rfl | hb
        · rw [q, strLt_irrefl] at h; cases h
        · have := strLt_trans h (hy1.1 b hb)
          rw [q, strLt_irrefl] at this; cases this
      have hnot : ((y :: ys).any (· == x)) = false := by
        rw [List.any_eq_false]
        intro b hb; simp [hxy b hb]
      have e1 : (x :: xs).filter (fun a => !((y :: ys).any (· == a))) = x :: xs.filter (fun a => !((y :: ys).any (· == a))) := List.filter_cons_of_pos (by rw [hnot]; rfl)
      rw [e1, filter_none hxy]
    · have h' : strLt x y = false := by simpa using h
      rw [if_neg h]
      by_cases h2 : strLt y x = true
      · rw [if_pos h2, sdiff_filter (x :: xs) ys hx hy1.2]
        have hyx : ∀ b ∈ x :: xs, b ≠ y := by
          intro b hb q
          rcases List.mem_cons.mp hb with rfl | hb
          · rw [q, strLt_irrefl] at h2; cases h2
          · have := strLt_trans h2 (hx1.1 b hb)
            rw [q, strLt_irrefl] at this; cases this
        have hnot : ((x :: xs).any (· == y)) = false := by
          rw [List.any_eq_false]
          intro b hb; simp [hyx b hb]
        have e1 : (y :: ys).filter (fun a => !((x :: xs).any (· == a))) = y :: ys.filter (fun a => !((x :: xs).any (· == a))) := List.filter_cons_of_pos (by rw [hnot]; rfl)
        rw [e1, filter_none hyx]
      · have h2' : strLt y x = false := by simpa using h2
        have e := strLt_total h' h2'
        subst e
        rw [if_neg h2, sdiff_filter xs ys hx1.2 hy1.2]
        have n1 : ∀ b ∈ xs, b ≠ x := fun b hb q => by have := hx1.1 b hb; rw [q, strLt_irrefl] at this; cases this
        have n2 : ∀ b ∈ ys, b ≠ x := fun b hb q => by have := hy1.1 b hb; rw [q, strLt_irrefl] at this; cases this
        have e1 : (x :: xs).filter (fun a => !((x :: ys).any (· == a))) = xs.filter (fun a => !((x :: ys).any (· == a))) := List.filter_cons_of_neg (by simp)
        have e2 : (x :: ys).filter (fun a => !((x :: xs).any (· == a))) = ys.filter (fun a => !((x :: xs).any (· == a))) := List.filter_cons_of_neg (by simp)
        rw [e1, e2, filter_none n1, filter_none n2]
termination_by xs ys => xs.length + ys.length
end Mine

/- part MP2 -/
theorem Mine.offMP2 : True := by
  w_top off
  trivial
namespace Mine
open PySem PySem.Spec PySem.Calls PySem.W PyProof.Rows PySem.Builtin PySem.Builtin.Str PySem.StrLaws

theorem star_eq : Str.ofString "*" = ⟨#[42]⟩ := by decide
theorem sb_join {z : Str} : ∀ parts : List Str, (∀ p ∈ parts, 42 ∉ p.cps.toList) → sb z.cps.toList (Str.join ⟨#[42]⟩ parts).cps.toList = (Str.join z parts).cps.toList
  | [], _ => rfl
  | [p], h => sb_free (h p (.head _))
  | p :: q :: r, h => by
    have ih := sb_join (z := z) (q :: r) fun a ha => h a (.tail _ ha)
    show sb _ (p ++ ⟨#[42]⟩ ++ Str.join ⟨#[42]⟩ (q :: r)).cps.toList = (p ++ z ++ Str.join z (q :: r)).cps.toList
    simp only [Str.cps_append, Array.toList_append]
    rw [sb_append, sb_append, ih, sb_free (h p (.head _)), sb_star, sb_nil, List.append_nil]

theorem replace_sb (x z : Str) : (Txt.replace x (Str.ofString "*") z).cps.toList = sb z.cps.toList x.cps.toList := by
  rw [star_eq, replace_one, ← sb_join _ (split_free x 42), join_split]

inductive Wd : List Nat → List (List Nat) → Prop
  | one {w : List Nat} : 42 ∉ w → Wd w [w]
  | more {w l : List Nat} {ws : List (List Nat)} : 42 ∉ w → Wd l ws → Wd (w ++ 42 :: l) (w :: ws)
theorem Wd.cons {c : Nat} (hc : c ≠ 42) : ∀ {l : List Nat} {ws : List (List Nat)}, Wd l ws → ∃ w r, ws = w :: r ∧ Wd (c :: l) ((c :: w) :: r)
  | _, _, .one h => ⟨_, _, rfl, .one (by intro m; rcases List.mem_cons.mp m with e | m; exact hc e.symm; exact h m)⟩
  | _, _, .more h r => ⟨_, _, rfl, by
    have := Wd.more (w := c :: _) (by intro m; rcases List.mem_cons.mp m with e | m; exact hc e.symm; exact h m) r
    simpa using this⟩
theorem wd_exists : ∀ l : List Nat, ∃ ws, Wd l ws
  | [] => ⟨_, .one (by simp)⟩
  | c :: l => by
    obtain ⟨ws, h⟩ := wd_exists l
    by_cases hc : c = 42
    · subst hc
      exact ⟨_, .more (w := []) (by simp) h⟩
    · obtain ⟨w, r, _, h'⟩ := h.cons hc
      exact ⟨_, h'⟩

theorem parts_wd {X : Str} : ∀ {l : List Nat} {ws : List (List Nat)}, Wd l ws → 46 ∉ l → ∀ (pre : List Nat) (cuts : List Nat) (f : Nat), X.cps.toList = pre ++ sb [46, 46, 46] l →
    ChainG X dots X.length pre.length cuts f → (∀ k, f ≤ k → ¬ At X dots X.length k) → (partsFrom X 3 pre.length cuts).map (fun p => p.cps.toList) = ws
  | _, _, .one (w := w) h42, h46, pre, cuts, f, hX, hG, hf => by
    rw [sb_free h42] at hX
    have hno := dot_free hX h46
    cases cuts with
    | cons c r => exact absurd hG.2.1 (hno c hG.1)
    | nil =>
      show [(strSub X pre.length X.length).cps.toList] = [w]
      rw [strSub_toList, hX, List.drop_left, List.take_of_length_le]
      have e : X.cps.toList.length = X.length := rfl
      rw [hX, List.length_append] at e
      omega
  | _, _, .more (w := w) (l := l) (ws := ws) h42 hw, h46, pre, cuts, f, hX, hG, hf => by
    have hw46 : 46 ∉ w := fun m => h46 (List.mem_append_left _ m)
    have hl46 : 46 ∉ l := fun m => h46 (List.mem_append_right _ (.tail _ m))
    rw [sb_append, sb_free h42, sb_star] at hX
    have hAt : At X dots X.length (pre.length + w.length) := by
      rw [at_dots, hX]
      have e : pre ++ (w ++ ([46, 46, 46] ++ sb [46, 46, 46] l)) = (pre ++ w) ++ ([46, 46, 46] ++ sb [46, 46, 46] l) := by simp
      rw [e, ← List.length_append, List.drop_left]
      rfl
    have hno : ∀ k, pre.length ≤ k → k < pre.length + w.length → ¬ At X dots X.length k := by
      intro k h1 h2 hA
      rw [at_dots, hX, List.drop_append, List.drop_of_length_le h1, List.nil_append, List.drop_append] at hA
      have hlt : k - pre.length < w.length := by omega
      rw [List.drop_eq_getElem_cons hlt] at hA
      simp only [List.cons_append, List.take_succ_cons, List.cons.injEq] at hA
      exact hw46 (hA.1 ▸ List.getElem_mem hlt)
    cases cuts with
    | nil =>
      have e : f = pre.length := hG
      exact absurd hAt (hf _ (by omega))
    | cons c r =>
      obtain ⟨h1, h2, h3, h4⟩ := hG
      have ec : c = pre.length + w.length := by
        rcases Nat.lt_trichotomy c (pre.length + w.length) with h | h | h
        · exact absurd h2 (hno c h1 h)
        · exact h
        · exact absurd hAt (h3 _ (by omega) h)
      subst ec
      have hX' : X.cps.toList = (pre ++ w ++ [46, 46, 46]) ++ sb [46, 46, 46] l := by rw [hX]; simp
      have hlen : (pre ++ w ++ [46, 46, 46]).length = pre.length + w.length + dots.length := by rw [dots_len]; simp; omega
      rw [← hlen] at h4
      have ih := parts_wd hw hl46 (pre ++ w ++ [46, 46, 46]) r f hX' h4 hf
      show (strSub X pre.length (pre.length + w.length)).cps.toList :: (partsFrom X 3 (pre.length + w.length + 3) r).map _ = w :: ws
      rw [hlen, dots_len] at ih
      rw [ih, strSub_toList, hX, List.drop_left, show pre.length + w.length - pre.length = w.length by omega, List.take_left]

/-! ## the greedy search -/
def AtL (g w : List Nat) (hi k : Nat) : Prop := k + w.length ≤ hi ∧ (g.drop k).take w.length = w
def MT (g : List Nat) (ep : Nat) : List (List Nat) → Nat → Prop
  | [], _ => True
  | w :: ws, s => ∃ k, s ≤ k ∧ AtL g w ep k ∧ MT g ep ws (k + w.length)
theorem MT.mono {g : List Nat} {ep : Nat} : ∀ {ws : List (List Nat)} {s s' : Nat}, s' ≤ s → MT g ep ws s → MT g ep ws s'
  | [], _, _, _, _ => trivial
  | _ :: _, _, _, h, ⟨k, h1, h2, h3⟩ => ⟨k, Nat.le_trans h h1, h2, h3⟩
theorem MT_nil {g : List Nat} {ep s : Nat} {ws : List (List Nat)} (h : s ≤ ep) : MT g ep ([] :: ws) s ↔ MT g ep ws s := by
  constructor
  · rintro ⟨k, h1, _, h3⟩
    exact h3.mono h1
  · intro h'
    exact ⟨s, Nat.le_refl _, ⟨by simpa using h, by simp⟩, by simpa using h'⟩
theorem MT_snoc {g : List Nat} {ep : Nat} : ∀ {ws : List (List Nat)} {s : Nat}, s ≤ ep → (MT g ep (ws ++ [[]]) s ↔ MT g ep ws s)
  | [], s, h => by
    rw [List.nil_append, MT_nil h]
  | w :: ws, s, h => by
    constructor
    · rintro ⟨k, h1, h2, h3⟩
      exact ⟨k, h1, h2, (MT_snoc h2.1).mp h3⟩
    · rintro ⟨k, h1, h2, h3⟩
      exact ⟨k, h1, h2, (MT_snoc h2.1).mpr h3⟩
theorem at_list {X y : Str} {hi k : Nat} : At X y hi k ↔ AtL X.cps.toList y.cps.toList hi k := by
  unfold At AtL
  rw [subAt_eq, beq_iff_eq]
  exact Iff.rfl

theorem find4_spec (x y : Str) (a b : Nat) (ha : a ≤ x.length) (hb : b ≤ x.length) :
    (find4 x y a b = -1 ∧ ∀ k, a ≤ k → ¬ At x y b k) ∨ ∃ k : Nat, find4 x y a b = k ∧ a ≤ k ∧ At x y b k ∧ ∀ j, a ≤ j → j < k → ¬ At x y b j := by
  have e1 : fromIndex x.length (a : Int) = a := by unfold fromIndex; rw [if_neg (by omega)]; omega
  have e2 : min (fromIndex x.length (b : Int)) x.length = b := by
    have : fromIndex x.length (b : Int) = b := by unfold fromIndex; rw [if_neg (by omega)]; omega
    rw [this]; omega
  unfold find4
  rw [e1, e2, occ_eq]
  rcases occ_first x y b 1 (Nat.le_refl 1) (List.range' a (b + 1 - a)) a (fun i hi => (List.mem_range'_1.mp hi).1) with ⟨h0, hn⟩ | ⟨pre, c, post, e, h0, hc, hn⟩
  · refine .inl ⟨by rw [h0], fun k hk hA => hn k (List.mem_range'_1.mpr ⟨hk, by have := hA.1; omega⟩) hA⟩
  · have hcm : c ∈ List.range' a (b + 1 - a) := by rw [e]; simp
    refine .inr ⟨c, ?_, (List.mem_range'_1.mp hcm).1, hc, fun j h1 h2 hA => ?_⟩
    · generalize (forIn (List.range' a (b + 1 - a)) ((#[] : Array Nat), a) (occBody x y b 1)).run.fst = arr at h0
      have h1 : arr.toList[0]? = some c := by simpa using h0
      cases hL : arr.toList with
      | nil => rw [hL] at h1; cases h1
      | cons d t => rw [hL] at h1; simp at h1; rw [h1]
    · have hj : j ∈ List.range' a (b + 1 - a) := List.mem_range'_1.mpr ⟨h1, by have := hA.1; omega⟩
      have hsorted := List.pairwise_lt_range' (s := a) (n := b + 1 - a) 1
      rw [e] at hj hsorted
      rcases List.mem_append.mp hj with hj | hj
      · exact hn j hj hA
      · rcases List.mem_cons.mp hj with rfl | hj
        · exact absurd h2 (Nat.lt_irrefl _)
        · have := List.rel_of_pairwise_cons (List.pairwise_append.mp hsorted).2.1 hj
          omega

theorem emTail_MT (got : Str) (ep : Nat) (hep : ep ≤ got.length) : ∀ (ws : List Str) (sp : Nat), sp ≤ ep → (emTail got ep ws sp = true ↔ MT got.cps.toList ep (ws.map fun w => w.cps.toList) sp)
  | [], sp, _ => by simp [emTail, MT]
  | w :: ws, sp, hsp => by
    rw [emTail_cons]
    rcases find4_spec got w sp ep (by omega) hep with ⟨e, hn⟩ | ⟨k, e, h1, h2, h3⟩
    · rw [e, if_pos (by decide)]
      constructor
      · intro h; cases h
      · rintro ⟨k, h1, h2, _⟩
        exact absurd (at_list.mpr h2) (hn k h1)
    · rw [e, if_neg (by omega)]
      have e2 : (k : Int) + (w.length : Nat) = ((k + w.length : Nat) : Int) := by push_cast; rfl
      rw [e2, emTail_MT got ep hep ws (k + w.length) h2.1]
      constructor
      · intro h; exact ⟨k, h1, at_list.mp h2, h⟩
      · rintro ⟨k', h1', h2', h3'⟩
        have hk : k ≤ k' := by
          rcases Nat.lt_or_ge k' k with h | h
          · exact absurd (at_list.mpr h2') (h3 k' h1' h)
          · exact h
        have hlw : w.cps.toList.length = w.length := rfl
        exact h3'.mono (by rw [hlw]; omega)

def EW (g wk : List Nat) : Prop := wk.length ≤ g.length ∧ g.drop (g.length - wk.length) = wk

theorem emC_iff (got : Str) (sp ep : Nat) (hep : ep ≤ got.length) (ws : List Str) : emC got sp ep ws = true ↔ sp ≤ ep ∧ MT got.cps.toList ep (ws.map fun w => w.cps.toList) sp := by
  unfold emC
  by_cases h : (ep : Int) < sp
  · rw [if_pos h]
    constructor
    · intro h'; cases h'
    · rintro ⟨h1, _⟩; omega
  · rw [if_neg h, emTail_MT got ep hep ws sp (by omega)]
    exact ⟨fun h' => ⟨by omega, h'⟩, fun h' => h'.2⟩

theorem ends_iff (got wk : Str) : Txt.endswith got wk = true ↔ EW got.cps.toList wk.cps.toList := by
  unfold Txt.endswith EW
  rw [subAt_eq, Bool.and_eq_true, decide_eq_true_eq, beq_iff_eq]
  have h1 : got.cps.toList.length = got.length := rfl
  have h2 : wk.cps.toList.length = wk.length := rfl
  rw [h1, h2]
  constructor
  · rintro ⟨a, b⟩
    refine ⟨by omega, ?_⟩
    rwa [List.take_of_length_le] at b
    rw [List.length_drop]; omega
  · rintro ⟨a, b⟩
    refine ⟨by omega, ?_⟩
    rw [List.take_of_length_le]
    · exact b
    · rw [List.length_drop]; omega

theorem emL_iff (got : Str) (sp : Nat) (pre : List Str) (wk : Str) : emL got sp (pre ++ [wk]) = true ↔
    EW got.cps.toList wk.cps.toList ∧ sp + wk.length ≤ got.length ∧ MT got.cps.toList (got.length - wk.length) (pre.map fun w => w.cps.toList) sp := by
  unfold emL
  simp only [List.getLast?_append, List.getLast?_singleton, Option.some_or]
  have h1 : got.cps.toList.length = got.length := rfl
  by_cases h0 : wk.length = 0
  · rw [if_pos h0, emC_iff got sp got.length (Nat.le_refl _)]
    have hw : wk.cps.toList = [] := List.length_eq_zero_iff.mp (show wk.cps.toList.length = 0 from h0)
    rw [List.map_append, List.map_cons, List.map_nil, hw, h0, Nat.sub_zero, Nat.add_zero]
    constructor
    · rintro ⟨a, b⟩
      exact ⟨⟨Nat.zero_le _, by simp⟩, a, (MT_snoc a).mp b⟩
    · rintro ⟨_, a, b⟩
      exact ⟨a, (MT_snoc a).mpr b⟩
  · rw [if_neg h0]
    by_cases he : Txt.endswith got wk = true
    · rw [if_pos he, List.dropLast_concat]
      have hew := (ends_iff got wk).mp he
      have hle : wk.length ≤ got.length := hew.1
      have e : (got.length : Int) - (wk.length : Nat) = ((got.length - wk.length : Nat) : Int) := by omega
      rw [e, emC_iff got sp _ (Nat.sub_le _ _)]
      constructor
      · rintro ⟨a, b⟩; exact ⟨hew, by omega, b⟩
      · rintro ⟨_, a, b⟩; exact ⟨by omega, b⟩
    · rw [if_neg he]
      constructor
      · intro h; cases h
      · rintro ⟨a, _⟩; exact absurd ((ends_iff got wk).mpr a) he

theorem emF_iff (got : Str) (w0 : Str) (m : List Str) (wk : Str) : emF got (w0 :: (m ++ [wk])) = true ↔
    got.cps.toList.take w0.length = w0.cps.toList ∧ EW got.cps.toList wk.cps.toList ∧ w0.length + wk.length ≤ got.length ∧ MT got.cps.toList (got.length - wk.length) (m.map fun w => w.cps.toList) w0.length := by
  unfold emF
  dsimp only
  by_cases h0 : w0.length = 0
  · have hw : w0.cps.toList = [] := List.length_eq_zero_iff.mp (show w0.cps.toList.length = 0 from h0)
    have e := emL_iff got 0 (w0 :: m) wk
    rw [List.cons_append] at e
    rw [if_pos h0]
    have e2 : emL got 0 (w0 :: (m ++ [wk])) = true ↔ _ := e
    rw [e2, hw, h0, List.map_cons, hw]
    constructor
    · rintro ⟨a, b, c⟩
      exact ⟨by simp, a, b, (MT_nil (by omega)).mp c⟩
    · rintro ⟨_, a, b, c⟩
      exact ⟨a, b, (MT_nil (by omega)).mpr c⟩
  · rw [if_neg h0]
    have hl : w0.cps.toList.length = w0.length := rfl
    by_cases hs : Txt.startswith got w0 = true
    · rw [if_pos hs, emL_iff]
      unfold Txt.startswith at hs
      rw [subAt_eq, Bool.and_eq_true, beq_iff_eq, List.drop_zero] at hs
      exact ⟨fun h => ⟨hs.2, h⟩, fun h => h.2⟩
    · rw [if_neg hs]
      constructor
      · intro h; cases h
      · rintro ⟨a, b, c, _⟩
        exfalso; apply hs
        unfold Txt.startswith
        rw [subAt_eq, Bool.and_eq_true, beq_iff_eq, List.drop_zero]
        exact ⟨decide_eq_true (by omega), a⟩

theorem mat_free : ∀ {w : List Nat}, 42 ∉ w → ∀ {p t : List Nat}, mat (w ++ p) t ↔ ∃ t', t = w ++ t' ∧ mat p t'
  | [], _, p, t => by simp
  | c :: w, h, p, t => by
    have hc : c ≠ 42 := by rintro rfl; exact h (.head _)
    rw [List.cons_append, mat_sign hc]
    constructor
    · rintro ⟨t', rfl, h'⟩
      obtain ⟨t2, rfl, h2⟩ := (mat_free fun m => h (.tail _ m)).mp h'
      exact ⟨t2, rfl, h2⟩
    · rintro ⟨t2, rfl, h2⟩
      exact ⟨w ++ t2, rfl, (mat_free fun m => h (.tail _ m)).mpr ⟨t2, rfl, h2⟩⟩

theorem mat_words {g : List Nat} : ∀ {l : List Nat} {ws : List (List Nat)}, Wd l ws → ∀ s, s ≤ g.length → (mat (42 :: l) (g.drop s) ↔ ∃ m wk, ws = m ++ [wk] ∧ EW g wk ∧ s + wk.length ≤ g.length ∧ MT g (g.length - wk.length) m s)
  | _, _, .one (w := w) h, s, hs => by
    rw [mat_star]
    have e : ∀ t, mat w t ↔ t = w := fun t => by
      have := mat_free h (p := []) (t := t)
      rw [List.append_nil] at this
      rw [this]
      constructor
      · rintro ⟨t', rfl, rfl⟩; simp
      · rintro rfl; exact ⟨[], by simp, rfl⟩
    constructor
    · rintro ⟨k, hk, h'⟩
      rw [e, List.drop_drop] at h'
      rw [List.length_drop] at hk
      have hl := congrArg List.length h'
      rw [List.length_drop] at hl
      refine ⟨[], w, rfl, ⟨by omega, ?_⟩, by omega, trivial⟩
      rw [show g.length - w.length = s + k by omega]; exact h'
    · rintro ⟨m, wk, h1, h2, h3, _⟩
      have h4 : m = [] ∧ wk = w := by
        cases m with
        | nil => simp at h1; exact ⟨rfl, h1.symm⟩
        | cons a r => simp at h1
      obtain ⟨rfl, rfl⟩ := h4
      refine ⟨g.length - wk.length - s, by rw [List.length_drop]; omega, ?_⟩
      rw [e, List.drop_drop, show s + (g.length - wk.length - s) = g.length - wk.length by omega]
      exact h2.2
  | _, _, .more (w := w) (l := l) (ws := ws) h hw, s, hs => by
    rw [mat_star]
    constructor
    · rintro ⟨k, hk, h'⟩
      obtain ⟨t', e, h2⟩ := (mat_free h).mp h'
      rw [List.drop_drop] at e
      rw [List.length_drop] at hk
      have hl := congrArg List.length e
      rw [List.length_drop, List.length_append] at hl
      have e2 : t' = g.drop (s + k + w.length) := by
        rw [← List.drop_drop, e, List.drop_left]
      rw [e2] at h2
      obtain ⟨m, wk, h3, h4, h5, h6⟩ := (mat_words hw (s + k + w.length) (by omega)).mp h2
      refine ⟨w :: m, wk, by rw [h3]; rfl, h4, by omega, s + k, by omega, ⟨by omega, ?_⟩, h6⟩
      rw [e, List.take_left]
    · rintro ⟨m, wk, h3, h4, h5, h6⟩
      cases m with
      | nil =>
        simp at h3
        obtain ⟨_, rfl⟩ := h3
        cases hw
      | cons a r =>
        simp at h3
        obtain ⟨rfl, h3⟩ := h3
        obtain ⟨k, hk, ⟨h7, h8⟩, h9⟩ := h6
        refine ⟨k - s, by rw [List.length_drop]; omega, ?_⟩
        rw [List.drop_drop, show s + (k - s) = k by omega]
        refine (mat_free h).mpr ⟨g.drop (k + w.length), ?_, ?_⟩
        · rw [← List.drop_drop]
          conv => lhs; rw [← List.take_append_drop w.length (g.drop k), h8]
        · exact (mat_words hw (k + w.length) (by omega)).mpr ⟨r, wk, h3, h4, by omega, h9⟩

theorem em_mat (p t : Str) (h46 : 46 ∉ p.cps.toList) : emB (Txt.replace p (Str.ofString "*") (Str.ofString "...")) t = true ↔ mat p.cps.toList t.cps.toList := by
  have hX := replace_sb p (Str.ofString "...")
  rw [show (Str.ofString "...").cps.toList = [46, 46, 46] from dots_list] at hX
  generalize hXX : Txt.replace p (Str.ofString "*") (Str.ofString "...") = X at hX
  obtain ⟨ws, hw⟩ := wd_exists p.cps.toList
  obtain ⟨f, hG, hf⟩ := occ_tight X dots (by decide)
  have hparts := parts_wd hw h46 [] (occurrences X dots 0 X.length (X.length + 1)) f (by simpa using hX) hG hf
  unfold emB
  generalize hpl : p.cps.toList = pl at hw h46 hX
  cases hw with
  | one h42 =>
    rw [sb_free h42] at hX
    have hno := dot_free (pre := []) hX h46
    have he : (occurrences X dots 0 X.length 1).isEmpty = true := by
      cases h : (occurrences X dots 0 X.length 1).isEmpty with
      | true => rfl
      | false =>
        obtain ⟨i, hi⟩ := (found_dots X).mp h
        exact absurd hi (hno i (Nat.zero_le _))
    rw [if_pos he, beq_iff_eq]
    have e := mat_free h42 (p := []) (t := t.cps.toList)
    rw [List.append_nil] at e
    rw [e]
    constructor
    · rintro rfl; exact ⟨[], by rw [hX]; simp, rfl⟩
    · rintro ⟨t', h1, h2⟩
      have h2' : t' = [] := h2
      subst h2'
      rw [List.append_nil] at h1
      have : X.cps.toList = t.cps.toList := by rw [hX, h1]
      cases X; cases t
      simp only [Str.mk.injEq]
      exact Array.toList_inj.mp this
  | more h42 hw' =>
    rename_i w l ws'
    have hAt : ∃ i, At X dots X.length i := by
      refine ⟨w.length, ?_⟩
      rw [at_dots, hX, sb_append, sb_free h42, sb_star, List.drop_left]
      rfl
    rw [if_neg (by rw [(found_dots X).mpr hAt]; decide), (split_cuts hAt).2]
    have hparts' : (partsFrom X 3 0 (occurrences X dots 0 X.length (X.length + 1))).map (fun p => p.cps.toList) = w :: ws' := hparts
    generalize partsFrom X 3 0 (occurrences X dots 0 X.length (X.length + 1)) = P at hparts'
    cases P with
    | nil => simp at hparts'
    | cons w0 r =>
      simp only [List.map_cons, List.cons.injEq] at hparts'
      obtain ⟨e0, er⟩ := hparts'
      have hr : r ≠ [] := by
        rintro rfl
        simp at er
        subst er
        cases hw'
      obtain ⟨m, wk, rfl⟩ : ∃ m wk, r = m ++ [wk] := by
        rcases List.eq_nil_or_concat r with h | ⟨a, b, h⟩
        · exact absurd h hr
        · exact ⟨a, b, by rw [h]; simp⟩
      rw [emF_iff]
      have hl0 : w0.length = w.length := by rw [← e0]; rfl
      rw [e0, hl0]
      have hlt : t.cps.toList.length = t.length := rfl
      rw [mat_free h42]
      constructor
      · rintro ⟨h1, h2, h3, h4⟩
        refine ⟨t.cps.toList.drop w.length, ?_, ?_⟩
        · conv => lhs; rw [← List.take_append_drop w.length t.cps.toList, h1]
        · refine (mat_words hw' w.length (by omega)).mpr ⟨m.map (fun w : Str => w.cps.toList), wk.cps.toList, ?_, h2, ?_, h4⟩
          · rw [← er]; simp
          · have e9 : wk.cps.toList.length = wk.length := rfl
            omega
      · rintro ⟨t', h1, h2⟩
        have e2 : t' = t.cps.toList.drop w.length := by rw [h1, List.drop_left]
        have hle : w.length ≤ t.cps.toList.length := by rw [h1]; simp
        rw [e2] at h2
        obtain ⟨m', wk', h3, h4, h5, h6⟩ := (mat_words hw' w.length hle).mp h2
        rw [← er, List.map_append, List.map_cons, List.map_nil] at h3
        obtain ⟨e3, e4⟩ := List.append_inj' h3 rfl
        simp at e4
        subst e3
        rw [← e4] at h4 h5 h6
        exact ⟨by rw [h1, List.take_left], h4, h5, h6⟩
end Mine

/- part MP3 -/
theorem Mine.offMP3 : True := by
  w_top off
  trivial
namespace Mine
open PySem PySem.Spec PySem.Calls PySem.W PyProof.Rows PySem.Builtin PySem.Builtin.Str PySem.StrLaws

theorem rising_pair : ∀ (r : List Str) (p : Str), risingS p r = true → (p :: r).Nodup → (p :: r).Pairwise fun a b => strLt a b = true
  | [], p, _, _ => by simp
  | x :: r, p, h, hn => by
    have h' : (!ltCps x.cps.toList p.cps.toList && risingS x r) = true := h
    rw [Bool.and_eq_true, Bool.not_eq_true', ltCps_eq] at h'
    have hn' := List.nodup_cons.mp hn
    have ih := rising_pair r x h'.2 hn'.2
    have hpx : strLt p x = true := by
      cases e : strLt p x with
      | true => rfl
      | false =>
        have e2 : strLt x p = false := h'.1
        have := strLt_total e e2
        exact absurd (.head _) (this ▸ hn'.1)
    refine List.pairwise_cons.mpr ⟨fun y hy => ?_, ih⟩
    rcases List.mem_cons.mp hy with rfl | hy
    · exact hpx
    · exact strLt_trans hpx (List.rel_of_pairwise_cons ih hy)
theorem sorted_pair {ss : List Str} (h : sortedS ss = true) (hn : ss.Nodup) : ss.Pairwise fun a b => strLt a b = true := by
  cases ss with
  | nil => exact .nil
  | cons x r => exact rising_pair r x h hn

theorem sb_len {z : List Nat} : ∀ l : List Nat, (sb z l).length ≤ l.length * (z.length + 1)
  | [] => by simp [sb]
  | c :: l => by
    have ih := sb_len (z := z) l
    by_cases hc : c = 42
    · subst hc
      rw [sb_star, List.length_append, List.length_cons, Nat.add_mul]; omega
    · rw [sb_sign hc, List.length_cons, List.length_cons, Nat.add_mul]; omega
theorem sb_mem {z l : List Nat} {c : Nat} (h : c ∈ sb z l) : c ∈ z ∨ (c ∈ l ∧ c ≠ 42) := by
  unfold sb at h
  obtain ⟨d, hd, hc⟩ := List.mem_flatMap.mp h
  by_cases e : d = 42
  · rw [if_pos e] at hc; exact .inl hc
  · rw [if_neg e] at hc
    rw [List.mem_singleton.mp hc]
    exact .inr ⟨hd, e⟩

theorem good_no {p : Str} (h : GoodP p) {c : Nat} (hc : c ≠ 97 ∧ c ≠ 98 ∧ c ≠ 42) : c ∉ p.cps.toList := by
  intro m
  rcases h.2 c m with e | e | e
  · exact hc.1 e
  · exact hc.2.1 e
  · exact hc.2.2 e

theorem rep_len {p z : Str} (h : GoodP p) (hz : z.length ≤ 3) : (Txt.replace p (Str.ofString "*") z).length ≤ 20 := by
  show (Txt.replace p (Str.ofString "*") z).cps.toList.length ≤ 20
  rw [replace_sb]
  have h1 := sb_len (z := z.cps.toList) p.cps.toList
  have h2 : p.cps.toList.length ≤ 5 := h.1
  have h3 : z.cps.toList.length ≤ 3 := hz
  have h4 : p.cps.toList.length * (z.cps.toList.length + 1) ≤ 5 * 4 := Nat.mul_le_mul h2 (by omega)
  omega

section
variable {ps ts : List Str} (hgood : ∀ p ∈ ps, GoodP p) (hnd : ts.Nodup) (hsort : sortedS ts = true)
  (hmem : ∀ k, k ∈ ts ↔ ∃ p ∈ ps, ∃ r ∈ [Str.ofString "", Str.ofString "c", Str.ofString "ba"], k = Txt.replace p "*" r)
include hgood hnd hsort hmem

theorem text_len : ∀ t ∈ ts, t.length ≤ 1000 := by
  intro t ht
  obtain ⟨p, hp, r, hr, rfl⟩ := (hmem t).mp ht
  have hz : r.length ≤ 3 := by
    simp only [List.mem_cons, List.not_mem_nil, or_false] at hr
    rcases hr with rfl | rfl | rfl <;> decide
  have := rep_len (hgood p hp) hz
  exact Nat.le_trans this (by omega)
theorem text_ok : ∀ t ∈ ts, PyData.strOk t = true := by
  intro t ht
  obtain ⟨p, hp, r, hr, rfl⟩ := (hmem t).mp ht
  have hrz : ∀ c ∈ r.cps.toList, c < 200 := by
    simp only [List.mem_cons, List.not_mem_nil, or_false] at hr
    rcases hr with rfl | rfl | rfl <;> decide
  unfold PyData.strOk
  rw [← Array.all_toList, replace_sb, List.all_eq_true]
  intro c hc
  rcases sb_mem hc with h | h
  · have := hrz c h
    exact decide_eq_true (by omega)
  · rcases (hgood p hp).2 c h.1 with e | e | e <;> rw [e] <;> decide

theorem em_takes {p : Str} (hp : p ∈ ps) (t : Str) : emB (dotP p) t = takesB p t := by
  rw [Bool.eq_iff_iff, takes_mat]
  exact em_mat p t (good_no (hgood p hp) (by decide))

theorem none_left {p q : Str} (hp : p ∈ ps) (hq : q ∈ ps) : decide (((ts.filter (takesB p)).filter fun a => !((ts.filter (takesB q)).any (· == a))) = []) = emB (dotP q) (bareP p) := by
  have hq99 : 99 ∉ q.cps.toList := good_no (hgood q hq) (by decide)
  have hbare : (bareP p).cps.toList = sb [99] p.cps.toList := by
    unfold bareP
    rw [replace_sb]
    rfl
  rw [Bool.eq_iff_iff, decide_eq_true_eq, em_takes hgood hnd hsort hmem hq, takes_mat, hbare]
  constructor
  · intro h
    have hb : bareP p ∈ ts := (hmem _).mpr ⟨p, hp, _, .tail _ (.head _), rfl⟩
    have hb2 : bareP p ∈ ts.filter (takesB p) := List.mem_filter.mpr ⟨hb, by rw [takes_mat, hbare]; exact mat_self _⟩
    have h2 := List.filter_eq_nil_iff.mp h _ hb2
    simp only [Bool.not_eq_true', Bool.not_eq_false] at h2
    obtain ⟨x, hx, e⟩ := List.any_eq_true.mp h2
    have e' := eq_of_beq e
    subst e'
    have := (List.mem_filter.mp hx).2
    rw [takes_mat, hbare] at this
    exact this
  · intro h
    apply List.filter_eq_nil_iff.mpr
    intro t ht
    obtain ⟨h1, h2⟩ := List.mem_filter.mp ht
    have h3 : takesB q t = true := (takes_mat q t).mpr (mat_incl _ _ _ hq99 h ((takes_mat p t).mp h2))
    have : (ts.filter (takesB q)).any (· == t) = true := List.any_eq_true.mpr ⟨t, List.mem_filter.mpr ⟨h1, h3⟩, beq_self_eq_true t⟩
    rw [this]; decide

theorem pair_ok {p q : Str} (hp : p ∈ ps) (hq : q ∈ ps) : PairOK (ts.filter (emB (dotP p))) (ts.filter (emB (dotP q))) (ts.filter (takesB p)) (ts.filter (takesB q)) (dotP p) (dotP q) (bareP p) (bareP q) := by
  have ep : ts.filter (emB (dotP p)) = ts.filter (takesB p) := List.filter_congr fun t _ => em_takes hgood hnd hsort hmem hp t
  have eq : ts.filter (emB (dotP q)) = ts.filter (takesB q) := List.filter_congr fun t _ => em_takes hgood hnd hsort hmem hq t
  have hs := sorted_pair hsort hnd
  have s1 := hs.filter (takesB p)
  have s2 := hs.filter (takesB q)
  have sd := sdiff_filter _ _ s1 s2
  have nd : ∀ (l : List Str), l.Pairwise (fun a b => strLt a b = true) → ∀ (i : Nat) x y, l[i]? = some x → l[i + 1]? = some y → x ≠ y := by
    intro l hl i x y h1 h2 e
    obtain ⟨a, ha⟩ := List.getElem?_eq_some_iff.mp h1
    obtain ⟨b, hb⟩ := List.getElem?_eq_some_iff.mp h2
    have := List.pairwise_iff_getElem.mp hl i (i + 1) a b (Nat.lt_succ_self i)
    rw [ha, hb, e, strLt_irrefl] at this
    cases this
  have ok := text_ok hgood hnd hsort hmem
  rw [ep, eq]
  exact {
    p1 := by rw [sd]
    p2 := by rw [sd]
    p3 := by rw [sd]; exact none_left hgood hnd hsort hmem hp hq
    p4 := by rw [sd]; exact none_left hgood hnd hsort hmem hq hp
    ok1 := fun k hk => by rw [sd] at hk; exact ok k (List.mem_filter.mp (List.mem_filter.mp hk).1).1
    ok2 := fun k hk => by rw [sd] at hk; exact ok k (List.mem_filter.mp (List.mem_filter.mp hk).1).1
    nd1 := nd _ s1
    nd2 := nd _ s2 }
end
end Mine

/- part MLaw12 -/
theorem Mine.offMLaw12 : True := by
  w_top off
  trivial
namespace Mine
open PySem PySem.Spec PySem.Calls PySem.W PyProof.Rows PySem.Builtin PySem.Builtin.Str
set_option maxHeartbeats 1000000
theorem fillL12 (w : World) : (hd.heap_39 w.params) = (hd.heap_39 w.params) ∧ PySem.Challenge.rw_mq0154_01.prog = PySem.Challenge.rw_mq0154_01.prog := by k_fill; exact ⟨rfl, rfl⟩
section
variable {w : World} {mean : ExcName → Option Value} {mg mb : Str → Option Value} {dp un : Nat} {gd : Option (List Code)} {L fa : Addr} {cdv : Value} {s : Shared} {E : Value → Shared → Prop}
theorem law_all (X : (hd.heap_39 w.params).In s.heap) (T : Top hd.view_39 (looseW hd.view_39 []) mean mg mb s.heap) (hdp : dp < recursionLimit) (hun : un + 64 < cLine) (ax : Addr) (vs : List Value) (ns : List Int) (hax : s.heap.IsList ax vs.toArray) (hI : IntsAre vs ns) (hnl : ns.length ≤ 63)
    (s' : Shared) (hs' : LSt s L 0 [(Str.ofString "script", .ref ax)] [] none s') {Q : Flow → Shared → Prop}
    (hQ : ∀ h dr tk u, Fr s.heap L h u → Q (.ret (.bool true)) { heap := h, gens := s.gens, drawn := dr, toks := tk, os := s.os }) :
    wpAny (model PySem.Challenge.rw_mq0154_01.row.prog w) (aTop dp un gd [lawEnv L fa cdv]) (execs lawBody (lawEnv L fa cdv)) Q E s' := by
  refine execs_step (body := lawBody) 0 rfl ?_
  refine wpAny_mono (law_1 X T hdp ax vs ns hax hI hnl _ rfl s' hs') (fun f s₁ h₁ => ?_) fun _ _ e => e
  obtain ⟨rfl, P, pv, ps, hl₁, hps, hain, hlen, hgood⟩ := h₁
  dsimp only
  refine execs_step (body := lawBody) 1 rfl ?_
  refine wpAny_mono (law_2 P pv ps hps hlen hgood 1 (Nat.le_refl 1) _ _ (.head _) (.head _) ?_ _ rfl s₁ hl₁) (fun f s₂ h₂ => ?_) fun _ _ e => e
  · intro p hp; rw [List.mem_singleton.mp hp]; show Str.ofString "patterns" ≠ Str.ofString "dotted"; decide
  obtain ⟨rfl, PD, dv, hl₂, hdv⟩ := h₂
  dsimp only
  refine execs_step (body := lawBody) 2 rfl ?_
  refine wpAny_mono (law_3 P pv ps hps hlen hgood 1 (Nat.le_refl 1) _ _ (.tail _ (.head _)) (.tail _ (.head _)) ?_ _ rfl s₂ hl₂) (fun f s₃ h₃ => ?_) fun _ _ e => e
  · intro p hp
    simp only [List.mem_cons, List.not_mem_nil, or_false] at hp
    rcases hp with rfl | rfl
    · show Str.ofString "dotted" ≠ Str.ofString "bare"; decide
    · show Str.ofString "patterns" ≠ Str.ofString "bare"; decide
  obtain ⟨rfl, PB, bv, hl₃, hbv⟩ := h₃
  dsimp only
  refine execs_step (body := lawBody) 3 rfl ?_
  refine wpAny_mono (law_4 X T P pv ps hps hlen hgood hain 1 (Nat.le_refl 1) _ _ (.tail _ (.tail _ (.head _))) (.tail _ (.tail _ (.head _))) _ rfl s₃ hl₃) (fun f s₄ h₄ => ?_) fun _ _ e => e
  obtain ⟨rfl, Dt, tv, ts, hl₄, htv, hnd, hsort, htl, hmem⟩ := h₄
  dsimp only
  have dlen : ∀ p ∈ ps, (dotP p).length ≤ 1000 := fun p hp => Nat.le_trans (rep_len (hgood p hp) (by decide)) (by omega)
  have blen : ∀ p ∈ ps, (bareP p).length ≤ 1000 := fun p hp => Nat.le_trans (rep_len (hgood p hp) (by decide)) (by omega)
  have tlen := text_len hgood hnd hsort hmem
  have hdv' : StrsAre dv (ps.map dotP) := hdv
  have hbv' : StrsAre bv (ps.map bareP) := hbv
  refine execs_step (body := lawBody) 4 rfl ?_
  refine wpAny_mono (law_5 X T hdp PD dv _ hdv' (by rw [List.length_map]; omega) ?_ Dt tv ts htv (by omega) tlen 1 _ _ (.tail _ (.head _)) (.tail _ (.tail _ (.head _))) (.head _) ?_ _ rfl s₄ hl₄) (fun f s₅ h₅ => ?_) fun _ _ e => e
  · intro d hd'
    obtain ⟨p, hp, rfl⟩ := List.mem_map.mp hd'
    exact dlen p hp
  · intro p hp
    simp only [List.mem_cons, List.not_mem_nil, or_false] at hp
    rcases hp with rfl | rfl | rfl
    · show Str.ofString "bare" ≠ Str.ofString "taken"; decide
    · show Str.ofString "dotted" ≠ Str.ofString "taken"; decide
    · show Str.ofString "patterns" ≠ Str.ofString "taken"; decide
  obtain ⟨rfl, TK, rt, hl₅, hrt⟩ := h₅
  dsimp only
  refine execs_step (body := lawBody) 5 rfl ?_
  refine wpAny_mono (law_6 X T hdp P pv ps hps (by omega) (fun p hp => Nat.le_trans (hgood p hp).1 (by omega)) Dt tv ts htv (by omega) tlen 1 _ _ (.tail _ (.tail _ (.tail _ (.head _)))) (.tail _ (List.mem_append_right _ (.tail _ (.tail _ (.tail _ (.head _)))))) (.tail _ (List.mem_append_right _ (.head _))) ?_ _ rfl s₅ hl₅) (fun f s₆ h₆ => ?_) fun _ _ e => e
  · intro p hp
    simp only [List.mem_cons, List.not_mem_nil, or_false] at hp
    rcases hp with rfl | rfl | rfl | rfl
    · show Str.ofString "taken" ≠ Str.ofString "meant"; decide
    · show Str.ofString "bare" ≠ Str.ofString "meant"; decide
    · show Str.ofString "dotted" ≠ Str.ofString "meant"; decide
    · show Str.ofString "patterns" ≠ Str.ofString "meant"; decide
  obtain ⟨rfl, MT, rm, hl₆, hrm⟩ := h₆
  dsimp only
  have R : Room [(Str.ofString "meant", Value.ref MT), (Str.ofString "taken", Value.ref TK), (Str.ofString "bare", Value.ref PB), (Str.ofString "dotted", Value.ref PD), (Str.ofString "patterns", Value.ref P)]
      ((MT, rm.map fun r => Value.ref r.1) :: (rm ++ (TK, rt.map fun r => Value.ref r.1) :: (rt ++ [(Dt, tv), (PB, bv), (PD, dv), (P, pv)]))) ps ts P PD PB TK MT pv dv bv (rt.map fun r => Value.ref r.1) (rm.map fun r => Value.ref r.1) := {
    nP := .tail _ (.tail _ (.tail _ (.tail _ (.head _))))
    nD := .tail _ (.tail _ (.tail _ (.head _)))
    nB := .tail _ (.tail _ (.head _))
    nT := .tail _ (.head _)
    nM := .head _
    lP := .tail _ (List.mem_append_right _ (.tail _ (List.mem_append_right _ (.tail _ (.tail _ (.tail _ (.head _)))))))
    lD := .tail _ (List.mem_append_right _ (.tail _ (List.mem_append_right _ (.tail _ (.tail _ (.head _))))))
    lB := .tail _ (List.mem_append_right _ (.tail _ (List.mem_append_right _ (.tail _ (.head _)))))
    lT := .tail _ (List.mem_append_right _ (.head _))
    lM := .head _
    sP := hps
    sD := hdv'
    sB := hbv'
    fT := by
      intro i p hp
      obtain ⟨td, hd'⟩ := hdv'.get i (dotP p) (by rw [List.getElem?_map, hp]; rfl)
      obtain ⟨r, hr, x, t, e, hs⟩ := Paired.getR hrt hd'
      cases e
      exact ⟨r.1, r.2, by rw [List.getElem?_map, hr]; rfl, .tail _ (List.mem_append_right _ (.tail _ (List.mem_append_left _ (List.mem_of_getElem? hr)))), hs⟩
    fM := by
      intro i p hp
      obtain ⟨tp, hp'⟩ := hps.get i p hp
      obtain ⟨r, hr, x, t, e, hs⟩ := Paired.getR hrm hp'
      cases e
      exact ⟨r.1, r.2, by rw [List.getElem?_map, hr]; rfl, .tail _ (List.mem_append_left _ (List.mem_of_getElem? hr)), hs⟩
    len := hlen
    tlen := by omega
    dl := dlen
    bl := blen
    ok := fun p hp q hq => pair_ok hgood hnd hsort hmem hp hq
    fresh := by
      intro z hz
      simp only [List.mem_cons, List.not_mem_nil, or_false] at hz
      rcases hz with rfl | rfl | rfl | rfl | rfl
      · exact ⟨show Str.ofString "meant" ≠ Str.ofString "missing" by decide, show Str.ofString "meant" ≠ Str.ofString "unexpected" by decide, show Str.ofString "meant" ≠ Str.ofString "one" by decide, show Str.ofString "meant" ≠ Str.ofString "other" by decide⟩
      · exact ⟨show Str.ofString "taken" ≠ Str.ofString "missing" by decide, show Str.ofString "taken" ≠ Str.ofString "unexpected" by decide, show Str.ofString "taken" ≠ Str.ofString "one" by decide, show Str.ofString "taken" ≠ Str.ofString "other" by decide⟩
      · exact ⟨show Str.ofString "bare" ≠ Str.ofString "missing" by decide, show Str.ofString "bare" ≠ Str.ofString "unexpected" by decide, show Str.ofString "bare" ≠ Str.ofString "one" by decide, show Str.ofString "bare" ≠ Str.ofString "other" by decide⟩
      · exact ⟨show Str.ofString "dotted" ≠ Str.ofString "missing" by decide, show Str.ofString "dotted" ≠ Str.ofString "unexpected" by decide, show Str.ofString "dotted" ≠ Str.ofString "one" by decide, show Str.ofString "dotted" ≠ Str.ofString "other" by decide⟩
      · exact ⟨show Str.ofString "patterns" ≠ Str.ofString "missing" by decide, show Str.ofString "patterns" ≠ Str.ofString "unexpected" by decide, show Str.ofString "patterns" ≠ Str.ofString "one" by decide, show Str.ofString "patterns" ≠ Str.ofString "other" by decide⟩ }
  refine execs_step (body := lawBody) 6 rfl ?_
  refine wpAny_mono (law_7 X T hdp hun R _ rfl s₆ (hl₆.less (Nat.zero_le _) (fun p hp => hp) (fun p hp => hp))) (fun f s₇ h₇ => ?_) fun _ _ e => e
  obtain ⟨rfl, hl₇⟩ := h₇
  dsimp only
  refine execs_step (body := lawBody) 7 rfl ?_
  obtain ⟨h, tk, dr, u, rfl, hb, F, hc, hnm, hls⟩ := hl₇
  walk1
  walk1
  exact hQ h dr tk u F
end
end Mine

/- part MLaw13 -/
theorem Mine.offMLaw13 : True := by
  w_top off
  trivial
namespace Mine
open PySem PySem.Spec PySem.Calls PySem.W PyProof.Rows PySem.Builtin PySem.Builtin.Str
set_option maxHeartbeats 1000000
theorem law0 : PySem.Challenge.rw_mq0154_01.Holds := hd (by
  k_go0
  (all_goals try k_fold)
  rename Fr _ _ _ _ => F0
  rename News _ _ _ _ => N0
  rename Frag.In _ _ => KX
  rename Top _ _ _ _ _ _ => TT
  rename Heap.IsList _ _ _ => hL
  rename IntsAre _ _ => hI
  rename ¬ _ < _ => hcond
  refine law_all KX TT ?_ ?_ _ _ _ hL hI ?_ _ ?_ ?_
  · decide
  · decide
  · omega
  · skip
    rename Obj => oc
    refine ⟨_, _, _, _, rfl, Nat.zero_le _, F0, ⟨_, (N0 _ (.head _)).1, ?_⟩, ?_, ?_⟩
    · assumption
    · intro p hp
      rw [List.mem_singleton.mp hp]
      rfl
    · intro p hp; cases hp
  · intro h dr tk u F
    rename _ = #[] => hgens
    show GoodW _ _ _ _ _ _ _
    refine goodW_bool F hgens (raisesW_false ?_) ?_
    · wrow_none_raised
    · kc_post)
end Mine

theorem PySem.Challenge.cw_mq0154_01_holds : PySem.Challenge.rw_mq0154_01.Holds := by
  exact Mine.law0
