import PyProof.Rows.All
import Wide.All
import OpenK.AllK
import Wide.FinOn
import PySem.Challenge.RW_ab5004_01
set_option Elab.async false
set_option linter.unusedVariables false
set_option linter.unusedSimpArgs false

section
open PySem PySem.W PyProof.Rows
namespace Ab
set_option maxRecDepth 100000
set_option maxHeartbeats 8000000
open_top hd for PySem.Challenge.rw_ab5004_01
end Ab
end

section
open PySem PySem.W PyProof.Rows PySem.Spec PySem.Calls
namespace Ab
set_option maxRecDepth 100000
set_option maxHeartbeats 8000000

/-- what a call keeps: the whole heap of the caller -/
abbrev Kept (h h' : Heap) : Prop := ∀ b o, h.get? b = some o → h'.get? b = some o

section
variable {prog : Program} {w : World} {A A₀ : Around} {s : Shared} {K : Frag} {L : Addr} {h₀ base : Heap}
  {m mg mb : Str → Option Value} {p : Program} {loose : List Str}
  {mean : ExcName → Option Value} {env : Env} {outer : List Env} {Q E : Value → Shared → Prop} {name qual : Str}
  {params : Arguments} {body : List Stmt} {scope : Scope} {dV kV doc pm cdv ct oc : Value} {an od : Option Addr}
  {osl : Array (Option Value)} {f : Addr} {args : List Value} {binds : List (Str × Value)}

/-- the end of a body that is walked over the caller's heap as its ground -/
def Back (g : Heap) (Q : Value → Shared → Prop) (s : Shared) (v : Value) (s' : Shared) : Prop :=
  ∃ h' tk', s' = { s with heap := h', toks := tk' } ∧ Kept g h' ∧ Q v s'

theorem back_intro {g h' : Heap} {s : Shared} {v : Value} {tk' : Nat} (k : Kept g h') (q : Q v { s with heap := h', toks := tk' }) :
    Back g Q s v { s with heap := h', toks := tk' } := ⟨h', tk', rfl, k, q⟩

theorem enterP (B : Below A₀ base outer h₀) (F : Fr h₀ L s.heap m) (X₀ : K.In h₀) (T : Top p loose mean mg mb h₀)
    (hA : A.frames = some (env :: outer)) (hf : env.frame = some L) (hke : env.scope.kind = .function)
    (ho : K.lookup f = some ⟨oc, od, .func (fnOf name qual params body scope dV kV doc pm an cdv ct), osl⟩) (hcd : codeIn K cdv qual = true) (hroom : A.depth < recursionLimit)
    (hbind : BindsTo s (fnOf name qual params body scope dV kV doc pm an cdv ct) ⟨args, []⟩ binds) (hloc : ∀ y ∈ binds, scope.names.lookup y.1 = some .local)
    (h : ∀ L' h₁ tk₁, Fr s.heap L' h₁ (fun y => binds.reverse.lookup y) → News s.heap L' h₁ [] → Below A base (env :: outer) s.heap → K.In s.heap → Top p loose mean mg mb s.heap →
      wpAny (model prog w) (A.deeper (envOf qual scope L' f cdv)) (execs body (envOf qual scope L' f cdv))
        (fun fl s' => Back s.heap Q s (match fl with | .ret v => v | _ => .none) s')
        (fun _ _ => False)
        { s with heap := h₁, toks := tk₁ })
    (hco : scope.isCoroutine = false) (hgen : scope.isGenerator = false) (hk : scope.kind = .function)
    (hcell : ∀ x ∈ scope.names, x.2 ≠ .cell) : wpAny (model prog w) A (call (.ref f) args) Q E s := by
  refine wpAny_call ?_
  obtain ⟨FG, BG, st, -⟩ := groundX (R := fun _ _ => True) B F (News.nil) hA hf hke
  refine codeAny_call_def (fd := fnX name qual params body scope [] dV kV doc pm an cdv ct) (body := body) (binds := binds) hroom ((X₀.keeps F.keep) _ _ ho) rfl (T.nolimit.keeps F.keep) (codeRec_of (X₀.keeps F.keep) hcd) rfl hbind hcell hloc (fun h₁ hns hk₁ => ?_) hco hgen hk
  refine wpAny_mono (h s.heap.objs.size h₁ _ ⟨hns, hk₁, Nat.le_refl _⟩ News.nil BG (X₀.keeps F.keep) (T.keeps F.keep)) (fun fl s' hl => ?_) fun _ _ y => y.elim
  obtain ⟨h', tk', rfl, hkk, hq⟩ := hl
  exact hq

theorem enterC (B : Below A₀ base outer h₀) (F : Fr h₀ L s.heap m) (X₀ : K.In h₀) (T : Top p loose mean mg mb h₀)
    (hA : A.frames = some (env :: outer)) (hf : env.frame = some L) (hke : env.scope.kind = .function)
    (ho : K.lookup f = some ⟨oc, od, .func (fnOf name qual params body scope dV kV doc pm an cdv ct), osl⟩) (hcd : codeIn K cdv qual = true) (hroom : A.depth < recursionLimit)
    (hbind : BindsTo s (fnOf name qual params body scope dV kV doc pm an cdv ct) ⟨args, []⟩ binds)
    (hkind : (binds.all fun y => scope.names.lookup y.1 == some .local || scope.names.lookup y.1 == some .cell) = true)
    (hnd : ((cellsFrom 0 scope.names []).map (·.1)).Nodup)
    (h : ∀ L' h₁ tk₁ cells, Fr s.heap L' h₁ (bindL (envOfC qual scope L' f cdv).kindOf binds fun _ => none) → News s.heap L' h₁ cells →
      CellsAre (bindC (envOfC qual scope L' f cdv).kindOf binds fun _ => none) (cellsFrom (L' + 1) scope.names []) cells → Below A base (env :: outer) s.heap → K.In s.heap → Top p loose mean mg mb s.heap →
      wpAny (model prog w) (A.deeper (envOfC qual scope L' f cdv)) (execs body (envOfC qual scope L' f cdv))
        (fun fl s' => Back s.heap Q s (match fl with | .ret v => v | _ => .none) s')
        (fun _ _ => False)
        { s with heap := h₁, toks := tk₁ })
    (hco : scope.isCoroutine = false) (hgen : scope.isGenerator = false) (hk : scope.kind = .function) : wpAny (model prog w) A (call (.ref f) args) Q E s := by
  refine wpAny_call ?_
  obtain ⟨FG, BG, st, -⟩ := groundX (R := fun _ _ => True) B F (News.nil) hA hf hke
  refine codeAny_call_function hroom ((X₀.keeps F.keep) _ _ ho) rfl hco hgen rfl (codeRec_of (X₀.keeps F.keep) hcd) (hbind _ _ _ _ ?_)
  refine wpAny_newFunctionEnv_cells hk (kindsX hkind _) fun env' he s' x => ?_
  subst he
  refine ⟨(T.nolimit.keeps F.keep).keeps x.toInCall.keep, codeAny_func ?_⟩
  obtain ⟨h₁, tk, rfl, _⟩ := x.done
  have hk₁ := x.toInCall.keep
  obtain ⟨cells, NC, Y⟩ := Cl.news (h₀ := s.heap) (Nat.le_refl _) fun n c hm => ⟨x.cell n c (lookup_of_mem_nodup (cellsFrom_names scope.names 0 (s.heap.objs.size + 1) [] [] rfl ▸ hnd) hm), x.above n c hm⟩
  refine wpAny_mono (h s.heap.objs.size h₁ tk cells ⟨x.toInCall.ns, hk₁, Nat.le_refl _⟩ NC Y BG (X₀.keeps F.keep) (T.keeps F.keep)) (fun fl s' hl => ?_) fun _ _ y => y.elim
  obtain ⟨h', tk', rfl, hkk, hq⟩ := hl
  exact hq
end
end Ab
end

section
open PySem PySem.W PyProof.Rows PySem.Spec PySem.Calls
set_option maxRecDepth 100000
set_option maxHeartbeats 4000000
namespace Ab
open PyProof.Rows.LCg

def Stop (P : Prop) : Prop := P
theorem Stop.intro {P : Prop} (h : Stop P) : P := h
theorem Stop.out {P : Prop} (h : P) : Stop P := h

section
variable {prog : Program} {w : World} {A : Around} {E : Value → Shared → Prop} {s : Shared} {h₀ : Heap} {L : Addr} {m : Str → Option Value} {env : Env}

/-- a turn's end, told apart from the library's own -/
def TurnEnd (h₀ : Heap) (L : Addr) (m : Str → Option Value) (s₁ : Shared) (own : List (Addr × Obj)) (Off : List (Addr × Obj) → Prop) (rest : Value → List (Addr × Obj) → Prop) (y : Value) (s₂ : Shared) : Prop :=
  ∃ h' tk news', s₂ = { s₁ with heap := h', toks := tk } ∧ Fr h₀ L h' m ∧ News h₀ L h' (own ++ news') ∧ Off news' ∧ rest y news'

theorem TurnEnd.intro {s₁ : Shared} {own : List (Addr × Obj)} {Off : List (Addr × Obj) → Prop} {rest : Value → List (Addr × Obj) → Prop} {y : Value} {h' : Heap} {tk : Nat} {all : List (Addr × Obj)}
    (F : Fr h₀ L h' m) (N : News h₀ L h' all) (news' : List (Addr × Obj)) (sub : ∀ p ∈ own ++ news', p ∈ all) (off : Off news') (r : rest y news') :
    TurnEnd h₀ L m s₁ own Off rest y { s₁ with heap := h', toks := tk } := ⟨h', tk, news', rfl, F, fun p hp => N p (sub p hp), off, r⟩

theorem crest_inv {elt : Expr} {x : Str} {scope : Scope} {cl : List (Str × Addr)} {S : List (Addr × Obj) → Prop} {P : Nat → Value → Prop} {Fin : List Value → List (Addr × Obj) → Prop} {n : Nat}
    (J : Nat → List Value → List (Addr × Obj) → Prop)
    (turn : ∀ i v ys nw I oI C oC D m₂ h tk (E' : Value → Shared → Prop), i < n → P i v → J i ys nw → NsObj oC m₂ → m₂ x = some v → Fr h₀ L h m → News h₀ L h ((I, oI) :: (C, oC) :: (D, lst ys) :: nw) → Off3 I C D nw → ((@Ne Nat I C) ∧ (@Ne Nat I D) ∧ (@Ne Nat C D)) →
      wpAny (model prog w) A (eval elt (compEnvC scope cl C env)) (TurnEnd h₀ L m { s with heap := h, toks := tk } [(I, oI), (C, oC), (D, lst ys)] (Off3 I C D) (fun y nw' => S nw' ∧ J (i + 1) (ys ++ [y]) nw')) E' { s with heap := h, toks := tk })
    (fin : ∀ ys nw, J n ys nw → Fin ys nw) : ∀ (j i : Nat) (ys : List Value) (nw : List (Addr × Obj)), i + j = n → J i ys nw → CompRest prog w A h₀ L m env elt x scope cl s S P Fin j i ys nw := by
  intro j
  induction j with
  | zero =>
    intro i ys nw hi hJ
    have e : i = n := by omega
    subst e
    exact CompRest.zero (fin ys nw hJ)
  | succ j ih =>
    intro i ys nw hi hJ
    refine CompRest.succ ?_
    intro v I oI C oC D m₂ h tk E' hv hC hx F N off ne
    refine wpAny_mono (turn i v ys nw I oI C oC D m₂ h tk E' (by omega) hv hJ hC hx F N off ne) (fun y s₂ hq => ?_) fun _ _ e => e
    obtain ⟨h', tk', nw', e, F', N', off', hS, hJ'⟩ := hq
    exact ⟨h', tk', nw', e, F', N', off', hS, ih (i + 1) _ nw' (by omega) hJ'⟩

theorem crestT_inv {ct elt : Expr} {x : Str} {scope : Scope} {cl : List (Str × Addr)} {S : List (Addr × Obj) → Prop} {P : Nat → Value → Prop} {Fin : List Value → List (Addr × Obj) → Prop} {n : Nat}
    (J : Nat → List Value → List (Addr × Obj) → Prop)
    (turn : ∀ i v ys nw I oI C oC D m₂ h tk (E' : Value → Shared → Prop), i < n → P i v → J i ys nw → NsObj oC m₂ → m₂ x = some v → Fr h₀ L h m → News h₀ L h ((I, oI) :: (C, oC) :: (D, lst ys) :: nw) → Off3 I C D nw → ((@Ne Nat I C) ∧ (@Ne Nat I D) ∧ (@Ne Nat C D)) →
      wpAny (model prog w) A (isTrue ct (compEnvC scope cl C env) (eval ct (compEnvC scope cl C env))) (fun ok s' => if ok = true then
        wpAny (model prog w) A (eval elt (compEnvC scope cl C env)) (TurnEnd h₀ L m { s with heap := h, toks := tk } [(I, oI), (C, oC), (D, lst ys)] (Off3 I C D) (fun y nw' => S nw' ∧ J (i + 1) (ys ++ [y]) nw')) E' s'
        else TurnEnd h₀ L m { s with heap := h, toks := tk } [(I, oI), (C, oC), (D, lst ys)] (Off3 I C D) (fun _ nw' => S nw' ∧ J (i + 1) ys nw') Value.none s') E' { s with heap := h, toks := tk })
    (fin : ∀ ys nw, J n ys nw → Fin ys nw) : ∀ (j i : Nat) (ys : List Value) (nw : List (Addr × Obj)), i + j = n → J i ys nw → LCt.CompRestT prog w A h₀ L m env ct elt x scope cl s S P Fin j i ys nw := by
  intro j
  induction j with
  | zero =>
    intro i ys nw hi hJ
    have e : i = n := by omega
    subst e
    exact LCt.CompRestT.zero (fin ys nw hJ)
  | succ j ih =>
    intro i ys nw hi hJ
    refine LCt.CompRestT.succ ?_
    intro v I oI C oC D m₂ h tk E' hv hC hx F N off ne
    refine wpAny_mono (turn i v ys nw I oI C oC D m₂ h tk E' (by omega) hv hJ hC hx F N off ne) (fun ok s₂ hq => ?_) fun _ _ e => e
    cases ok with
    | true =>
      simp only [if_true] at hq ⊢
      refine wpAny_mono hq (fun y s₃ hq => ?_) fun _ _ e => e
      obtain ⟨h', tk', nw', e, F', N', off', hS, hJ'⟩ := hq
      exact ⟨h', tk', nw', e, F', N', off', hS, ih (i + 1) _ nw' (by omega) hJ'⟩
    | false =>
      simp only [Bool.false_eq_true, if_false] at hq ⊢
      obtain ⟨h', tk', nw', e, F', N', off', hS, hJ'⟩ := hq
      exact ⟨h', tk', nw', e, F', N', off', hS, ih (i + 1) _ nw' (by omega) hJ'⟩
end

theorem lookup_relabel_cell {env : Env} : ∀ {names : List (Str × NameKind)} {x : Str}, names.lookup x = some .cell →
    (names.map fun (n, k) => if (k == NameKind.free && env.scope.kind == .function && env.kindOf n == some .cell) then (n, NameKind.cell) else (n, k)).lookup x = some .cell
  | [], _, h => by simp at h
  | (n, k) :: r, x, h => by
    have ih := @lookup_relabel_cell env r x
    show List.lookup x ((if (k == NameKind.free && env.scope.kind == .function && env.kindOf n == some .cell) = true then (n, NameKind.cell) else (n, k)) :: _) = _
    cases hx : x == n with
    | true =>
      simp only [List.lookup_cons, hx] at h
      cases h
      simp [List.lookup_cons, hx]
    | false =>
      simp only [List.lookup_cons, hx] at h
      by_cases hc : (k == NameKind.free && env.scope.kind == .function && env.kindOf n == some .cell) = true
      · rw [if_pos hc]; simp only [List.lookup_cons, hx]; exact ih h
      · rw [if_neg hc]; simp only [List.lookup_cons, hx]; exact ih h

abbrev cell0 : Obj := { cls := .type "cell", data := .cell none }

def Off4 (I C D P : Addr) (l : List (Addr × Obj)) : Prop := ∀ p ∈ l, p.1 ≠ I ∧ p.1 ≠ C ∧ p.1 ≠ D ∧ p.1 ≠ P

section
variable {prog : Program} {w : World} {A : Around} {E : Value → Shared → Prop} {s : Shared} {h₀ : Heap} {L : Addr} {m : Str → Option Value} {env : Env}

/-- the environment of a comprehension with one cell of its own -/
theorem newEnv_cell {scope : Scope} {cl : List (Str × Addr)} {Q : Env → Shared → Prop} {M : Model} {x : Str}
    (hcf : ∀ n, cellsFrom n scope.names cl = (x, n) :: cl) (hpc : ∀ h, pushCells h scope.names = h.push cell0)
    (h : Q (newEnv scope s.heap.objs.size env.globals ((x, s.heap.objs.size + 1) :: cl) env.qual none .none (some env) builtinsNs)
      { s with heap := (s.heap.push { cls := .type "dict", data := .dict #[] }).push cell0 }) :
    wpAny M A (newFunctionEnv scope env.globals cl [] env.qual none .none (some env)) Q E s := by
  simp only [newFunctionEnv, Option.isSome_some, if_true]
  refine wpAny_bind (wpAny_alloc ?_)
  refine wpAny_bind (wpAny_layCells _ (fun name kind cells => by cases hkc : kind == NameKind.cell <;> simp [hkc]) _ _ _ _ ?_)
  rw [show ({ s with heap := s.heap.push { cls := .type "dict", data := .dict #[] } } : Shared).heap.objs.size = s.heap.objs.size + 1 from Heap.size_push ..]
  rw [hcf, hpc]
  refine wpAny_bind ?_
  rw [List.forIn_nil]
  exact wpAny_pure (wpAny_pure h)

theorem block_C {elt iter : Expr} {x : Str} {px : Pos} {scope : Scope} {cl : List (Str × Addr)} {pos : Pos} {s₂ : Shared} {I ax : Addr} {its : Array Value} {news : List (Addr × Obj)}
    {RR : Value → Addr → Result → Shared → Prop} (J : Nat → List Value → List (Addr × Obj) → Prop)
    (hh : A.handled = none) (hl₀ : h₀.IsList ax its) (hsz : its.size ≤ sizeLine)
    (hcf : ∀ n, cellsFrom n scope.names cl = (x, n) :: cl) (hpc : ∀ h, pushCells h scope.names = h.push cell0)
    (hkind : scope.kind = .function) (hx : scope.names.lookup x = some .cell)
    (hit : s₂.heap.IsListIter I ax 0) (hIlt : I < s₂.heap.objs.size)
    (F : Fr h₀ L s₂.heap m) (N : News h₀ L s₂.heap news) (hIL : L ≠ I) (hI₀ : h₀.get? I = none) (off : ∀ p ∈ news, p.1 ≠ I)
    (hj : J 0 [] news)
    (turn : ∀ i v ys nw I oI C oC D P oP h tk (E' : Value → Shared → Prop), its[i]? = some v → J i ys nw → oP.data = .cell (some v) → Fr h₀ L h m → News h₀ L h ((I, oI) :: (C, oC) :: (D, lst ys) :: (P, oP) :: nw) → Off4 I C D P nw → I ≠ C ∧ I ≠ D ∧ C ≠ D ∧ I ≠ P ∧ C ≠ P ∧ D ≠ P →
      wpAny (model prog w) A (eval elt (compEnvC scope ((x, P) :: cl) C env)) (TurnEnd h₀ L m { s₂ with heap := h, toks := tk } [(I, oI), (C, oC), (D, lst ys), (P, oP)] (Off4 I C D P) (fun y nw' => J (i + 1) (ys ++ [y]) nw')) E' { s₂ with heap := h, toks := tk })
    (hRR : ∀ D C h tk m' ys news', Fr h₀ L h m → News h₀ L h ((D, lst ys) :: news') → (∀ p ∈ news', p.1 ≠ D) → h.Ns C m' → h₀.get? C = none → h₀.get? D = none → C ≠ L → D ≠ L → C ≠ D → (∀ p ∈ news', p.1 ≠ C) → J its.size ys news' → RR (.ref D) C (.ok .next) { s₂ with heap := h, toks := tk }) :
    wpAny (model prog w) A (newList []) (fun acc s₃ => wpAny (model prog w) A (newFunctionEnv scope env.globals cl [] env.qual none .none (some env)) (fun cenv s₄ =>
      codeAny (model prog w) A (.compStart (.ListComp elt [⟨.Name x px, iter, [], 0⟩] scope pos) 0 (.ref I) acc { cenv with scope := relabel scope env }) (RR acc cenv.locals) s₄) E s₃) E s₂ := by
  refine wpAny_newObj_type (newEnv_cell hcf hpc ?_)
  dsimp only
  generalize hH2 : s₂.heap.push { cls := .type "list", dict := none, data := .seq ([] : List Value).toArray } = H2
  have hC : H2.objs.size = s₂.heap.objs.size + 1 := by rw [← hH2, Heap.size_push]
  generalize hD : s₂.heap.objs.size = D at hC ⊢
  generalize hCC : H2.objs.size = C at hC ⊢
  generalize hh₁ : (H2.push { cls := .type "dict", data := .dict #[] }).push cell0 = h₁
  have hs1 : (H2.push { cls := .type "dict", data := .dict #[] }).objs.size = C + 1 := by rw [Heap.size_push, hCC]
  have hltD : @LT.lt Nat _ I D := hD ▸ hIlt
  have hDC : @Ne Nat D C := by omega
  have hDP : @Ne Nat D (C + 1) := by omega
  have hCP : @Ne Nat C (C + 1) := by omega
  have hIC : @Ne Nat I C := by omega
  have hIP : @Ne Nat I (C + 1) := by omega
  have hID : @Ne Nat I D := by omega
  have old : ∀ b o, s₂.heap.get? b = some o → h₁.get? b = some o := fun b o e => by
    rw [← hh₁]
    exact Heap.get?_push_of_some _ (Heap.get?_push_of_some _ (hH2 ▸ Heap.get?_push_of_some _ e))
  have hacc : h₁.get? D = some (lst []) := by
    rw [← hh₁]
    refine Heap.get?_push_of_some _ (Heap.get?_push_of_some _ ?_)
    rw [← hH2, ← hD]
    exact Heap.get?_push_size _ rfl
  have hns₁ : h₁.Ns C (fun _ => none) := by
    rw [← hh₁, ← hCC]
    exact (Heap.Ns.new H2 (.type "dict")).keeps fun b o e => Heap.get?_push_of_some _ e
  have hP₁ : h₁.IsCell (C + 1) none := by
    rw [← hh₁, ← hs1]
    exact ⟨_, Heap.get?_push_size _ rfl, rfl⟩
  have fresh₀ : ∀ a, D ≤ a → h₀.get? a = none := fun a ha => by
    cases e : h₀.get? a with
    | none => rfl
    | some o' =>
      have := Heap.lt_size (F.keep a o' e)
      rw [hD] at this
      exact absurd this (Nat.not_lt.mpr ha)
  have hD₀ : h₀.get? D = none := fresh₀ _ (Nat.le_refl _)
  have hC₀ : h₀.get? C = none := fresh₀ _ (by show @LE.le Nat _ _ _; omega)
  have hP₀ : h₀.get? (C + 1) = none := fresh₀ _ (by show @LE.le Nat _ _ _; omega)
  have hLlt : @LT.lt Nat _ L D := hD ▸ F.ns.lt
  have hDL : @Ne Nat D L := by omega
  have hCL : @Ne Nat C L := by omega
  have hPL : @Ne Nat (C + 1) L := by omega
  have lt2 : ∀ p ∈ news, @LT.lt Nat _ p.1 D := fun p hp => hD ▸ Heap.lt_size (N p hp).1
  have off₀ : Off4 I C D (C + 1) news := fun p hp => by
    have h1 := lt2 p hp
    have h2 : @Ne Nat p.1 C := by omega
    have h3 : @Ne Nat p.1 D := by omega
    have h4 : @Ne Nat p.1 (C + 1) := by omega
    exact ⟨off p hp, h2, h3, h4⟩
  have hl1 : ∀ h, Fr h₀ L h m → h.IsList ax its := fun h F => hl₀.at fun o e => F.keep _ _ e
  have axlt : ax ≠ I := by
    rintro rfl
    obtain ⟨o, e, _⟩ := hl₀
    rw [hI₀] at e; cases e
  have loop : ∀ s₃ : Shared, s₃ = { s₂ with heap := h₁ } →
      codeAny (model prog w) A (.compLoop (.ListComp elt [⟨.Name x px, iter, [], 0⟩] scope pos) 0 (.ref I) (.ref D) (compEnvC scope ((x, C + 1) :: cl) C env))
        (RR (.ref D) C) s₃ := by
    rintro s₃ rfl
    refine codeAny_compLoop_tests
      (fun k s' => ∃ h' tk i ys m' news' c, s' = { s₂ with heap := h', toks := tk } ∧ i ≤ its.size ∧ k = its.size + 1 - i ∧ ys.length = i ∧ h'.IsListIter I ax i ∧ Fr h₀ L h' m ∧ h'.Ns C m' ∧ h'.IsCell (C + 1) c ∧ News h₀ L h' ((D, lst ys) :: news') ∧
        Off4 I C D (C + 1) news' ∧ J i ys news') ?_ (its.size + 1)
      ⟨h₁, _, 0, [], _, news, none, rfl, Nat.zero_le _, rfl, rfl, hit.at fun o e => old _ _ e, F.keeps old, hns₁, hP₁, fun p hp => ?_, off₀, hj⟩
    · rintro k s' ⟨h', tk, i, ys, m', news', c, rfl, hi, rfl, hyl, hit', F', hn', hc', N', off', hJ⟩
      by_cases hlt : i < its.size
      · refine wpAny_pyNext_list_item hit' (hl1 _ F') (x := its[i]) (by simp [hlt]) fun h₂ hit₂ hs₂ => ?_
        have F₂ : Fr h₀ L h₂ m := F'.change hs₂ (Ne.symm hIL) hI₀
        refine wpAny_assign_Name (wpAny_storeName_cell (c := C + 1) (by simp [compEnvC, relabel, hkind]) (lookup_relabel_cell hx) (by simp [compEnvC]) (hc'.sameBut hs₂ (Ne.symm hIP)) fun h₃ hc₃ hs₃ => ?_)
        refine wpAny_tests_nil ?_
        simp only [if_true]
        have F₃ : Fr h₀ L h₃ m := F₂.change hs₃ hPL hP₀
        obtain ⟨oI, heI, hoI⟩ := id (hit₂.at (h' := h₃) fun o e => hs₃.extBut _ o hIP e)
        have hn₃ : h₃.Ns C m' := (hn'.sameBut hs₂ (Ne.symm hIC)).sameBut hs₃ hCP
        obtain ⟨oC, heC, hoC⟩ := ns_obj hn₃
        obtain ⟨oP, heP, hoP⟩ := hc₃
        have N₂ : ∀ p ∈ (D, lst ys) :: news', h₃.get? p.1 = some p.2 := fun p hp => by
          have z := (N' p hp).1
          rcases List.mem_cons.mp hp with rfl | hp
          · exact hs₃.extBut _ _ hDP (hs₂.extBut _ _ (Ne.symm hID) z)
          · exact hs₃.extBut _ _ (off' p hp).2.2.2 (hs₂.extBut _ _ (off' p hp).1 z)
        have N₃ : News h₀ L h₃ ((I, oI) :: (C, oC) :: (D, lst ys) :: (C + 1, oP) :: news') := fun p hp => by
          rcases List.mem_cons.mp hp with rfl | hp
          · exact ⟨heI, Ne.symm hIL, hI₀⟩
          rcases List.mem_cons.mp hp with rfl | hp
          · exact ⟨heC, hCL, hC₀⟩
          rcases List.mem_cons.mp hp with rfl | hp
          · exact ⟨N₂ _ List.mem_cons_self, hDL, hD₀⟩
          rcases List.mem_cons.mp hp with rfl | hp
          · exact ⟨heP, hPL, hP₀⟩
          · exact ⟨N₂ _ (List.mem_cons_of_mem _ hp), (N' p (List.mem_cons_of_mem _ hp)).2⟩
        refine wpAny_mono (turn i its[i] ys news' I oI C oC D (C + 1) oP h₃ _ _ (by simp [hlt]) hJ hoP F₃ N₃ off' ⟨hIC, hID, Ne.symm hDC, hIP, hCP, hDP⟩) (fun y s₄ h₄ => ?_) fun _ _ e => e
        obtain ⟨h₄, tk₄, news₄, rfl, F₄, N₄, off₄, J₄⟩ := h₄
        have zI := (N₄ (I, oI) (by simp)).1
        have zC := (N₄ (C, oC) (by simp)).1
        have zD := (N₄ (D, lst ys) (by simp)).1
        have zP := (N₄ (C + 1, oP) (by simp)).1
        have N₄' : News h₀ L h₄ news₄ := fun p hp => N₄ p (List.mem_append_right _ hp)
        refine append_at (hsz := by show ys.toArray.size ≤ sizeLine; rw [List.size_toArray, hyl]; exact Nat.le_trans hi hsz) zD fun h₅ hs₅ hD₅ => ?_
        refine ⟨its.size + 1 - (i + 1), by omega, h₅, tk₄, i + 1, ys ++ [y], _, news₄, some its[i], rfl, hlt, rfl, by rw [List.length_append, List.length_singleton, hyl], ⟨oI, hs₅.extBut _ _ hID zI, hoI⟩, F₄.change hs₅ hDL hD₀,
          (hoC.ns zC).sameBut hs₅ (Ne.symm hDC), ⟨oP, hs₅.extBut _ _ (Ne.symm hDP) zP, hoP⟩, fun p hp => ?_, off₄, J₄⟩
        rcases List.mem_cons.mp hp with rfl | hp
        · exact ⟨hD₅.trans (congrArg some (lst_snoc ys y)), hDL, hD₀⟩
        · exact ⟨hs₅.extBut _ _ (off₄ p hp).2.2.1 (N₄' p hp).1, (N₄' p hp).2⟩
      · obtain rfl : i = its.size := Nat.le_antisymm hi (Nat.not_lt.mp hlt)
        refine wpAny_pyNext_list_end hh hit' (hl1 _ F') (by simp) fun h₂ hk₂ => ?_
        have hk₂' : ∀ b o, b ∉ [I] → h'.get? b = some o → h₂.get? b = some o := fun b o hb e => hk₂ b o (by simpa using hb) e
        exact hRR _ _ h₂ _ _ ys news' (fr_but F' hk₂' hIL hI₀) (news_but N' hk₂' fun p hp => by
          rcases List.mem_cons.mp hp with rfl | hp
          · exact Ne.symm hID
          · exact (off' p hp).1) (fun p hp => (off' p hp).2.2.1) (hn'.at' fun o e => hk₂ _ o (Ne.symm hIC) e) hC₀ hD₀ hCL hDL (Ne.symm hDC) (fun p hp => (off' p hp).2.1) hJ
    · rcases List.mem_cons.mp hp with rfl | hp
      · exact ⟨hacc, hDL, hD₀⟩
      · exact ⟨old _ _ (N p hp).1, (N p hp).2⟩
  refine codeAny_compStart_list (loop _ rfl) ?_
  refine wpAny_pyIter_listiter (hit.at (h' := h₁) fun o e => old _ _ e) ?_
  exact loop _ rfl
end
end Ab
end

section
open PySem PySem.W PyProof.Rows PySem.Spec PySem.Calls
set_option maxRecDepth 100000
set_option maxHeartbeats 4000000
namespace Ab
open PyProof.Rows.LCg

section
variable {prog : Program} {w : World} {A : Around} {E : Value → Shared → Prop} {R : Result → Shared → Prop} {s : Shared} {h₀ : Heap} {L : Addr} {m : Str → Option Value} {env : Env}

theorem flat_turn0 (elt t0 i0 t1 i1 : Expr) (scope : Scope) (pos : Pos) (it acc : Value) (env : Env) :
    compTurn (.ListComp elt [⟨t0, i0, [], 0⟩, ⟨t1, i1, [], 0⟩] scope pos) 0 it acc env = (standAt i0.pos >>= fun _ => pyNext it >>= fun r => match r with
      | none => pure (.done .next)
      | some v => letOwnedTupleGo t0 it v >>= fun _ => assign t0 env v >>= fun _ =>
        eval i1 env >>= fun x => standAt i1.pos >>= fun _ => foldedSetIterable i1 env x >>= fun x => holding [x] (pyIter x) >>= fun it1 =>
          runOwn (.compStart (.ListComp elt [⟨t0, i0, [], 0⟩, ⟨t1, i1, [], 0⟩] scope pos) 1 it1 acc env) env >>= fun _ =>
          again (.compLoop (.ListComp elt [⟨t0, i0, [], 0⟩, ⟨t1, i1, [], 0⟩] scope pos) 0 it acc env)) := by rfl

theorem flat_turn1 (elt t0 i0 t1 i1 : Expr) (scope : Scope) (pos : Pos) (it acc : Value) (env : Env) :
    compTurn (.ListComp elt [⟨t0, i0, [], 0⟩, ⟨t1, i1, [], 0⟩] scope pos) 1 it acc env = (standAt i1.pos >>= fun _ => pyNext it >>= fun r => match r with
      | none => pure (.done .next)
      | some v => letOwnedTupleGo t1 it v >>= fun _ => assign t1 env v >>= fun _ =>
        (eval elt env >>= fun x => call (.builtin "list.append") [acc, x] >>= fun _ => pure ()) >>= fun _ =>
          again (.compLoop (.ListComp elt [⟨t0, i0, [], 0⟩, ⟨t1, i1, [], 0⟩] scope pos) 1 it acc env)) := by rfl

theorem flat_start1 {elt t0 i0 t1 i1 : Expr} {scope : Scope} {pos : Pos} {it acc : Value} {env : Env}
    (h0 : codeAny (model prog w) A (.compLoop (.ListComp elt [⟨t0, i0, [], 0⟩, ⟨t1, i1, [], 0⟩] scope pos) 1 it acc env) R s)
    (h : wpAny (model prog w) A (pyIter it) (fun it' s' => codeAny (model prog w) A (.compLoop (.ListComp elt [⟨t0, i0, [], 0⟩, ⟨t1, i1, [], 0⟩] scope pos) 1 it' acc env) R s')
      (notedBy (model prog w) A env fun x s' => R (.error x) s') s) :
    codeAny (model prog w) A (.compStart (.ListComp elt [⟨t0, i0, [], 0⟩, ⟨t1, i1, [], 0⟩] scope pos) 1 it acc env) R s := by
  refine codeAny_of_tree ?_
  show wpAny _ _ ((compStart (.ListComp elt [⟨t0, i0, [], 0⟩, ⟨t1, i1, [], 0⟩] scope pos) 1 it acc env).onRaise (fun x => do noteFrame x env; standAt theWindowsPlace)) _ _ s
  refine wpAny_notedAt ?_
  unfold compStart
  show wpAny _ _ (ask >>= _) _ _ s
  refine wpAny_bind (wpAny_askSetting (wpAny_ite ?_))
  split
  · first
      | exact wpAny_bind (wpAny_pure (wpAny_pure (And.intro rfl h0)))
      | exact wpAny_pure (And.intro rfl h0)
  · first
      | exact wpAny_bind (wpAny_rule (wpAny_bind (wpAny_standAt (wpAny_bind (wpAny_mono h (fun it' s' h' => wpAny_pure (And.intro rfl h')) fun _ _ x => x)))))
      | (refine wpAny_bind (wpAny_rule ?_); show wpAny _ _ (standAt i1.pos >>= _) _ _ s; exact wpAny_bind (wpAny_standAt (wpAny_bind (wpAny_mono h (fun it' s' h' => wpAny_pure (And.intro rfl h')) fun _ _ x => x))))

/-- the inner clause: each item of a list is appended -/
theorem flat_inner {t0 i0 i1 : Expr} {y : Str} {py py2 : Pos} {scope : Scope} {cl : List (Str × Addr)} {pos : Pos} {I a C D : Addr} {ys v : List Value} {m₀ : Str → Option Value}
    (hh : A.handled = none) (hD : s.heap.get? D = some (lst ys)) (hl : s.heap.IsList a v.toArray) (hit : s.heap.IsListIter I a 0) (hn : s.heap.Ns C m₀)
    (hIC : I ≠ C) (hID : I ≠ D) (hCD : C ≠ D) (haI : a ≠ I) (haC : a ≠ C) (haD : a ≠ D)
    (hkind : scope.kind = .function) (hy : scope.names.lookup y = some .local) (hdb : (y == ("__debug__" : Str)) = false) (hsz : (ys ++ v).length ≤ sizeLine)
    (hR : ∀ h' tk m', h'.get? D = some (lst (ys ++ v)) → h'.Ns C m' → (∀ b o, b ≠ I → b ≠ C → b ≠ D → s.heap.get? b = some o → h'.get? b = some o) → R (.ok .next) { s with heap := h', toks := tk }) :
    codeAny (model prog w) A (.compStart (.ListComp (.Name y py2) [⟨t0, i0, [], 0⟩, ⟨.Name y py, i1, [], 0⟩] scope pos) 1 (.ref I) (.ref D) (compEnvC scope cl C env)) R s := by
  have loop : codeAny (model prog w) A (.compLoop (.ListComp (.Name y py2) [⟨t0, i0, [], 0⟩, ⟨.Name y py, i1, [], 0⟩] scope pos) 1 (.ref I) (.ref D) (compEnvC scope cl C env)) R s := by
    refine codeAny_loop rfl
      (fun k s' => ∃ h' tk i m', s' = { s with heap := h', toks := tk } ∧ i ≤ v.length ∧ k = v.length + 1 - i ∧ h'.IsListIter I a i ∧ h'.Ns C m' ∧ h'.get? D = some (lst (ys ++ v.take i)) ∧
        (∀ b o, b ≠ I → b ≠ C → b ≠ D → s.heap.get? b = some o → h'.get? b = some o)) ?_ (v.length + 1)
      ⟨s.heap, s.toks, 0, m₀, rfl, Nat.zero_le _, rfl, hit, hn, by simpa using hD, fun _ _ _ _ _ e => e⟩
    rintro k s' ⟨h', tk, i, m', rfl, hi, rfl, hit', hn', hD', hk⟩
    show wpAny _ A ((compTurn _ 1 _ _ _).onRaise (fun x => do noteFrame x _; theTreesLotGoes x)) _ _ _
    refine wpAny_noted ?_
    rw [flat_turn1]
    have hl' : h'.IsList a v.toArray := hl.at fun o e => hk _ _ haI haC haD e
    refine wpAny_bind (wpAny_standAt (wpAny_bind ?_))
    by_cases hlt : i < v.length
    · refine wpAny_pyNext_list_item hit' hl' (x := v[i]) (by simp [hlt]) fun h₂ hit₂ hs₂ => ?_
      refine wpAny_bind (wpAny_of_eq (show letOwnedTupleGo _ _ _ = pure () from rfl) ?_)
      refine wpAny_bind (wpAny_assign_Name (wpAny_storeName_local (lookup_relabel_local hy) (hn'.sameBut hs₂ (Ne.symm hIC)) (fun h₃ hn₃ hs₃ => ?_) (by simp [compEnvC, relabel, hkind])))
      refine wpAny_bind (wpAny_bind ?_)
      refine wpAny_Name (wpAny_loadName_local (v := v[i]) (by simp [compEnvC, relabel, hkind]) (lookup_relabel_local hy) hn₃ (by simp) ?_) hdb
      have zD : h₃.get? D = some (lst (ys ++ v.take i)) := hs₃.extBut _ _ (Ne.symm hCD) (hs₂.extBut _ _ (Ne.symm hID) hD')
      have hsz' : (ys ++ v.take i).toArray.size ≤ sizeLine := by
        rw [List.length_append] at hsz
        rw [List.size_toArray, List.length_append, List.length_take]; omega
      refine wpAny_bind (append_at (hsz := hsz') zD fun h₄ hs₄ hD₄ => ?_)
      refine wpAny_pure (wpAny_pure ⟨rfl, v.length + 1 - (i + 1), by omega, h₄, _, i + 1, _, rfl, hlt, rfl, ?_, hn₃.sameBut hs₄ hCD, ?_, fun b o h1 h2 h3 e => ?_⟩)
      · obtain ⟨o, e, r⟩ := hit₂
        exact ⟨o, hs₄.extBut _ _ hID (hs₃.extBut _ _ hIC e), r⟩
      · refine hD₄.trans (congrArg some ((lst_snoc _ _).trans ?_))
        rw [List.append_assoc, List.take_add_one, List.getElem?_eq_getElem hlt]
        rfl
      · exact hs₄.extBut _ _ h3 (hs₃.extBut _ _ h2 (hs₂.extBut _ _ h1 (hk b o h1 h2 h3 e)))
    · obtain rfl : i = v.length := Nat.le_antisymm hi (Nat.not_lt.mp hlt)
      refine wpAny_pyNext_list_end hh hit' hl' (by simp) fun h₂ hk₂ => ?_
      refine wpAny_pure (hR h₂ _ m' ?_ (hn'.at' fun o e => hk₂ _ o (Ne.symm hIC) e) fun b o h1 h2 h3 e => hk₂ _ _ h1 (hk b o h1 h2 h3 e))
      have := hk₂ _ _ (Ne.symm hID) hD'
      rwa [List.take_length] at this
  exact flat_start1 loop (wpAny_pyIter_listiter hit loop)

theorem flat_take {vals : List (List Value)} {i : Nat} (h : i < vals.length) : (vals.take (i + 1)).flatten = (vals.take i).flatten ++ vals[i] := by
  rw [List.take_add_one, List.getElem?_eq_getElem h, List.flatten_append]
  simp

theorem flat_len {vals : List (List Value)} (i : Nat) : (vals.take i).flatten.length ≤ vals.flatten.length := by
  conv => rhs; rw [← List.take_append_drop i vals]
  rw [List.flatten_append, List.length_append]
  omega

theorem block_F {i0 : Expr} {x y : Str} {px px2 py py2 : Pos} {scope : Scope} {cl : List (Str × Addr)} {pos : Pos} {s₂ : Shared} {I ax : Addr} {its : Array Value} {vals : List (List Value)} {news : List (Addr × Obj)}
    {RR : Value → Addr → Result → Shared → Prop}
    (hh : A.handled = none) (hlen : its.size = vals.length) (hsz : vals.flatten.length ≤ sizeLine)
    (src : ∀ h : Heap, (∀ p ∈ news, h.get? p.1 = some p.2) → h.IsList ax its ∧ ∀ i (hi : i < vals.length), ∃ a, its[i]? = some (.ref a) ∧ h.IsList a vals[i].toArray)
    (hcell : ∀ z ∈ scope.names, z.2 ≠ .cell) (hkind : scope.kind = .function) (hx : scope.names.lookup x = some .local) (hy : scope.names.lookup y = some .local)
    (hdx : (x == ("__debug__" : Str)) = false) (hdy : (y == ("__debug__" : Str)) = false)
    (hit : s₂.heap.IsListIter I ax 0) (hIlt : I < s₂.heap.objs.size)
    (F : Fr h₀ L s₂.heap m) (N : News h₀ L s₂.heap news) (hIL : L ≠ I) (hI₀ : h₀.get? I = none) (off : ∀ p ∈ news, p.1 ≠ I)
    (hRR : ∀ D C h tk m', Fr h₀ L h m → News h₀ L h ((D, lst vals.flatten) :: news) → (∀ p ∈ news, p.1 < D) → h.Ns C m' → h₀.get? C = none → h₀.get? D = none → C ≠ L → D ≠ L → C ≠ D → (∀ p ∈ news, p.1 ≠ C) → RR (.ref D) C (.ok .next) { s₂ with heap := h, toks := tk }) :
    wpAny (model prog w) A (newList []) (fun acc s₃ => wpAny (model prog w) A (newFunctionEnv scope env.globals cl [] env.qual none .none (some env)) (fun cenv s₄ =>
      codeAny (model prog w) A (.compStart (.ListComp (.Name y py2) [⟨.Name x px, i0, [], 0⟩, ⟨.Name y py, .Name x px2, [], 0⟩] scope pos) 0 (.ref I) acc { cenv with scope := relabel scope env }) (RR acc cenv.locals) s₄) E s₃) E s₂ := by
  refine wpAny_newObj_type (wpAny_newFunctionEnv hcell (by intro y hy; simp at hy) (fun h₁ hns₁ hsb₁ => ?_) hkind)
  dsimp only at hns₁ hsb₁ ⊢
  generalize hH2 : s₂.heap.push { cls := .type "list", dict := none, data := .seq ([] : List Value).toArray } = H2 at hns₁ hsb₁ ⊢
  have hC : H2.objs.size = s₂.heap.objs.size + 1 := by rw [← hH2, Heap.size_push]
  generalize hD : s₂.heap.objs.size = D at hC ⊢
  generalize hCC : H2.objs.size = C at hC hns₁ hsb₁ ⊢
  have hltD : @LT.lt Nat _ I D := hD ▸ hIlt
  have hDC : @Ne Nat D C := by omega
  have hIC : @Ne Nat I C := by omega
  have hID : @Ne Nat I D := by omega
  have old : ∀ b o, s₂.heap.get? b = some o → h₁.get? b = some o := fun b o e => by
    have hb : @LT.lt Nat _ b D := hD ▸ Heap.lt_size e
    have hbC : @Ne Nat b C := by omega
    exact hsb₁.extBut b o hbC (Heap.get?_push_of_some _ (hH2 ▸ Heap.get?_push_of_some _ e))
  have hacc : h₁.get? D = some (lst []) := hsb₁.extBut _ _ hDC (Heap.get?_push_of_some _ (by rw [← hH2, ← hD]; exact Heap.get?_push_size _ rfl))
  have fresh₀ : ∀ a, D ≤ a → h₀.get? a = none := fun a ha => by
    cases e : h₀.get? a with
    | none => rfl
    | some o' =>
      have := Heap.lt_size (F.keep a o' e)
      rw [hD] at this
      exact absurd this (Nat.not_lt.mpr ha)
  have hD₀ : h₀.get? D = none := fresh₀ _ (Nat.le_refl _)
  have hC₀ : h₀.get? C = none := fresh₀ _ (by show @LE.le Nat _ _ _; omega)
  have hLlt : @LT.lt Nat _ L D := hD ▸ F.ns.lt
  have hDL : @Ne Nat D L := by omega
  have hCL : @Ne Nat C L := by omega
  have lt2 : ∀ p ∈ news, @LT.lt Nat _ p.1 D := fun p hp => hD ▸ Heap.lt_size (N p hp).1
  have offC : ∀ p ∈ news, @Ne Nat p.1 C := fun p hp => by have := lt2 p hp; omega
  have offD : ∀ p ∈ news, @Ne Nat p.1 D := fun p hp => by have := lt2 p hp; omega
  have srcS := src s₂.heap fun p hp => (N p hp).1
  have axlt : @LT.lt Nat _ ax D := by obtain ⟨o, e, _⟩ := srcS.1; exact hD ▸ Heap.lt_size e
  have loop : ∀ s₃ : Shared, s₃ = { s₂ with heap := h₁, toks := s₂.toks + ([] : List (Str × Value)).length } →
      codeAny (model prog w) A (.compLoop (.ListComp (.Name y py2) [⟨.Name x px, i0, [], 0⟩, ⟨.Name y py, .Name x px2, [], 0⟩] scope pos) 0 (.ref I) (.ref D) (compEnvC scope cl C env))
        (RR (.ref D) C) s₃ := by
    rintro s₃ rfl
    refine codeAny_loop rfl
      (fun k s' => ∃ h' tk i m', s' = { s₂ with heap := h', toks := tk } ∧ i ≤ vals.length ∧ k = vals.length + 1 - i ∧ h'.IsListIter I ax i ∧ Fr h₀ L h' m ∧ h'.Ns C m' ∧ News h₀ L h' ((D, lst (vals.take i).flatten) :: news)) ?_ (vals.length + 1)
      ⟨h₁, _, 0, _, rfl, Nat.zero_le _, rfl, hit.at fun o e => old _ _ e, F.keeps old, hns₁, fun p hp => ?_⟩
    · rintro k s' ⟨h', tk, i, m', rfl, hi, rfl, hit', F', hn', N'⟩
      show wpAny _ A ((compTurn _ 0 _ _ _).onRaise (fun x => do noteFrame x _; theTreesLotGoes x)) _ _ _
      refine wpAny_noted ?_
      rw [flat_turn0]
      have sr := src h' fun p hp => (N' p (List.mem_cons_of_mem _ hp)).1
      refine wpAny_bind (wpAny_standAt (wpAny_bind ?_))
      by_cases hlt : i < vals.length
      · obtain ⟨a, hia, hla⟩ := sr.2 i hlt
        have halt : @LT.lt Nat _ a D := by
          obtain ⟨a', hia', o, e, _⟩ := srcS.2 i hlt
          rw [hia] at hia'
          cases hia'
          exact hD ▸ Heap.lt_size e
        refine wpAny_pyNext_list_item hit' sr.1 hia fun h₂ hit₂ hs₂ => ?_
        refine wpAny_bind (wpAny_of_eq (show letOwnedTupleGo _ _ _ = pure () from rfl) ?_)
        refine wpAny_bind (wpAny_assign_Name (wpAny_storeName_local (lookup_relabel_local hx) (hn'.sameBut hs₂ (Ne.symm hIC)) (fun h₃ hn₃ hs₃ => ?_) (by simp [compEnvC, relabel, hkind])))
        have N₂ : News h₀ L h₂ ((D, lst (vals.take i).flatten) :: news) := fun p hp => by
          refine ⟨hs₂.extBut _ _ ?_ (N' p hp).1, (N' p hp).2⟩
          rcases List.mem_cons.mp hp with rfl | hp
          · exact Ne.symm hID
          · exact off p hp
        have N₃ : News h₀ L h₃ ((D, lst (vals.take i).flatten) :: news) := fun p hp => by
          refine ⟨hs₃.extBut _ _ ?_ (N₂ p hp).1, (N₂ p hp).2⟩
          rcases List.mem_cons.mp hp with rfl | hp
          · exact hDC
          · exact offC p hp
        have F₃ : Fr h₀ L h₃ m := (F'.change hs₂ (Ne.symm hIL) hI₀).change hs₃ hCL hC₀
        have hIlt3 : @LT.lt Nat _ D h₃.objs.size := Heap.lt_size (N₃ _ List.mem_cons_self).1
        have hClt3 : @LT.lt Nat _ C h₃.objs.size := hn₃.lt
        have hit₃ : h₃.IsListIter I ax (i + 1) := by obtain ⟨o, e, r⟩ := hit₂; exact ⟨o, hs₃.extBut _ _ hIC e, r⟩
        have sr₃ := src h₃ fun p hp => (N₃ p (List.mem_cons_of_mem _ hp)).1
        obtain ⟨a', hia', hla₃⟩ := sr₃.2 i hlt
        rw [hia] at hia'
        cases hia'
        refine wpAny_bind (wpAny_Name (wpAny_loadName_local (v := .ref a) (by simp [compEnvC, relabel, hkind]) (lookup_relabel_local hx) hn₃ (by simp) ?_) hdx)
        refine wpAny_bind (wpAny_standAt (wpAny_bind (wpAny_of_eq (show foldedSetIterable _ _ _ = pure (.ref a) from rfl) (wpAny_bind (wpAny_holding ?_)))))
        refine wpAny_pyIter_list hla₃ ?_
        refine wpAny_bind (wpAny_runOwn ?_)
        rw [Around.mark_none]
        generalize hI1 : h₃.objs.size = I1 at hIlt3 hClt3
        generalize hh₄ : h₃.push { cls := .type "list_iterator", data := .fields #[.ref a, .int 0 0] } = h₄
        have up : ∀ b o, h₃.get? b = some o → h₄.get? b = some o := fun b o e => hh₄ ▸ Heap.get?_push_of_some _ e
        have hI1C : @Ne Nat I1 C := by omega
        have hI1D : @Ne Nat I1 D := by omega
        have haI1 : @Ne Nat a I1 := by omega
        have haC : @Ne Nat a C := by omega
        have haD : @Ne Nat a D := by omega
        have hi1 : ∀ b o, h₃.get? b = some o → @Ne Nat b I1 := fun b o e => by have : @LT.lt Nat _ b h₃.objs.size := Heap.lt_size e; omega
        refine flat_inner (C := C) (m₀ := _) hh (up _ _ (N₃ _ List.mem_cons_self).1) (hla₃.at fun o e => up _ _ e) ?_ (hn₃.keeps up) hI1C hI1D (Ne.symm hDC) haI1 haC haD hkind hy hdy ?_ ?_
        · rw [← hh₄, ← hI1]
          exact ⟨_, Heap.get?_push_size _ rfl, rfl, rfl⟩
        · rw [← flat_take hlt]
          exact Nat.le_trans (flat_len _) hsz
        · intro h₅ tk₅ m₅ hD₅ hn₅ hk₅
          have kp : ∀ b o, b ≠ C → b ≠ D → h₃.get? b = some o → h₅.get? b = some o := fun b o h1 h2 e => hk₅ b o (hi1 _ _ e) h1 h2 (up _ _ e)
          refine wpAny_pure ⟨rfl, vals.length + 1 - (i + 1), by omega, h₅, _, i + 1, _, rfl, hlt, rfl, ?_, ?_, hn₅, fun p hp => ?_⟩
          · obtain ⟨o, e, r⟩ := hit₃; exact ⟨o, kp _ _ hIC hID e, r⟩
          · obtain ⟨oL, a1, a2, hoL, a3⟩ := F₃.ns
            refine ⟨⟨oL, a1, a2, kp _ _ (Ne.symm hCL) (Ne.symm hDL) hoL, a3⟩, fun b o e => kp _ _ ?_ ?_ (F₃.keep b o e), F₃.above⟩
            · rintro rfl; rw [hC₀] at e; cases e
            · rintro rfl; rw [hD₀] at e; cases e
          · rcases List.mem_cons.mp hp with rfl | hp
            · exact ⟨by rw [hD₅, flat_take hlt], hDL, hD₀⟩
            · exact ⟨kp _ _ (offC p hp) (offD p hp) (N₃ p (List.mem_cons_of_mem _ hp)).1, (N₃ p (List.mem_cons_of_mem _ hp)).2⟩
      · obtain rfl : i = vals.length := Nat.le_antisymm hi (Nat.not_lt.mp hlt)
        refine wpAny_pyNext_list_end hh hit' sr.1 (by simp [hlen]) fun h₂ hk₂ => ?_
        have hk₂' : ∀ b o, b ∉ [I] → h'.get? b = some o → h₂.get? b = some o := fun b o hb e => hk₂ b o (by simpa using hb) e
        rw [List.take_length] at N'
        refine wpAny_pure (hRR _ _ h₂ _ m' (fr_but F' hk₂' hIL hI₀) (news_but N' hk₂' fun p hp => ?_) lt2 (hn'.at' fun o e => hk₂ _ o (Ne.symm hIC) e) hC₀ hD₀ hCL hDL (Ne.symm hDC) offC)
        rcases List.mem_cons.mp hp with rfl | hp
        · exact Ne.symm hID
        · exact off p hp
    · rcases List.mem_cons.mp hp with rfl | hp
      · exact ⟨hacc, hDL, hD₀⟩
      · exact ⟨old _ _ (N p hp).1, (N p hp).2⟩
  refine codeAny_compStart_list (loop _ rfl) ?_
  refine wpAny_pyIter_listiter (hit.at (h' := h₁) fun o e => old _ _ e) ?_
  exact loop _ rfl
end
end Ab
end

section
open PySem PySem.W PyProof.Rows PySem.Spec PySem.Calls
set_option maxRecDepth 100000
set_option maxHeartbeats 4000000
namespace Ab
open PyProof.Rows.LCg

section
variable {prog : Program} {w : World} {A : Around} {E : Value → Shared → Prop} {s : Shared} {h₀ : Heap} {L : Addr} {m : Str → Option Value} {env : Env}

/-- what the source of a comprehension with a cell must be -/
def SrcC (prog : Program) (w : World) (A : Around) (h₀ : Heap) (L : Addr) (m : Str → Option Value) (env : Env) (elt : Expr) (x : Str) (scope : Scope) (cl : List (Str × Addr)) (Q : Value → Shared → Prop) (xv : Value) (s₁ : Shared) : Prop :=
  ∃ (ax : Addr) (its : Array Value) (news : List (Addr × Obj)) (J : Nat → List Value → List (Addr × Obj) → Prop), xv = .ref ax ∧ A.handled = none ∧ Fr h₀ L s₁.heap m ∧ News h₀ L s₁.heap news ∧ h₀.IsList ax its ∧ its.size ≤ sizeLine ∧ J 0 [] news ∧
    (∀ i v ys nw I oI C oC D P oP h tk (E' : Value → Shared → Prop), its[i]? = some v → J i ys nw → oP.data = .cell (some v) → Fr h₀ L h m → News h₀ L h ((I, oI) :: (C, oC) :: (D, lst ys) :: (P, oP) :: nw) → Off4 I C D P nw → I ≠ C ∧ I ≠ D ∧ C ≠ D ∧ I ≠ P ∧ C ≠ P ∧ D ≠ P →
      wpAny (model prog w) A (eval elt (compEnvC scope ((x, P) :: cl) C env)) (TurnEnd h₀ L m { s₁ with heap := h, toks := tk } [(I, oI), (C, oC), (D, lst ys), (P, oP)] (Off4 I C D P) (fun y nw' => J (i + 1) (ys ++ [y]) nw')) E' { s₁ with heap := h, toks := tk }) ∧
    (∀ D h tk ys nw, Fr h₀ L h m → News h₀ L h ((D, lst ys) :: nw) → (∀ p ∈ nw, p.1 ≠ D) → J its.size ys nw → Q (.ref D) { s₁ with heap := h, toks := tk })

theorem SrcC.intro {elt : Expr} {x : Str} {scope : Scope} {cl : List (Str × Addr)} {Q : Value → Shared → Prop} {ax : Addr} {its : Array Value} {news : List (Addr × Obj)} {s₁ : Shared} (J : Nat → List Value → List (Addr × Obj) → Prop)
    (hh : A.handled = none) (F : Fr h₀ L s₁.heap m) (N : News h₀ L s₁.heap news) (hl : h₀.IsList ax its) (hsz : its.size ≤ sizeLine) (hj : J 0 [] news)
    (turn : ∀ i v ys nw I oI C oC D P oP h tk (E' : Value → Shared → Prop), its[i]? = some v → J i ys nw → oP.data = .cell (some v) → Fr h₀ L h m → News h₀ L h ((I, oI) :: (C, oC) :: (D, lst ys) :: (P, oP) :: nw) → Off4 I C D P nw → I ≠ C ∧ I ≠ D ∧ C ≠ D ∧ I ≠ P ∧ C ≠ P ∧ D ≠ P →
      wpAny (model prog w) A (eval elt (compEnvC scope ((x, P) :: cl) C env)) (TurnEnd h₀ L m { s₁ with heap := h, toks := tk } [(I, oI), (C, oC), (D, lst ys), (P, oP)] (Off4 I C D P) (fun y nw' => J (i + 1) (ys ++ [y]) nw')) E' { s₁ with heap := h, toks := tk })
    (fin : ∀ D h tk ys nw, Fr h₀ L h m → News h₀ L h ((D, lst ys) :: nw) → (∀ p ∈ nw, p.1 ≠ D) → J its.size ys nw → Q (.ref D) { s₁ with heap := h, toks := tk }) :
    SrcC prog w A h₀ L m env elt x scope cl Q (.ref ax) s₁ := ⟨ax, its, news, J, rfl, hh, F, N, hl, hsz, hj, turn, fin⟩

theorem ListComp_C {elt iter : Expr} {x : Str} {px : Pos} {scope : Scope} {cl : List (Str × Addr)} {pos : Pos} {Q : Value → Shared → Prop} (_F₀ : Fr h₀ L s.heap m)
    (hclos : closureFor scope env = pure cl) (hcf : ∀ n, cellsFrom n scope.names cl = (x, n) :: cl) (hpc : ∀ h, pushCells h scope.names = h.push cell0)
    (hkind : scope.kind = .function)
    (hnames : ∀ y ∈ scope.names, y.2 = .local → scope.names.lookup y.1 = some .local) (hx : scope.names.lookup x = some .cell)
    (h : wpAny (model prog w) A (eval iter env) (SrcC prog w A h₀ L m env elt x scope cl Q) E s)
    (hs : ∀ x, foldedSetIterable iter env x = pure x := by intro _; rfl) :
    wpAny (model prog w) A (eval (.ListComp elt [⟨.Name x px, iter, [], 0⟩] scope pos) env) Q E s := by
  rw [eval_ListComp]
  refine wpAny_comprehension_free (use := none) rfl hs hclos hkind hnames (wpAny_mono h (fun xv s₁ h₁ => ?_) fun _ _ e => e)
  obtain ⟨ax, its, news, J, rfl, hh, F, N, hl₀, hsz, hj, turn, fin⟩ := h₁
  have hl : s₁.heap.IsList ax its := hl₀.at fun o e => F.keep _ _ e
  refine wpAny_pyIter_list hl ?_
  have up : ∀ b o, s₁.heap.get? b = some o → (s₁.heap.push { cls := .type "list_iterator", data := .fields #[.ref ax, .int 0 0] }).get? b = some o := fun b o e => Heap.get?_push_of_some _ e
  refine block_C J hh hl₀ hsz hcf hpc hkind hx ⟨_, Heap.get?_push_size _ rfl, rfl, rfl⟩ ?_ (F.keeps up) (N.grown up) (Nat.ne_of_lt F.ns.lt) (next_is_new F) (fun p hp => Nat.ne_of_lt (Heap.lt_size (N p hp).1)) hj turn ?_
  · show s₁.heap.objs.size < (s₁.heap.push _).objs.size
    rw [Heap.size_push]; exact Nat.lt_succ_self _
  · intro D C h tk m' ys news' F' N' o1 hn hC₀ hD₀ hCL hDL hCD offC hJ
    refine ⟨m', hn, fun h'' hs'' => fin D h'' tk ys news' (F'.change hs'' hCL hC₀) (fun p hp => ?_) o1 hJ⟩
    refine ⟨hs''.extBut _ _ ?_ (N' p hp).1, (N' p hp).2⟩
    rcases List.mem_cons.mp hp with rfl | hp
    · exact Ne.symm hCD
    · exact offC p hp

/-- what the source of «[w for l in rows for w in l]» must be -/
def SrcF (A : Around) (h₀ : Heap) (L : Addr) (m : Str → Option Value) (Q : Value → Shared → Prop) (xv : Value) (s₁ : Shared) : Prop :=
  ∃ (ax : Addr) (its : Array Value) (vals : List (List Value)) (news : List (Addr × Obj)), xv = .ref ax ∧ A.handled = none ∧ Fr h₀ L s₁.heap m ∧ News h₀ L s₁.heap news ∧ its.size = vals.length ∧ vals.flatten.length ≤ sizeLine ∧
    (∀ h : Heap, (∀ p ∈ news, h.get? p.1 = some p.2) → h.IsList ax its ∧ ∀ i (hi : i < vals.length), ∃ a, its[i]? = some (.ref a) ∧ h.IsList a vals[i].toArray) ∧
    (∀ D h tk, Fr h₀ L h m → News h₀ L h ((D, lst vals.flatten) :: news) → (∀ p ∈ news, p.1 < D) → Q (.ref D) { s₁ with heap := h, toks := tk })

theorem SrcF.intro {Q : Value → Shared → Prop} {ax : Addr} {its : Array Value} {vals : List (List Value)} {news : List (Addr × Obj)} {s₁ : Shared}
    (hh : A.handled = none) (F : Fr h₀ L s₁.heap m) (N : News h₀ L s₁.heap news) (hlen : its.size = vals.length) (hsz : vals.flatten.length ≤ sizeLine)
    (src : ∀ h : Heap, (∀ p ∈ news, h.get? p.1 = some p.2) → h.IsList ax its ∧ ∀ i (hi : i < vals.length), ∃ a, its[i]? = some (.ref a) ∧ h.IsList a vals[i].toArray)
    (fin : ∀ D h tk, Fr h₀ L h m → News h₀ L h ((D, lst vals.flatten) :: news) → (∀ p ∈ news, p.1 < D) → Q (.ref D) { s₁ with heap := h, toks := tk }) :
    SrcF A h₀ L m Q (.ref ax) s₁ := ⟨ax, its, vals, news, rfl, hh, F, N, hlen, hsz, src, fin⟩

theorem ListComp_F {i0 : Expr} {x y : Str} {px px2 py py2 : Pos} {scope : Scope} {cl : List (Str × Addr)} {pos : Pos} {Q : Value → Shared → Prop} (_F₀ : Fr h₀ L s.heap m)
    (hclos : closureFor scope env = pure cl) (hcell : ∀ z ∈ scope.names, z.2 ≠ .cell) (hkind : scope.kind = .function)
    (hnames : ∀ y ∈ scope.names, y.2 = .local → scope.names.lookup y.1 = some .local) (hx : scope.names.lookup x = some .local) (hy : scope.names.lookup y = some .local)
    (hdx : (x == ("__debug__" : Str)) = false) (hdy : (y == ("__debug__" : Str)) = false)
    (h : wpAny (model prog w) A (eval i0 env) (SrcF A h₀ L m Q) E s)
    (hs : ∀ x, foldedSetIterable i0 env x = pure x := by intro _; rfl) :
    wpAny (model prog w) A (eval (.ListComp (.Name y py2) [⟨.Name x px, i0, [], 0⟩, ⟨.Name y py, .Name x px2, [], 0⟩] scope pos) env) Q E s := by
  rw [eval_ListComp]
  refine wpAny_comprehension_free (use := none) rfl hs hclos hkind hnames (wpAny_mono h (fun xv s₁ h₁ => ?_) fun _ _ e => e)
  obtain ⟨ax, its, vals, news, rfl, hh, F, N, hlen, hsz, src, fin⟩ := h₁
  have hl : s₁.heap.IsList ax its := (src s₁.heap fun p hp => (N p hp).1).1
  refine wpAny_pyIter_list hl ?_
  have up : ∀ b o, s₁.heap.get? b = some o → (s₁.heap.push { cls := .type "list_iterator", data := .fields #[.ref ax, .int 0 0] }).get? b = some o := fun b o e => Heap.get?_push_of_some _ e
  refine block_F hh hlen hsz src hcell hkind hx hy hdx hdy ⟨_, Heap.get?_push_size _ rfl, rfl, rfl⟩ ?_ (F.keeps up) (N.grown up) (Nat.ne_of_lt F.ns.lt) (next_is_new F) (fun p hp => Nat.ne_of_lt (Heap.lt_size (N p hp).1)) ?_
  · show s₁.heap.objs.size < (s₁.heap.push _).objs.size
    rw [Heap.size_push]; exact Nat.lt_succ_self _
  · intro D C h tk m' F' N' o1 hn hC₀ hD₀ hCL hDL hCD offC
    refine ⟨m', hn, fun h'' hs'' => fin D h'' tk (F'.change hs'' hCL hC₀) (fun p hp => ?_) o1⟩
    refine ⟨hs''.extBut _ _ ?_ (N' p hp).1, (N' p hp).2⟩
    rcases List.mem_cons.mp hp with rfl | hp
    · exact Ne.symm hCD
    · exact offC p hp

theorem seq_cut {M : Model} {st : Stmt} {rest : List Stmt} {Q : Flow → Shared → Prop} (J : Shared → Prop)
    (h1 : wpAny M A (exec st env) (fun f s' => f = .next ∧ J s') E s) (h2 : ∀ s', J s' → wpAny M A (execs rest env) Q E s') : wpAny M A (execs (st :: rest) env) Q E s := by
  refine wpAny_execs_cons (wpAny_mono h1 (fun f s' h => ?_) fun _ _ e => e)
  obtain ⟨rfl, hJ⟩ := h
  exact h2 s' hJ
end
end Ab
end

section
open PySem PySem.W PyProof.Rows PySem.Spec PySem.Calls
set_option maxRecDepth 100000
namespace Ab

inductive Meth | dh | sl | ad
def Meth.str : Meth → Str
  | .dh => Str.ofString "dhondt"
  | .sl => Str.ofString "saintelague"
  | .ad => Str.ofString "adams"
/-- the j-th divisor -/
def Meth.d : Meth → Nat → Int
  | .sl, j => 2 * (j : Int) + 1
  | _, j => (j : Int) + 1
def Meth.start : Meth → Int
  | .ad => 1
  | _ => 0

def dsF (mm : Meth) (k : Nat) : List Int := (List.range k).map mm.d
def r0F (mm : Meth) (ns : List Int) : List Int := List.replicate ns.length mm.start
def comF (ds : List Int) : Int := ds.foldl (fun c d => c * d) 1
def rowF (C : Int) (ds : List Int) (p : Int) : List Int := ds.map fun d => (p * 1 * C).fdiv d
def rowsF (mm : Meth) (ns : List Int) (k : Nat) : List (List Int) := ns.map (rowF (comF (dsF mm k)) (dsF mm k))

/-- pairs (d, 1) on the ledger -/
inductive PairsIn (news : List (Addr × Obj)) : List Value → List Int → Prop
  | nil : PairsIn news [] []
  | cons {a : Addr} {d : Int} {t u : Tok} {n : Nat} {ys : List Value} {ds : List Int} :
      (a, ({ cls := .type "tuple", data := .seq #[.int d t, .int 1 u] n } : Obj)) ∈ news → PairsIn news ys ds → PairsIn news (.ref a :: ys) (d :: ds)
/-- lists of ints on the ledger -/
inductive RowsIn (news : List (Addr × Obj)) : List Value → List (List Int) → Prop
  | nil : RowsIn news [] []
  | cons {a : Addr} {vs : List Value} {r : List Int} {ys : List Value} {rs : List (List Int)} :
      (a, LCg.lst vs) ∈ news → IntsAre vs r → RowsIn news ys rs → RowsIn news (.ref a :: ys) (r :: rs)

theorem PairsIn.mono {news news' : List (Addr × Obj)} {ys : List Value} {ds : List Int} (h : PairsIn news ys ds) (hs : ∀ p ∈ news, p ∈ news') : PairsIn news' ys ds := by
  induction h with
  | nil => exact .nil
  | cons hm _ ih => exact .cons (hs _ hm) ih
theorem RowsIn.mono {news news' : List (Addr × Obj)} {ys : List Value} {ds : List (List Int)} (h : RowsIn news ys ds) (hs : ∀ p ∈ news, p ∈ news') : RowsIn news' ys ds := by
  induction h with
  | nil => exact .nil
  | cons hm hi _ ih => exact .cons (hs _ hm) hi ih
theorem PairsIn.length {news : List (Addr × Obj)} {ys : List Value} {ds : List Int} (h : PairsIn news ys ds) : ys.length = ds.length := by
  induction h with
  | nil => rfl
  | cons _ _ ih => rw [List.length_cons, List.length_cons, ih]
theorem RowsIn.length {news : List (Addr × Obj)} {ys : List Value} {ds : List (List Int)} (h : RowsIn news ys ds) : ys.length = ds.length := by
  induction h with
  | nil => rfl
  | cons _ _ _ ih => rw [List.length_cons, List.length_cons, ih]
theorem PairsIn.snoc {news : List (Addr × Obj)} {ys : List Value} {ds : List Int} {a : Addr} {d : Int} {t u : Tok} {n : Nat} (h : PairsIn news ys ds)
    (hm : (a, ({ cls := .type "tuple", data := .seq #[.int d t, .int 1 u] n } : Obj)) ∈ news) : PairsIn news (ys ++ [.ref a]) (ds ++ [d]) := by
  induction h with
  | nil => exact .cons hm .nil
  | cons hm' _ ih => exact .cons hm' ih
theorem RowsIn.snoc {news : List (Addr × Obj)} {ys : List Value} {ds : List (List Int)} {a : Addr} {vs : List Value} {r : List Int} (h : RowsIn news ys ds)
    (hm : (a, LCg.lst vs) ∈ news) (hi : IntsAre vs r) : RowsIn news (ys ++ [.ref a]) (ds ++ [r]) := by
  induction h with
  | nil => exact .cons hm hi .nil
  | cons hm' hi' _ ih => exact .cons hm' hi' ih
theorem PairsIn.get {news : List (Addr × Obj)} {ys : List Value} {ds : List Int} (h : PairsIn news ys ds) : ∀ (i : Nat) (v : Value), ys[i]? = some v →
    ∃ a d t u n, v = .ref a ∧ ds[i]? = some d ∧ (a, ({ cls := .type "tuple", data := .seq #[.int d t, .int 1 u] n } : Obj)) ∈ news := by
  induction h with
  | nil => intro i v hv; simp at hv
  | @cons a d t u n ys ds hm _ ih =>
    intro i v hv
    cases i with
    | zero =>
      simp only [List.getElem?_cons_zero, Option.some.injEq] at hv
      exact ⟨a, d, t, u, n, hv.symm, rfl, hm⟩
    | succ i => exact ih i v (by simpa using hv)
theorem RowsIn.get {news : List (Addr × Obj)} {ys : List Value} {rs : List (List Int)} (h : RowsIn news ys rs) : ∀ (i : Nat) (v : Value), ys[i]? = some v →
    ∃ a vs r, v = .ref a ∧ rs[i]? = some r ∧ (a, LCg.lst vs) ∈ news ∧ IntsAre vs r := by
  induction h with
  | nil => intro i v hv; simp at hv
  | @cons a vs r ys rs hm hi _ ih =>
    intro i v hv
    cases i with
    | zero =>
      simp only [List.getElem?_cons_zero, Option.some.injEq] at hv
      exact ⟨a, vs, r, hv.symm, rfl, hm, hi⟩
    | succ i => exact ih i v (by simpa using hv)

theorem dsF_succ (mm : Meth) (k : Nat) : dsF mm (k + 1) = dsF mm k ++ [mm.d k] := by
  simp [dsF, List.range_succ]
theorem dsF_length (mm : Meth) (k : Nat) : (dsF mm k).length = k := by simp [dsF]

end Ab
namespace Ab
/-- off the five cells of divisor's frame -/
def Apart (L : Addr) (tl : List (Addr × Obj)) : Prop := ∀ p ∈ tl, @Ne Nat p.1 (L + 1) ∧ @Ne Nat p.1 (L + 1 + 1) ∧ @Ne Nat p.1 (L + 1 + 1 + 1) ∧ @Ne Nat p.1 (L + 1 + 1 + 1 + 1) ∧ @Ne Nat p.1 (L + 1 + 1 + 1 + 1 + 1)
theorem Apart.nil {L : Addr} : Apart L [] := fun _ hp => nomatch hp
theorem Apart.cons {L : Addr} {p : Addr × Obj} {tl : List (Addr × Obj)} (h1 : @Ne Nat p.1 (L + 1) ∧ @Ne Nat p.1 (L + 1 + 1) ∧ @Ne Nat p.1 (L + 1 + 1 + 1) ∧ @Ne Nat p.1 (L + 1 + 1 + 1 + 1) ∧ @Ne Nat p.1 (L + 1 + 1 + 1 + 1 + 1)) (h : Apart L tl) : Apart L (p :: tl) := fun q hq => by
  rcases List.mem_cons.mp hq with rfl | hq
  · exact h1
  · exact h q hq
theorem Apart.append {L : Addr} {tl tl' : List (Addr × Obj)} (h : Apart L tl) (h' : Apart L tl') : Apart L (tl ++ tl') := fun q hq => by
  rcases List.mem_append.mp hq with hq | hq
  · exact h q hq
  · exact h' q hq
theorem Apart.sub {L : Addr} {tl tl' : List (Addr × Obj)} (h : Apart L tl) (hs : ∀ p ∈ tl', p ∈ tl) : Apart L tl' := fun q hq => h q (hs q hq)

theorem off1_mem {D : Addr} : ∀ {l : List (Addr × Obj)}, LCg.Off1 D l → ∀ p ∈ l, p.1 ≠ D
  | [], _, _, h => nomatch h
  | _ :: _, x, p, h => by
    rcases List.mem_cons.mp h with rfl | h
    · exact x.1
    · exact off1_mem x.2 p h
/-- the new list of a comprehension is off the cells -/
theorem apart_new {L D : Addr} {o1 o2 o3 o4 o5 : Obj} {tl : List (Addr × Obj)}
    (h : ∀ p ∈ ((L + 1 + 1 + 1 + 1 + 1, o1) :: (L + 1 + 1 + 1 + 1, o2) :: (L + 1 + 1 + 1, o3) :: (L + 1 + 1, o4) :: (L + 1, o5) :: tl : List (Addr × Obj)), p.1 ≠ D) (o : Obj) :
    @Ne Nat ((D, o) : Addr × Obj).1 (L + 1) ∧ @Ne Nat ((D, o) : Addr × Obj).1 (L + 1 + 1) ∧ @Ne Nat ((D, o) : Addr × Obj).1 (L + 1 + 1 + 1) ∧ @Ne Nat ((D, o) : Addr × Obj).1 (L + 1 + 1 + 1 + 1) ∧ @Ne Nat ((D, o) : Addr × Obj).1 (L + 1 + 1 + 1 + 1 + 1) :=
  ⟨fun e => h (L + 1, o5) (by simp) e.symm, fun e => h (L + 1 + 1, o4) (by simp) e.symm, fun e => h (L + 1 + 1 + 1, o3) (by simp) e.symm, fun e => h (L + 1 + 1 + 1 + 1, o2) (by simp) e.symm, fun e => h (L + 1 + 1 + 1 + 1 + 1, o1) (by simp) e.symm⟩
theorem apart_big {L D : Addr} {o : Obj} (h : @LT.lt Nat _ (L + 1 + 1 + 1 + 1 + 1) D) :
    @Ne Nat ((D, o) : Addr × Obj).1 (L + 1) ∧ @Ne Nat ((D, o) : Addr × Obj).1 (L + 1 + 1) ∧ @Ne Nat ((D, o) : Addr × Obj).1 (L + 1 + 1 + 1) ∧ @Ne Nat ((D, o) : Addr × Obj).1 (L + 1 + 1 + 1 + 1) ∧ @Ne Nat ((D, o) : Addr × Obj).1 (L + 1 + 1 + 1 + 1 + 1) := by
  dsimp only
  omega
end Ab
namespace Ab
theorem comF_snoc (l : List Int) (d : Int) : comF (l ++ [d]) = comF l * d := by simp [comF]
theorem comF_take {l : List Int} {i : Nat} {d : Int} (h : l[i]? = some d) : comF (l.take (i + 1)) = comF (l.take i) * d := by
  rw [List.take_add_one, h]
  exact comF_snoc _ _
theorem dsF_bounds (mm : Meth) {k : Nat} (hk : k ≤ 14) : ∀ d ∈ dsF mm k, 1 ≤ d ∧ d ≤ 28 := by
  intro d hd
  simp only [dsF, List.mem_map, List.mem_range] at hd
  obtain ⟨j, hj, rfl⟩ := hd
  cases mm <;> simp only [Meth.d] <;> omega
theorem own_apart {L : Addr} {o1 o2 o3 o4 o5 : Obj} {tl own : List (Addr × Obj)}
    (h : OwnOff own (((L + 1 + 1 + 1 + 1 + 1, o1) :: (L + 1 + 1 + 1 + 1, o2) :: (L + 1 + 1 + 1, o3) :: (L + 1 + 1, o4) :: (L + 1, o5) :: tl : List (Addr × Obj)).map (·.1))) : Apart L own := fun p hp =>
  ⟨h p hp _ (by simp), h p hp _ (by simp), h p hp _ (by simp), h p hp _ (by simp), h p hp _ (by simp)⟩
theorem ite_same {x : Str} {u v m : Str → Option Value} : (fun y => if y = x then u y else if y = x then v y else m y) = fun y => if y = x then u y else m y := by
  funext y
  split <;> rfl
end Ab
namespace Ab
theorem rowF_snoc {C p d : Int} {ds : List Int} {j : Nat} (h : ds[j]? = some d) : (rowF C ds p).take (j + 1) = (rowF C ds p).take j ++ [(p * 1 * C).fdiv d] := by
  rw [List.take_add_one]
  simp [rowF, h]
theorem rows_snoc {α β : Type} {f : α → β} {l : List α} {p : α} {j : Nat} (h : l[j]? = some p) : (l.map f).take (j + 1) = (l.map f).take j ++ [f p] := by
  rw [List.take_add_one]
  simp [h]
end Ab
namespace Ab
theorem nsub {h₀ h : Heap} {L : Addr} {l l' : List (Addr × Obj)} (N : News h₀ L h l) (hs : ∀ p ∈ l', p ∈ l) : News h₀ L h l' := fun p hp => N p (hs p hp)
end Ab
namespace Ab
theorem RowsIn.vals {news : List (Addr × Obj)} {ys : List Value} {rs : List (List Int)} (h : RowsIn news ys rs) :
    ∃ vals : List (List Value), vals.length = ys.length ∧ IntsAre vals.flatten rs.flatten ∧ ∀ i (hi : i < vals.length), ∃ a, ys[i]? = some (.ref a) ∧ (a, LCg.lst vals[i]) ∈ news := by
  induction h with
  | nil => exact ⟨[], rfl, .nil, fun i hi => absurd hi (Nat.not_lt_zero _)⟩
  | @cons a vs r ys rs hm hi _ ih =>
    obtain ⟨vals, h1, h2, h3⟩ := ih
    refine ⟨vs :: vals, by simp [h1], ?_, fun i hi => ?_⟩
    · rw [List.flatten_cons, List.flatten_cons]
      exact IntsAre.append hi h2
    · cases i with
      | zero => exact ⟨a, rfl, hm⟩
      | succ i => exact h3 i (by simpa using hi)
theorem rowsF_flat_len (mm : Meth) (ns : List Int) (k : Nat) : (rowsF mm ns k).flatten.length = ns.length * k := by
  unfold rowsF
  generalize hf : rowF (comF (dsF mm k)) (dsF mm k) = f
  have hl : ∀ p, (f p).length = k := fun p => by rw [← hf]; simp [rowF, dsF]
  induction ns with
  | nil => simp
  | cons p ns ih => rw [List.map_cons, List.flatten_cons, List.length_append, ih, hl, List.length_cons, Nat.succ_mul]; omega
end Ab
namespace Ab
theorem r0F_sum (mm : Meth) (ns : List Int) : (r0F mm ns).sum = (ns.length : Int) * mm.start := by
  unfold r0F
  induction ns.length with
  | zero => simp
  | succ n ih => rw [List.replicate_succ, List.sum_cons, ih, Int.natCast_succ, Int.add_mul]; omega
theorem r0F_sum_nonneg (mm : Meth) (ns : List Int) : 0 ≤ (r0F mm ns).sum := by
  rw [r0F_sum]
  cases mm <;> simp [Meth.start]
/-- the least weight that draws a seat: the sorted weights' item at the place -seats + sum(representatives) -/
def IsMin (mm : Meth) (ns : List Int) (seats : Int) (mw : Int) : Prop :=
  ∃ srt : List Int, srt.Perm (rowsF mm ns seats.toNat).flatten ∧ srt.Pairwise (· ≤ ·) ∧ mw = srt.getD (-seats + (r0F mm ns).sum + srt.length).toNat 0
def r1F (mm : Meth) (ns : List Int) (seats : Int) (mw : Int) : List Int :=
  (List.range ns.length).map fun i => mm.start + (((rowsF mm ns seats.toNat).getD i []).filter (fun w => decide (mw < w))).length
end Ab
namespace Ab
theorem filt_snoc {r : List Int} {j : Nat} {x mw : Int} (h : r[j]? = some x) :
    (r.take (j + 1)).filter (fun w => decide (mw < w)) = (r.take j).filter (fun w => decide (mw < w)) ++ (if mw < x then [x] else []) := by
  rw [List.take_add_one, h, List.filter_append]
  by_cases hx : mw < x <;> simp [hx]
theorem r1F_snoc {mm : Meth} {ns : List Int} {seats mw : Int} {i : Nat} {r : List Int} (hi : i < ns.length) (hr : (rowsF mm ns seats.toNat)[i]? = some r) :
    (r1F mm ns seats mw).take (i + 1) = (r1F mm ns seats mw).take i ++ [mm.start + ((r.filter (fun w => decide (mw < w))).length : Int)] := by
  rw [r1F, rows_snoc (p := i) (by simp [hi])]
  simp [hr]
theorem row_len {mm : Meth} {ns : List Int} {k i : Nat} {r : List Int} (hr : (rowsF mm ns k)[i]? = some r) : r.length = k := by
  simp only [rowsF, List.getElem?_map] at hr
  obtain ⟨p, _, rfl⟩ := Option.map_eq_some_iff.mp hr
  simp [rowF, dsF]
end Ab
namespace Ab
theorem r0F_getD {mm : Meth} {ns : List Int} {i : Nat} (hi : i < ns.length) : (r0F mm ns).getD ((i : Nat) : Int).toNat 0 = mm.start := by
  simp [r0F, hi]
theorem r1F_length (mm : Meth) (ns : List Int) (seats mw : Int) : (r1F mm ns seats mw).length = ns.length := by simp [r1F]
end Ab
namespace Ab
def tieStep (rows : List (List Int)) (mw seats : Int) (rs : List Int) (i : Nat) : List Int :=
  if rs.sum < seats ∧ mw ∈ rows.getD i [] then rs.set i (rs.getD i 0 + 1) else rs
def tieF (rows : List (List Int)) (mw seats : Int) (r1 : List Int) (k : Nat) : List Int := (List.range k).foldl (tieStep rows mw seats) r1
theorem tieF_succ (rows : List (List Int)) (mw seats : Int) (r1 : List Int) (k : Nat) : tieF rows mw seats r1 (k + 1) = tieStep rows mw seats (tieF rows mw seats r1 k) k := by
  simp [tieF, List.range_succ]
theorem tieF_length (rows : List (List Int)) (mw seats : Int) (r1 : List Int) (k : Nat) : (tieF rows mw seats r1 k).length = r1.length := by
  induction k with
  | zero => rfl
  | succ k ih =>
    rw [tieF_succ, tieStep]
    split
    · rw [List.length_set, ih]
    · exact ih
/-- what divisor hands back -/
def DivRes (mm : Meth) (ns : List Int) (seats : Int) (rs : List Int) : Prop :=
  (∃ mw, IsMin mm ns seats mw ∧ (r0F mm ns).sum < seats ∧ rs = tieF (rowsF mm ns seats.toNat) mw seats (r1F mm ns seats mw) ns.length) ∨
  (rs = r0F mm ns ∧ ¬ (r0F mm ns).sum < seats)

section
variable {prog : Program} {w : World} {A : Around} {E : Value → Shared → Prop} {s : Shared} {env : Env} {h₀ : Heap} {x : Str} {body : List Stmt} {Q : Flow → Shared → Prop}
theorem range_loop {r : Addr} {b₀ : Int} {t₀ u₀ v₀ : Tok} {n : Nat} {m₀ : Str → Option Value} {news : List (Addr × Obj)} (J : Nat → (Str → Option Value) → List (Addr × Obj) → Prop)
    (hh : A.handled = none) (hr : IsRange s.heap r 0 b₀ 1 t₀ u₀ v₀) (hsmall : Builtin.Range.small 0 b₀ 1 = true) (hsz : Builtin.Range.rangeSize 0 b₀ 1 = (n : Int)) (F : Fr h₀ env.locals s.heap m₀) (N : News h₀ env.locals s.heap news) (hj : J 0 m₀ news)
    (turn : ∀ i m₁ nx h tk own t, i < n → OwnOff own (nx.map (·.1)) → J i m₁ nx → Fr h₀ env.locals h (fun y => if y = x then some (.int (i : Int) t) else m₁ y) → News h₀ env.locals h (nx ++ own) →
      wpAny (model prog w) A (execs body env) (InvPostG h₀ env.locals (J (i + 1)) own { s with heap := h, toks := tk } Q) E { s with heap := h, toks := tk })
    (done : ∀ m₁ nx h tk, J n m₁ nx → Fr h₀ env.locals h m₁ → News h₀ env.locals h nx → Q .next { s with heap := h, toks := tk }) :
    wpAny (model prog w) A (pyIter (.ref r)) (fun it s₂ => LoopAtV prog w A h₀ env x body Q E it s₂) E s := by
  refine wpAny_pyIter_range hr hsmall ?_
  have W : Walks prog w A s.heap.objs.size [s.heap.objs.size] [s.heap.objs.size] n (fun i v => i < n ∧ ∃ t, v = .int (0 + i * 1) t)
      (fun i h => IsRangeIter h s.heap.objs.size (0 + (i : Nat) * 1) ((n : Int) - (i : Nat)) 1) := (Walks.range hh _ 0 1 n).bound
  refine kdr_loop J W (fun _ h => h) (fun _ h => h) ?_ ?_ ?_ ?_ (by show IsRangeIter _ _ _ _ _; rw [hsz]; simpa using Heap.get?_push_size _ rfl) (F.push _) (fun p hp => ⟨Heap.get?_push_of_some _ (N p hp).1, (N p hp).2⟩) hj ?_ ?_
  · intro i h hi b hb
    rw [List.mem_singleton.mp hb]
    exact ⟨_, hi⟩
  · intro hm
    exact absurd F.ns.lt ((List.mem_singleton.mp hm) ▸ Nat.lt_irrefl _)
  · intro b hb
    rw [List.mem_singleton.mp hb]
    exact next_is_new F
  · intro p hp hI
    exact absurd (Heap.lt_size (N p hp).1) ((List.mem_singleton.mp hI) ▸ Nat.lt_irrefl _)
  · rintro i v m₁ nx h tk own hi ⟨_, t, rfl⟩ hoff hJ F₁ N₁
    have e1 : 0 + (i : Int) * 1 = (i : Int) := by omega
    rw [e1] at F₁
    exact turn i m₁ nx h tk own t hi hoff hJ F₁ N₁
  · exact fun m₁ nx h tk hJ F₁ N₁ => done m₁ nx h tk hJ F₁ N₁
end
end Ab
namespace Ab
theorem tieF_id {rows : List (List Int)} {mw seats : Int} {r1 : List Int} (h : ¬ r1.sum < seats) (k : Nat) : tieF rows mw seats r1 k = r1 := by
  induction k with
  | zero => rfl
  | succ k ih =>
    rw [tieF_succ, ih, tieStep, if_neg]
    exact fun e => h e.1
end Ab
end

section
open PySem PySem.W PyProof.Rows
namespace Ab
def IsI (p : Keyed) : Prop := ∃ n t, p.1 = .int n t
def kv (p : Keyed) : Int := numOf p.1
section
variable {prog : Program} {w : World} {A : Around} {E : Value → Shared → Prop} {s : Shared}
theorem wpS_elem {st : SortSt} {xs : Array Keyed} {i : Nat} {p : Keyed} {Q : Keyed → SortSt → Prop} (h : xs[i]? = some p) (hq : Q p st) : wpS (model prog w) A E s (elem' xs i) Q st := by
  rw [elem'_eq, h]
  exact wpS_pure hq
theorem wpS_ltP {st : SortSt} {x y : Keyed} {Q : Option Bool → SortSt → Prop} (hk : kindOf st = oneType') (hx : IsI x) (hy : IsI y) (h : Q (some (decide (kv x < kv y))) st) :
    wpS (model prog w) A E s (lt' x y) Q st := by
  obtain ⟨a, t, ex⟩ := hx
  obtain ⟨b, u, ey⟩ := hy
  have e1 : kv x = a := by unfold kv; rw [ex]; rfl
  have e2 : kv y = b := by unfold kv; rw [ey]; rfl
  rw [e1, e2] at h
  rw [lt'_eq]
  refine wpS_bind (wpS_get ?_)
  rw [hk, keyLt'_oneType, ex, ey]
  refine wpS_bind (wpS_lift (wpAny_attempt (oneLt_int ⟨rfl, ?_⟩)))
  exact wpS_pure h
/-- is x on the key's left? -/
def bey (left : Bool) (key x : Keyed) : Bool := if left = true then decide (kv x < kv key) else !decide (kv key < kv x)
theorem bey_mono {left : Bool} {key x y : Keyed} (h : kv x ≤ kv y) (hy : bey left key y = true) : bey left key x = true := by
  unfold bey at *
  cases left
  · simp only [Bool.false_eq_true, if_false, Bool.not_eq_true', decide_eq_false_iff_not] at *
    omega
  · simp only [if_true, decide_eq_true_eq] at *
    omega
theorem wpS_bey {st : SortSt} {left : Bool} {key x : Keyed} {arr : Array Keyed} {i : Nat} {Q : Option Bool → SortSt → Prop} (hk : kindOf st = oneType') (hx : IsI x) (hy : IsI key) (ha : arr[i]? = some x)
    (h : Q (some (bey left key x)) st) :
    wpS (model prog w) A E s (elem' arr i >>= fun x => if left = true then lt' x key else (lt' key x >>= fun r => pure (r.map (!·)))) Q st := by
  refine wpS_bind (wpS_elem ha ?_)
  unfold bey at h
  cases left
  · rw [if_neg (by decide)]
    rw [if_neg (by decide)] at h
    exact wpS_bind (wpS_ltP hk hy hx (wpS_pure h))
  · rw [if_pos rfl]
    rw [if_pos rfl] at h
    exact wpS_ltP hk hx hy h
end
def gallop' : Bool → Keyed → Array Keyed → Nat → Nat → Nat → StateT SortSt Sem (Option Nat) := sortPriv% PySem.Builtin.gallop
section
variable {prog : Program} {w : World} {A : Around} {E : Value → Shared → Prop} {s : Shared}
/-- the search between two places -/
theorem bin_loop {n lo hi : Nat} {st : SortSt} {B : Nat → Bool} {f : Nat → Option (Option Nat) × Nat × Nat → StateT SortSt Sem (ForInStep (Option (Option Nat) × Nat × Nat))}
    {Q : Option (Option Nat) × Nat × Nat → SortSt → Prop} (anti : ∀ i j, i ≤ j → j < n → B j = true → B i = true) (h1 : lo ≤ hi) (h2 : hi ≤ n) (hlo : ∀ i, i < lo → B i = true) (hhi : ∀ i, hi ≤ i → i < n → B i = false)
    (hf : ∀ x lo hi (R : ForInStep (Option (Option Nat) × Nat × Nat) → SortSt → Prop), hi ≤ n → (hi ≤ lo → R (.done (none, lo, hi)) st) → (lo < hi → B (lo + (hi - lo) / 2) = true → R (.yield (none, lo + (hi - lo) / 2 + 1, hi)) st) →
      (lo < hi → B (lo + (hi - lo) / 2) = false → R (.yield (none, lo, lo + (hi - lo) / 2)) st) → wpS (model prog w) A E s (f x (none, lo, hi)) R st)
    (h : ∀ k, k ≤ n → (∀ i, i < n → (B i = true ↔ i < k)) → Q (none, k, k) st) : wpS (model prog w) A E s (forIn [:n] (none, lo, hi) f) Q st := by
  have fin : ∀ k, k ≤ n → (∀ i, i < k → B i = true) → (∀ i, k ≤ i → i < n → B i = false) → Q (none, k, k) st := fun k hk ha hb => h k hk fun i hi => by
    constructor
    · intro hB
      rcases Nat.lt_or_ge i k with q | q
      · exact q
      · rw [hb i q hi] at hB; cases hB
    · exact ha i
  refine wpS_forRange (I := fun x c st' => st' = st ∧ ∃ lo hi, c = (none, lo, hi) ∧ lo ≤ hi ∧ hi ≤ n ∧ hi - lo ≤ n - x ∧ (∀ i, i < lo → B i = true) ∧ (∀ i, hi ≤ i → i < n → B i = false)) ?_ ?_ ⟨rfl, lo, hi, rfl, h1, h2, by omega, hlo, hhi⟩
  · rintro x c st' _ hx ⟨rfl, lo, hi, rfl, g1, g2, g3, g4, g5⟩
    refine hf x lo hi _ g2 ?_ ?_ ?_
    · intro q
      have : lo = hi := by omega
      subst this
      exact fin lo g2 g4 g5
    · intro q hB
      exact ⟨rfl, _, _, rfl, by omega, by omega, by omega, fun i hi' => anti i _ (by omega) (by omega) hB, g5⟩
    · intro q hB
      refine ⟨rfl, _, _, rfl, by omega, by omega, by omega, g4, fun i ha hb => ?_⟩
      cases hBi : B i with
      | false => rfl
      | true => rw [anti _ i ha hb hBi] at hB; cases hB
  · rintro c st' ⟨rfl, lo, hi, rfl, g1, g2, g3, g4, g5⟩
    have : lo = hi := by omega
    subst this
    exact fin lo g2 g4 g5
/-- the leaps -/
theorem leap_loop {n top : Nat} {st : SortSt} {B : Nat → Bool} {f : Nat → Option (Option Nat) × Nat × Nat → StateT SortSt Sem (ForInStep (Option (Option Nat) × Nat × Nat))}
    {Q : Option (Option Nat) × Nat × Nat → SortSt → Prop} (h0 : B 0 = true) (ht : 1 ≤ top) (htn : top ≤ n)
    (hf : ∀ x last ofs (R : ForInStep (Option (Option Nat) × Nat × Nat) → SortSt → Prop), (top ≤ ofs → R (.done (none, last, ofs)) st) → (ofs < top → B ofs = false → R (.done (none, last, ofs)) st) →
      (ofs < top → B ofs = true → R (.yield (none, ofs, 2 * ofs + 1)) st) → wpS (model prog w) A E s (f x (none, last, ofs)) R st)
    (h : ∀ last ofs, last < ofs → last < top → B last = true → (ofs < top → B ofs = false) → Q (none, last, ofs) st) : wpS (model prog w) A E s (forIn [:n] (none, 0, 1) f) Q st := by
  refine wpS_forRange (I := fun x c st' => st' = st ∧ ∃ last ofs, c = (none, last, ofs) ∧ last < ofs ∧ last < top ∧ B last = true ∧ x < ofs) ?_ ?_ ⟨rfl, 0, 1, rfl, by omega, by omega, h0, by omega⟩
  · rintro x c st' _ hx ⟨rfl, last, ofs, rfl, g1, g2, g3, g4⟩
    refine hf x last ofs _ ?_ ?_ ?_
    · intro q; exact h last ofs g1 g2 g3 (fun q' => absurd q' (by omega))
    · intro q hB; exact h last ofs g1 g2 g3 (fun _ => hB)
    · intro q hB; exact ⟨rfl, _, _, rfl, by omega, q, hB, by omega⟩
  · rintro c st' ⟨rfl, last, ofs, rfl, g1, g2, g3, g4⟩
    exact h last ofs g1 g2 g3 (fun q' => absurd q' (by omega))
theorem wpS_gallop {left : Bool} {key : Keyed} {arr : Array Keyed} {base n hint : Nat} {st : SortSt} {g : Nat → Keyed} {Q : Option Nat → SortSt → Prop} (hk : kindOf st = oneType') (hkey : IsI key)
    (hg : ∀ i, i < n → arr[base + i]? = some (g i)) (hI : ∀ i, i < n → IsI (g i)) (mono : ∀ i j, i ≤ j → j < n → kv (g i) ≤ kv (g j)) (hh : hint < n)
    (h : ∀ k, k ≤ n → (∀ i, i < n → (bey left key (g i) = true ↔ i < k)) → Q (some k) st) : wpS (model prog w) A E s (gallop' left key arr base n hint) Q st := by
  have anti : ∀ i j, i ≤ j → j < n → bey left key (g j) = true → bey left key (g i) = true := fun i j h1 h2 h3 => bey_mono (mono i j h1 h2) h3
  refine wpS_bind (wpS_bey hk (hI hint hh) hkey (hg hint hh) ?_)
  dsimp only
  cases hr : bey left key (g hint) with
  | true =>
    rw [if_pos rfl]
    refine wpS_bind (leap_loop (B := fun j => bey left key (g (hint + j))) (top := n - hint) hr (by omega) (by omega) ?_ ?_)
    · intro x last ofs R r1 r2 r3
      dsimp only
      by_cases q : ofs ≥ n - hint
      · rw [if_pos q]
        exact wpS_pure (r1 q)
      · rw [if_neg q]
        refine wpS_bind (wpS_bey hk (hI _ (by omega)) hkey (hg _ (by omega)) ?_)
        cases hB : bey left key (g (hint + ofs)) with
        | true => exact wpS_pure (r3 (by omega) hB)
        | false => exact wpS_pure (r2 (by omega) hB)
    · intro last ofs l1 l2 l3 l4
      dsimp only
      refine wpS_bind (bin_loop (B := fun i => bey left key (g i)) anti (by omega) (by omega) ?_ ?_ ?_ ?_)
      · intro i hi
        exact anti i (hint + last) (by omega) (by omega) l3
      · intro i h1 h2
        cases hB : bey left key (g i) with
        | false => rfl
        | true =>
          have := l4 (by omega)
          rw [anti (hint + ofs) i (by omega) h2 hB] at this
          cases this
      · intro x lo hi R g2 r1 r2 r3
        dsimp only
        by_cases q : lo ≥ hi
        · rw [if_pos q]; exact wpS_pure (r1 q)
        · rw [if_neg q]
          refine wpS_bind (wpS_bey hk (hI _ (by omega)) hkey (hg _ (by omega)) ?_)
          cases hB : bey left key (g (lo + (hi - lo) / 2)) with
          | true => exact wpS_pure (r2 (by omega) hB)
          | false => exact wpS_pure (r3 (by omega) hB)
      · intro k h1 h2
        exact wpS_pure (h k h1 h2)
  | false =>
    rw [if_neg (by decide)]
    refine wpS_bind (leap_loop (B := fun j => !bey left key (g (hint - j))) (top := hint + 1) (by simpa using hr) (by omega) (by omega) ?_ ?_)
    · intro x last ofs R r1 r2 r3
      dsimp only
      by_cases q : ofs ≥ hint + 1
      · rw [if_pos q]
        exact wpS_pure (r1 q)
      · rw [if_neg q]
        refine wpS_bind (wpS_bey hk (hI _ (by omega)) hkey (hg _ (by omega)) ?_)
        cases hB : bey left key (g (hint - ofs)) with
        | true => exact wpS_pure (r2 (by omega) (by rw [hB]; rfl))
        | false => exact wpS_pure (r3 (by omega) (by rw [hB]; rfl))
    · intro last ofs l1 l2 l3 l4
      dsimp only
      refine wpS_bind (bin_loop (B := fun i => bey left key (g i)) anti (by omega) (by omega) ?_ ?_ ?_ ?_)
      · intro i hi
        have h5 := l4 (by omega)
        exact anti i (hint - ofs) (by omega) (by omega) (by simpa using h5)
      · intro i h1 h2
        cases hB : bey left key (g i) with
        | false => rfl
        | true =>
          rw [anti (hint - last) i (by omega) h2 hB] at l3
          cases l3
      · intro x lo hi R g2 r1 r2 r3
        dsimp only
        by_cases q : lo ≥ hi
        · rw [if_pos q]; exact wpS_pure (r1 q)
        · rw [if_neg q]
          refine wpS_bind (wpS_bey hk (hI _ (by omega)) hkey (hg _ (by omega)) ?_)
          cases hB : bey left key (g (lo + (hi - lo) / 2)) with
          | true => exact wpS_pure (r2 (by omega) hB)
          | false => exact wpS_pure (r3 (by omega) hB)
      · intro k h1 h2
        exact wpS_pure (h k h1 h2)
end
end Ab
end

section
open PySem PySem.W PyProof.Rows
namespace Ab
/-- what a merge keeps, over any order -/
structure MI (R : Keyed → Keyed → Prop) (A B out as bs : List Keyed) : Prop where
  perm : (out ++ as ++ bs).Perm (A ++ B)
  so : out.Pairwise R
  sa : as.Pairwise R
  sb : bs.Pairwise R
  oa : ∀ x ∈ out, ∀ y ∈ as, R x y
  ob : ∀ x ∈ out, ∀ y ∈ bs, R x y
section
variable {R : Keyed → Keyed → Prop} {A B out as bs sl : List Keyed}
theorem MI.stepA (I : MI R A B out (sl ++ as) bs) (h : ∀ x ∈ sl, ∀ y ∈ bs, R x y) : MI R A B (out ++ sl) as bs := by
  obtain ⟨p, so, sa, sb, oa, ob⟩ := I
  obtain ⟨s1, s2, s3⟩ := List.pairwise_append.mp sa
  refine ⟨by simpa [List.append_assoc] using p, List.pairwise_append.mpr ⟨so, s1, fun x hx y hy => oa x hx y (List.mem_append_left _ hy)⟩, s2, sb, ?_, ?_⟩
  · intro x hx y hy
    rcases List.mem_append.mp hx with hx | hx
    · exact oa x hx y (List.mem_append_right _ hy)
    · exact s3 x hx y hy
  · intro x hx y hy
    rcases List.mem_append.mp hx with hx | hx
    · exact ob x hx y hy
    · exact h x hx y hy
theorem MI.stepB (I : MI R A B out as (sl ++ bs)) (h : ∀ x ∈ sl, ∀ y ∈ as, R x y) : MI R A B (out ++ sl) as bs := by
  obtain ⟨p, so, sa, sb, oa, ob⟩ := I
  obtain ⟨s1, s2, s3⟩ := List.pairwise_append.mp sb
  refine ⟨?_, List.pairwise_append.mpr ⟨so, s1, fun x hx y hy => ob x hx y (List.mem_append_left _ hy)⟩, sa, s2, ?_, ?_⟩
  · refine List.Perm.trans ?_ p
    simp only [List.append_assoc]
    refine List.Perm.append_left _ ?_
    rw [← List.append_assoc, ← List.append_assoc]
    exact List.Perm.append_right _ List.perm_append_comm
  · intro x hx y hy
    rcases List.mem_append.mp hx with hx | hx
    · exact oa x hx y hy
    · exact h x hx y hy
  · intro x hx y hy
    rcases List.mem_append.mp hx with hx | hx
    · exact ob x hx y (List.mem_append_right _ hy)
    · exact s3 x hx y hy
theorem MI.fin (I : MI R A B out as bs) (h : ∀ x ∈ as, ∀ y ∈ bs, R x y) : (out ++ as ++ bs).Perm (A ++ B) ∧ (out ++ as ++ bs).Pairwise R := by
  obtain ⟨p, so, sa, sb, oa, ob⟩ := I
  refine ⟨p, List.pairwise_append.mpr ⟨List.pairwise_append.mpr ⟨so, sa, oa⟩, sb, ?_⟩⟩
  intro x hx y hy
  rcases List.mem_append.mp hx with hx | hx
  · exact ob x hx y hy
  · exact h x hx y hy
theorem MI.fin' (I : MI R A B out as bs) (h : ∀ x ∈ bs, ∀ y ∈ as, R x y) : (out ++ bs ++ as).Perm (A ++ B) ∧ (out ++ bs ++ as).Pairwise R := by
  obtain ⟨p, so, sa, sb, oa, ob⟩ := I
  refine ⟨?_, List.pairwise_append.mpr ⟨List.pairwise_append.mpr ⟨so, sb, ob⟩, sa, ?_⟩⟩
  · refine List.Perm.trans ?_ p
    simp only [List.append_assoc]
    exact List.Perm.append_left _ List.perm_append_comm
  · intro x hx y hy
    rcases List.mem_append.mp hx with hx | hx
    · exact oa x hx y hy
    · exact h x hx y hy
end
/-- the i-th -/
def gk (a : Array Keyed) (i : Nat) : Keyed := a[i]?.getD (.none, .none)
theorem gk_at {a : Array Keyed} {i : Nat} (h : i < a.size) : a[i]? = some (gk a i) := by
  unfold gk
  rw [getElem?_pos a i h]
  rfl
theorem mem_drop {a : Array Keyed} {i : Nat} {y : Keyed} (h : y ∈ a.toList.drop i) : ∃ j, i ≤ j ∧ j < a.size ∧ y = gk a j := by
  obtain ⟨q, hq⟩ := List.mem_iff_getElem?.mp h
  rw [List.getElem?_drop] at hq
  have hl : i + q < a.size := by
    have := (List.getElem?_eq_some_iff.mp hq).1
    simpa using this
  refine ⟨i + q, by omega, hl, ?_⟩
  have := gk_at hl
  rw [← Array.getElem?_toList, hq] at this
  exact Option.some.inj this
theorem mem_slice {a : Array Keyed} {i k : Nat} {y : Keyed} (h : y ∈ (a.toList.drop i).take k) : ∃ j, i ≤ j ∧ j < i + k ∧ j < a.size ∧ y = gk a j := by
  obtain ⟨q, hq⟩ := List.mem_iff_getElem?.mp h
  rw [List.getElem?_take] at hq
  split at hq
  · rename_i hqk
    rw [List.getElem?_drop] at hq
    have hl : i + q < a.size := by
      have := (List.getElem?_eq_some_iff.mp hq).1
      simpa using this
    refine ⟨i + q, by omega, by omega, hl, ?_⟩
    have := gk_at hl
    rw [← Array.getElem?_toList, hq] at this
    exact Option.some.inj this
  · cases hq
def Srt (a : Array Keyed) : Prop := ∀ i j, i ≤ j → j < a.size → kv (gk a i) ≤ kv (gk a j)
def AllI (a : Array Keyed) : Prop := ∀ i, i < a.size → IsI (gk a i)
def le' (x y : Keyed) : Prop := kv x ≤ kv y
/-- how the state may change -/
def Sm (st st' : SortSt) : Prop := kindOf st' = kindOf st ∧ arrOf st' = arrOf st ∧ pendingOf st' = pendingOf st ∧ failedOf st' = failedOf st
theorem Sm.refl (st : SortSt) : Sm st st := ⟨rfl, rfl, rfl, rfl⟩
theorem Srt.pairwise {a : Array Keyed} (h : Srt a) : a.toList.Pairwise le' := by
  rw [List.pairwise_iff_getElem]
  intro i j hi hj hij
  have hj' : j < a.size := by simpa using hj
  have h1 := h i j (by omega) hj'
  have e1 := gk_at (a := a) (i := i) (by omega)
  have e2 := gk_at hj'
  rw [← Array.getElem?_toList, List.getElem?_eq_getElem hi] at e1
  rw [← Array.getElem?_toList, List.getElem?_eq_getElem hj] at e2
  rw [Option.some.inj e1, Option.some.inj e2]
  exact h1
def LI (a b out : Array Keyed) (ia ib : Nat) : Prop := MI le' a.toList b.toList out.toList (a.toList.drop ia) (b.toList.drop ib)
def Post (a b r : Array Keyed) : Prop := r.toList.Perm (a.toList ++ b.toList) ∧ r.toList.Pairwise le'
theorem drop_take (l : List Keyed) (i k : Nat) : l.drop i = (l.drop i).take k ++ l.drop (i + k) := by
  rw [← List.drop_drop, List.take_append_drop]
theorem drop_one {a : Array Keyed} {i : Nat} (h : i < a.size) : a.toList.drop i = [gk a i] ++ a.toList.drop (i + 1) := by
  have hl : i < a.toList.length := by simpa using h
  rw [List.drop_eq_getElem_cons hl]
  have e := gk_at h
  rw [← Array.getElem?_toList, List.getElem?_eq_getElem hl] at e
  rw [Option.some.inj e]
  rfl
theorem ext_list (a : Array Keyed) (i j : Nat) : (a.extract i j).toList = (a.toList.drop i).take (j - i) := by
  rw [Array.toList_extract, List.extract_eq_take_drop]
theorem ext_all (a : Array Keyed) (i : Nat) : (a.extract i a.size).toList = a.toList.drop i := by
  rw [ext_list, List.take_of_length_le]
  simp
section
variable {a b out : Array Keyed} {ia ib k : Nat}
theorem LI.pushA (I : LI a b out ia ib) (h : ia < a.size) (hc : ∀ j, ib ≤ j → j < b.size → kv (gk a ia) ≤ kv (gk b j)) : LI a b (out.push (gk a ia)) (ia + 1) ib := by
  unfold LI at *
  rw [drop_one h] at I
  have := I.stepA fun x hx y hy => by
    obtain ⟨j, h1, h2, rfl⟩ := mem_drop hy
    rw [List.mem_singleton.mp hx]
    exact hc j h1 h2
  rwa [Array.toList_push]
theorem LI.pushB (I : LI a b out ia ib) (h : ib < b.size) (hc : ∀ j, ia ≤ j → j < a.size → kv (gk b ib) ≤ kv (gk a j)) : LI a b (out.push (gk b ib)) ia (ib + 1) := by
  unfold LI at *
  rw [drop_one h] at I
  have := I.stepB fun x hx y hy => by
    obtain ⟨j, h1, h2, rfl⟩ := mem_drop hy
    rw [List.mem_singleton.mp hx]
    exact hc j h1 h2
  rwa [Array.toList_push]
theorem LI.cpA (I : LI a b out ia ib) (k : Nat) (hc : ∀ i, ia ≤ i → i < ia + k → i < a.size → ∀ j, ib ≤ j → j < b.size → kv (gk a i) ≤ kv (gk b j)) : LI a b (out ++ a.extract ia (ia + k)) (ia + k) ib := by
  unfold LI at *
  rw [drop_take _ ia k] at I
  have := I.stepA fun x hx y hy => by
    obtain ⟨i, g1, g2, g3, rfl⟩ := mem_slice hx
    obtain ⟨j, h1, h2, rfl⟩ := mem_drop hy
    exact hc i g1 g2 g3 j h1 h2
  rwa [Array.toList_append, ext_list, Nat.add_sub_cancel_left]
theorem LI.cpB (I : LI a b out ia ib) (k : Nat) (hc : ∀ i, ib ≤ i → i < ib + k → i < b.size → ∀ j, ia ≤ j → j < a.size → kv (gk b i) ≤ kv (gk a j)) : LI a b (out ++ b.extract ib (ib + k)) ia (ib + k) := by
  unfold LI at *
  rw [drop_take _ ib k] at I
  have := I.stepB fun x hx y hy => by
    obtain ⟨i, g1, g2, g3, rfl⟩ := mem_slice hx
    obtain ⟨j, h1, h2, rfl⟩ := mem_drop hy
    exact hc i g1 g2 g3 j h1 h2
  rwa [Array.toList_append, ext_list, Nat.add_sub_cancel_left]
theorem LI.done (I : LI a b out ia ib) (h : b.size ≤ ib ∨ a.size ≤ ia) : Post a b (out ++ a.extract ia a.size ++ b.extract ib b.size) := by
  unfold Post
  rw [Array.toList_append, Array.toList_append, ext_all, ext_all]
  refine I.fin fun x hx y hy => ?_
  obtain ⟨i, g1, g2, -⟩ := mem_drop hx
  obtain ⟨j, h1, h2, -⟩ := mem_drop hy
  omega
theorem LI.last (I : LI a b out ia ib) (h : ia + 1 = a.size) (hc : ∀ j, j < b.size → kv (gk b j) ≤ kv (gk a (a.size - 1))) : Post a b (out ++ b.extract ib b.size ++ a.extract ia a.size) := by
  unfold Post
  rw [Array.toList_append, Array.toList_append, ext_all, ext_all]
  refine I.fin' fun x hx y hy => ?_
  obtain ⟨i, g1, g2, rfl⟩ := mem_drop hx
  obtain ⟨j, h1, h2, rfl⟩ := mem_drop hy
  have : j = a.size - 1 := by omega
  subst this
  exact hc i g2
end
def mergeLo' : Array Keyed → Array Keyed → StateT SortSt Sem (Array Keyed) := sortPriv% PySem.Builtin.mergeLo
section
variable {prog : Program} {w : World} {A : Around} {E : Value → Shared → Prop} {s : Shared}
theorem wpS_mergeLo {a b : Array Keyed} {st : SortSt} {Q : Array Keyed → SortSt → Prop} (hk : kindOf st = oneType') (hA : AllI a) (hB : AllI b) (sA : Srt a) (sB : Srt b) (na : 1 ≤ a.size) (nb : 1 ≤ b.size)
    (hfirst : kv (gk b 0) ≤ kv (gk a 0)) (hlast : ∀ j, j < b.size → kv (gk b j) ≤ kv (gk a (a.size - 1))) (h : ∀ r st', Post a b r → Sm st st' → Q r st') :
    wpS (model prog w) A E s (mergeLo' a b) Q st := by
  refine wpS_bind (wpS_lift (wpAny_rule ⟨rfl, ?_⟩))
  refine wpS_bind (wpS_elem (gk_at (by omega)) ?_)
  dsimp only
  have I0 : LI a b #[gk b 0] 0 1 := by
    have : LI a b #[] 0 0 := ⟨by simp, List.Pairwise.nil, sA.pairwise, sB.pairwise, (fun x hx => nomatch hx), (fun x hx => nomatch hx)⟩
    exact this.pushB (by omega) fun j h1 h2 => Int.le_trans hfirst (sA _ _ (by omega) h2)
  by_cases e1 : 1 = b.size
  · rw [if_pos (by simpa using e1)]
    exact wpS_pure (h _ _ (I0.done (.inl (by omega))) (Sm.refl _))
  rw [if_neg (by simpa using e1)]
  by_cases e2 : 0 + 1 = a.size
  · rw [if_pos (by simpa using e2)]
    exact wpS_pure (h _ _ (I0.last e2 hlast) (Sm.refl _))
  rw [if_neg (by simpa using e2)]
  refine wpS_bind (wpS_get ?_)
  refine wpS_bind (wpS_mono (Q := fun c st' => ∃ r rest, c = (some r, rest) ∧ Post a b r ∧ Sm st st') (wpS_forRange
    (I := fun x c st' => ∃ out ia ib mg, c = (none, out, ia, ib, mg) ∧ Sm st st' ∧ LI a b out ia ib ∧ ib < b.size ∧ ia + 1 < a.size ∧ x + 1 ≤ ia + ib) ?step ?fin ⟨_, _, _, _, rfl, Sm.refl _, I0, by omega, by omega, by omega⟩) ?post)
  case post =>
    rintro c st' ⟨r, rest, rfl, hp, hs⟩
    exact wpS_pure (h r st' hp hs)
  case fin =>
    rintro c st' ⟨out, ia, ib, mg, rfl, hs, hL, h1, h2, h3⟩
    omega
  case step =>
    rintro x c st7 - hx ⟨out, ia, ib, mg, rfl, S7, L7, b1, b2, b3⟩
    dsimp only
    refine wpS_bind (wpS_mono (Q := fun c st' => st' = st7 ∧ ((∃ r rest, c = (some r, rest) ∧ Post a b r) ∨ (∃ out' ia' ib' ac bc, c = (none, out', ia', ib', ac, bc) ∧ LI a b out' ia' ib' ∧ ib' < b.size ∧ ia' + 1 < a.size ∧ ia + ib + 1 ≤ ia' + ib'))) (wpS_forRange
      (I := fun y c st' => st' = st7 ∧ ∃ out' ia' ib' ac bc, c = (none, out', ia', ib', ac, bc) ∧ LI a b out' ia' ib' ∧ ib' < b.size ∧ ia' + 1 < a.size ∧ ia + ib + y ≤ ia' + ib') ?step1 ?fin1 ⟨rfl, _, _, _, _, _, rfl, L7, b1, b2, by omega⟩) ?post1)
    case fin1 =>
      rintro c st' ⟨rfl, out', ia', ib', ac, bc, rfl, hL, h1, h2, h3⟩
      exact ⟨rfl, .inr ⟨_, _, _, _, _, rfl, hL, h1, h2, by omega⟩⟩
    case step1 =>
      rintro y c st' - hy ⟨rfl, out', ia', ib', ac, bc, rfl, hL, h1, h2, h3⟩
      dsimp only
      refine wpS_bind (wpS_elem (gk_at h1) ?_)
      refine wpS_bind (wpS_elem (gk_at (by omega)) ?_)
      refine wpS_bind (wpS_ltP (S7.1.trans hk) (hB _ h1) (hA _ (by omega)) ?_)
      dsimp only
      by_cases q : kv (gk b ib') < kv (gk a ia')
      · rw [if_pos (by simpa using q)]
        refine wpS_bind (wpS_elem (gk_at h1) ?_)
        (try dsimp only)
        have L1 := hL.pushB h1 fun j g1 g2 => Int.le_trans (Int.le_of_lt q) (sA _ _ g1 g2)
        by_cases e3 : ib' + 1 = b.size
        · rw [if_pos (by simpa using e3)]
          exact wpS_pure ⟨rfl, .inl ⟨_, _, rfl, L1.done (.inl (by omega))⟩⟩
        · rw [if_neg (by simpa using e3)]
          split
          · exact wpS_pure ⟨rfl, .inr ⟨_, _, _, _, _, rfl, L1, by omega, h2, by omega⟩⟩
          · exact wpS_pure ⟨rfl, _, _, _, _, _, rfl, L1, by omega, h2, by omega⟩
      · rw [if_neg (by simpa using q)]
        refine wpS_bind (wpS_elem (gk_at (by omega)) ?_)
        (try dsimp only)
        have L1 := hL.pushA (by omega) fun j g1 g2 => Int.le_trans (Int.not_lt.mp q) (sB _ _ g1 g2)
        by_cases e3 : ia' + 1 + 1 = a.size
        · rw [if_pos (by simpa using e3)]
          exact wpS_pure ⟨rfl, .inl ⟨_, _, rfl, L1.last e3 hlast⟩⟩
        · rw [if_neg (by simpa using e3)]
          split
          · exact wpS_pure ⟨rfl, .inr ⟨_, _, _, _, _, rfl, L1, h1, by omega, by omega⟩⟩
          · exact wpS_pure ⟨rfl, _, _, _, _, _, rfl, L1, h1, by omega, by omega⟩
    case post1 =>
      rintro c st' ⟨rfl, hc⟩
      rcases hc with ⟨r, rest, rfl, hp⟩ | ⟨out', ia', ib', ac, bc, rfl, L6, h1, h2, h3⟩
      · exact wpS_pure ⟨r, _, rfl, hp, S7⟩
      dsimp only
      refine wpS_bind (wpS_lift (wpAny_rule ⟨rfl, ?_⟩))
      refine wpS_bind (wpS_mono (Q := fun c st' => (∃ r rest, c = (some r, rest) ∧ Post a b r ∧ Sm st st') ∨ (∃ out ia ib mg ac bc, c = (none, out, ia, ib, mg, ac, bc) ∧ Sm st st' ∧ LI a b out ia ib ∧ ib < b.size ∧ ia + 1 < a.size ∧ x + 1 + 1 ≤ ia + ib)) (wpS_forRange
        (I := fun _ c st' => ∃ out ia ib mg ac bc, c = (none, out, ia, ib, mg, ac, bc) ∧ Sm st st' ∧ LI a b out ia ib ∧ ib < b.size ∧ ia + 1 < a.size ∧ x + 1 + 1 ≤ ia + ib) ?step2 ?fin2 ⟨_, _, _, _, _, _, rfl, S7, L6, h1, h2, by omega⟩) ?post2)
      case fin2 =>
        rintro c st' hc
        exact .inr hc
      case post2 =>
        rintro c st' hc
        rcases hc with ⟨r, rest, rfl, hp, hs⟩ | ⟨out, ia, ib, mg, ac, bc, rfl, hs, hL, g1, g2, g3⟩
        · exact wpS_pure ⟨r, _, rfl, hp, hs⟩
        · refine wpS_bind (wpS_modify (wpS_pure ?_))
          exact ⟨_, _, _, _, rfl, hs, hL, g1, g2, g3⟩
      case step2 =>
        clear L6 L7 h1 h2 h3 b1 b2 b3
        rintro z c st9 - hz ⟨out, ia, ib, mg, ac, bc, rfl, S8, L0, b1, b2, b3⟩
        dsimp only
        by_cases hmg : mg > 1
        · rw [if_pos hmg]
          refine wpS_bind (wpS_modify ?_)
          have S9 : Sm st (SortSt.mk' (kindOf st9) (arrOf st9) (pendingOf st9) (mg - 1) (failedOf st9)) := S8
          have K9 : kindOf (SortSt.mk' (kindOf st9) (arrOf st9) (pendingOf st9) (mg - 1) (failedOf st9)) = oneType' := S8.1.trans hk
          refine wpS_bind (wpS_elem (gk_at (by omega)) ?_)
          refine wpS_bind (wpS_gallop (g := fun i => gk a (ia + i)) (K9) (hB _ (by omega)) (fun i hi => gk_at (by omega)) (fun i hi => hA _ (by omega)) (fun i j h1 h2 => sA _ _ (by omega) (by omega)) (by omega) fun k k1n k1h => ?_)
          (try dsimp only)
          have c1 : ∀ i, ia ≤ i → i < ia + k → i < a.size → ∀ j, ib ≤ j → j < b.size → kv (gk a i) ≤ kv (gk b j) := fun i h1 h2 h3 j h4 h5 => by
            have q := (k1h (i - ia) (by omega)).mpr (by omega)
            simp only [bey, Bool.false_eq_true, if_false, Bool.not_eq_true', decide_eq_false_iff_not] at q
            rw [show ia + (i - ia) = i by omega] at q
            have := sB _ _ h4 h5
            omega
          have d1 : ∀ j, ia + k ≤ j → j < a.size → kv (gk b ib) ≤ kv (gk a j) := fun j h1 h2 => by
            have q : ¬ bey false (gk b ib) (gk a (ia + (j - ia))) = true := fun hh => by
              have := (k1h (j - ia) (by omega)).mp hh
              omega
            simp only [bey, Bool.false_eq_true, if_false, Bool.not_eq_true', decide_eq_false_iff_not] at q
            rw [show ia + (j - ia) = j by omega] at q
            omega
          by_cases kp : k > 0
          · rw [if_pos kp]
            have L1 := L0.cpA k c1
            by_cases e0 : ia + k + 1 = a.size
            · rw [if_pos (by simpa using e0)]
              exact wpS_pure (.inl ⟨_, _, rfl, L1.last e0 hlast, S9⟩)
            · rw [if_neg (by simpa using e0)]
              by_cases e1 : ia + k = a.size
              · rw [if_pos (by simpa using e1)]
                exact wpS_pure (.inl ⟨_, _, rfl, L1.done (.inr (by omega)), S9⟩)
              · rw [if_neg (by simpa using e1)]
                refine wpS_bind (wpS_elem (gk_at (by omega)) ?_)
                (try dsimp only)
                have LL := L1.pushB (by omega) d1
                by_cases e2 : ib + 1 = b.size
                · rw [if_pos (by simpa using e2)]
                  exact wpS_pure (.inl ⟨_, _, rfl, LL.done (.inl (by omega)), S9⟩)
                · rw [if_neg (by simpa using e2)]
                  refine wpS_bind (wpS_elem (gk_at (by omega)) ?_)
                  (try dsimp only)
                  refine wpS_bind (wpS_gallop (g := fun i => gk b (ib + 1 + i)) (K9) (hA _ (by omega)) (fun i hi => gk_at (by omega)) (fun i hi => hB _ (by omega)) (fun i j h1 h2 => sB _ _ (by omega) (by omega)) (by omega) fun k2 k2n k2h => ?_)
                  (try dsimp only)
                  have c2 : ∀ i, ib + 1 ≤ i → i < ib + 1 + k2 → i < b.size → ∀ j, ia + k ≤ j → j < a.size → kv (gk b i) ≤ kv (gk a j) := fun i h1 h2 h3 j h4 h5 => by
                    have q := (k2h (i - (ib + 1)) (by omega)).mpr (by omega)
                    simp only [bey, if_true, decide_eq_true_eq] at q
                    rw [show ib + 1 + (i - (ib + 1)) = i by omega] at q
                    exact Int.le_trans (Int.le_of_lt q) (sA _ _ h4 h5)
                  have d2 : ∀ j, ib + 1 + k2 ≤ j → j < b.size → kv (gk a (ia + k)) ≤ kv (gk b j) := fun j h1 h2 => by
                    have q : ¬ bey true (gk a (ia + k)) (gk b (ib + 1 + (j - (ib + 1)))) = true := fun hh => by
                      have := (k2h (j - (ib + 1)) (by omega)).mp hh
                      omega
                    simp only [bey, if_true, decide_eq_true_eq] at q
                    rw [show ib + 1 + (j - (ib + 1)) = j by omega] at q
                    omega
                  by_cases k2p : k2 > 0
                  · rw [if_pos k2p]
                    have L2 := LL.cpB k2 c2
                    by_cases e3 : ib + 1 + k2 = b.size
                    · rw [if_pos (by simpa using e3)]
                      exact wpS_pure (.inl ⟨_, _, rfl, L2.done (.inl (by omega)), S9⟩)
                    · rw [if_neg (by simpa using e3)]
                      refine wpS_bind (wpS_elem (gk_at (by omega)) ?_)
                      (try dsimp only)
                      have L3 := L2.pushA (by omega) d2
                      by_cases e4 : ia + k + 1 + 1 = a.size
                      · rw [if_pos (by simpa using e4)]
                        exact wpS_pure (.inl ⟨_, _, rfl, L3.last (by omega) hlast, S9⟩)
                      · rw [if_neg (by simpa using e4)]
                        split
                        · exact wpS_pure (.inr ⟨_, _, _, _, _, _, rfl, S9, L3, by omega, by omega, by omega⟩)
                        · exact wpS_pure ⟨_, _, _, _, _, _, rfl, S9, L3, by omega, by omega, by omega⟩
                  · rw [if_neg k2p]
                    have z2 : k2 = 0 := by omega
                    subst z2
                    refine wpS_bind (wpS_elem (gk_at (by omega)) ?_)
                    (try dsimp only)
                    have L3 := LL.pushA (by omega) d2
                    by_cases e4 : ia + k + 1 + 1 = a.size
                    · rw [if_pos (by simpa using e4)]
                      exact wpS_pure (.inl ⟨_, _, rfl, L3.last (by omega) hlast, S9⟩)
                    · rw [if_neg (by simpa using e4)]
                      split
                      · exact wpS_pure (.inr ⟨_, _, _, _, _, _, rfl, S9, L3, by omega, by omega, by omega⟩)
                      · exact wpS_pure ⟨_, _, _, _, _, _, rfl, S9, L3, by omega, by omega, by omega⟩
          · rw [if_neg kp]
            have z1 : k = 0 := by omega
            subst z1
            have L1 := L0
            refine wpS_bind (wpS_elem (gk_at (by omega)) ?_)
            (try dsimp only)
            have LL := L1.pushB (by omega) d1
            by_cases e2 : ib + 1 = b.size
            · rw [if_pos (by simpa using e2)]
              exact wpS_pure (.inl ⟨_, _, rfl, LL.done (.inl (by omega)), S9⟩)
            · rw [if_neg (by simpa using e2)]
              refine wpS_bind (wpS_elem (gk_at (by omega)) ?_)
              (try dsimp only)
              refine wpS_bind (wpS_gallop (g := fun i => gk b (ib + 1 + i)) (K9) (hA _ (by omega)) (fun i hi => gk_at (by omega)) (fun i hi => hB _ (by omega)) (fun i j h1 h2 => sB _ _ (by omega) (by omega)) (by omega) fun k2 k2n k2h => ?_)
              (try dsimp only)
              have c2 : ∀ i, ib + 1 ≤ i → i < ib + 1 + k2 → i < b.size → ∀ j, ia ≤ j → j < a.size → kv (gk b i) ≤ kv (gk a j) := fun i h1 h2 h3 j h4 h5 => by
                have q := (k2h (i - (ib + 1)) (by omega)).mpr (by omega)
                simp only [bey, if_true, decide_eq_true_eq] at q
                rw [show ib + 1 + (i - (ib + 1)) = i by omega] at q
                exact Int.le_trans (Int.le_of_lt q) (sA _ _ h4 h5)
              have d2 : ∀ j, ib + 1 + k2 ≤ j → j < b.size → kv (gk a (ia)) ≤ kv (gk b j) := fun j h1 h2 => by
                have q : ¬ bey true (gk a (ia)) (gk b (ib + 1 + (j - (ib + 1)))) = true := fun hh => by
                  have := (k2h (j - (ib + 1)) (by omega)).mp hh
                  omega
                simp only [bey, if_true, decide_eq_true_eq] at q
                rw [show ib + 1 + (j - (ib + 1)) = j by omega] at q
                omega
              by_cases k2p : k2 > 0
              · rw [if_pos k2p]
                have L2 := LL.cpB k2 c2
                by_cases e3 : ib + 1 + k2 = b.size
                · rw [if_pos (by simpa using e3)]
                  exact wpS_pure (.inl ⟨_, _, rfl, L2.done (.inl (by omega)), S9⟩)
                · rw [if_neg (by simpa using e3)]
                  refine wpS_bind (wpS_elem (gk_at (by omega)) ?_)
                  (try dsimp only)
                  have L3 := L2.pushA (by omega) d2
                  by_cases e4 : ia + 1 + 1 = a.size
                  · rw [if_pos (by simpa using e4)]
                    exact wpS_pure (.inl ⟨_, _, rfl, L3.last (by omega) hlast, S9⟩)
                  · rw [if_neg (by simpa using e4)]
                    split
                    · exact wpS_pure (.inr ⟨_, _, _, _, _, _, rfl, S9, L3, by omega, by omega, by omega⟩)
                    · exact wpS_pure ⟨_, _, _, _, _, _, rfl, S9, L3, by omega, by omega, by omega⟩
              · rw [if_neg k2p]
                have z2 : k2 = 0 := by omega
                subst z2
                refine wpS_bind (wpS_elem (gk_at (by omega)) ?_)
                (try dsimp only)
                have L3 := LL.pushA (by omega) d2
                by_cases e4 : ia + 1 + 1 = a.size
                · rw [if_pos (by simpa using e4)]
                  exact wpS_pure (.inl ⟨_, _, rfl, L3.last (by omega) hlast, S9⟩)
                · rw [if_neg (by simpa using e4)]
                  split
                  · exact wpS_pure (.inr ⟨_, _, _, _, _, _, rfl, S9, L3, by omega, by omega, by omega⟩)
                  · exact wpS_pure ⟨_, _, _, _, _, _, rfl, S9, L3, by omega, by omega, by omega⟩
        · rw [if_neg hmg]
          refine wpS_bind (wpS_modify ?_)
          have S9 : Sm st (SortSt.mk' (kindOf st9) (arrOf st9) (pendingOf st9) (mg) (failedOf st9)) := S8
          have K9 : kindOf (SortSt.mk' (kindOf st9) (arrOf st9) (pendingOf st9) (mg) (failedOf st9)) = oneType' := S8.1.trans hk
          refine wpS_bind (wpS_elem (gk_at (by omega)) ?_)
          refine wpS_bind (wpS_gallop (g := fun i => gk a (ia + i)) (K9) (hB _ (by omega)) (fun i hi => gk_at (by omega)) (fun i hi => hA _ (by omega)) (fun i j h1 h2 => sA _ _ (by omega) (by omega)) (by omega) fun k k1n k1h => ?_)
          (try dsimp only)
          have c1 : ∀ i, ia ≤ i → i < ia + k → i < a.size → ∀ j, ib ≤ j → j < b.size → kv (gk a i) ≤ kv (gk b j) := fun i h1 h2 h3 j h4 h5 => by
            have q := (k1h (i - ia) (by omega)).mpr (by omega)
            simp only [bey, Bool.false_eq_true, if_false, Bool.not_eq_true', decide_eq_false_iff_not] at q
            rw [show ia + (i - ia) = i by omega] at q
            have := sB _ _ h4 h5
            omega
          have d1 : ∀ j, ia + k ≤ j → j < a.size → kv (gk b ib) ≤ kv (gk a j) := fun j h1 h2 => by
            have q : ¬ bey false (gk b ib) (gk a (ia + (j - ia))) = true := fun hh => by
              have := (k1h (j - ia) (by omega)).mp hh
              omega
            simp only [bey, Bool.false_eq_true, if_false, Bool.not_eq_true', decide_eq_false_iff_not] at q
            rw [show ia + (j - ia) = j by omega] at q
            omega
          by_cases kp : k > 0
          · rw [if_pos kp]
            have L1 := L0.cpA k c1
            by_cases e0 : ia + k + 1 = a.size
            · rw [if_pos (by simpa using e0)]
              exact wpS_pure (.inl ⟨_, _, rfl, L1.last e0 hlast, S9⟩)
            · rw [if_neg (by simpa using e0)]
              by_cases e1 : ia + k = a.size
              · rw [if_pos (by simpa using e1)]
                exact wpS_pure (.inl ⟨_, _, rfl, L1.done (.inr (by omega)), S9⟩)
              · rw [if_neg (by simpa using e1)]
                refine wpS_bind (wpS_elem (gk_at (by omega)) ?_)
                (try dsimp only)
                have LL := L1.pushB (by omega) d1
                by_cases e2 : ib + 1 = b.size
                · rw [if_pos (by simpa using e2)]
                  exact wpS_pure (.inl ⟨_, _, rfl, LL.done (.inl (by omega)), S9⟩)
                · rw [if_neg (by simpa using e2)]
                  refine wpS_bind (wpS_elem (gk_at (by omega)) ?_)
                  (try dsimp only)
                  refine wpS_bind (wpS_gallop (g := fun i => gk b (ib + 1 + i)) (K9) (hA _ (by omega)) (fun i hi => gk_at (by omega)) (fun i hi => hB _ (by omega)) (fun i j h1 h2 => sB _ _ (by omega) (by omega)) (by omega) fun k2 k2n k2h => ?_)
                  (try dsimp only)
                  have c2 : ∀ i, ib + 1 ≤ i → i < ib + 1 + k2 → i < b.size → ∀ j, ia + k ≤ j → j < a.size → kv (gk b i) ≤ kv (gk a j) := fun i h1 h2 h3 j h4 h5 => by
                    have q := (k2h (i - (ib + 1)) (by omega)).mpr (by omega)
                    simp only [bey, if_true, decide_eq_true_eq] at q
                    rw [show ib + 1 + (i - (ib + 1)) = i by omega] at q
                    exact Int.le_trans (Int.le_of_lt q) (sA _ _ h4 h5)
                  have d2 : ∀ j, ib + 1 + k2 ≤ j → j < b.size → kv (gk a (ia + k)) ≤ kv (gk b j) := fun j h1 h2 => by
                    have q : ¬ bey true (gk a (ia + k)) (gk b (ib + 1 + (j - (ib + 1)))) = true := fun hh => by
                      have := (k2h (j - (ib + 1)) (by omega)).mp hh
                      omega
                    simp only [bey, if_true, decide_eq_true_eq] at q
                    rw [show ib + 1 + (j - (ib + 1)) = j by omega] at q
                    omega
                  by_cases k2p : k2 > 0
                  · rw [if_pos k2p]
                    have L2 := LL.cpB k2 c2
                    by_cases e3 : ib + 1 + k2 = b.size
                    · rw [if_pos (by simpa using e3)]
                      exact wpS_pure (.inl ⟨_, _, rfl, L2.done (.inl (by omega)), S9⟩)
                    · rw [if_neg (by simpa using e3)]
                      refine wpS_bind (wpS_elem (gk_at (by omega)) ?_)
                      (try dsimp only)
                      have L3 := L2.pushA (by omega) d2
                      by_cases e4 : ia + k + 1 + 1 = a.size
                      · rw [if_pos (by simpa using e4)]
                        exact wpS_pure (.inl ⟨_, _, rfl, L3.last (by omega) hlast, S9⟩)
                      · rw [if_neg (by simpa using e4)]
                        split
                        · exact wpS_pure (.inr ⟨_, _, _, _, _, _, rfl, S9, L3, by omega, by omega, by omega⟩)
                        · exact wpS_pure ⟨_, _, _, _, _, _, rfl, S9, L3, by omega, by omega, by omega⟩
                  · rw [if_neg k2p]
                    have z2 : k2 = 0 := by omega
                    subst z2
                    refine wpS_bind (wpS_elem (gk_at (by omega)) ?_)
                    (try dsimp only)
                    have L3 := LL.pushA (by omega) d2
                    by_cases e4 : ia + k + 1 + 1 = a.size
                    · rw [if_pos (by simpa using e4)]
                      exact wpS_pure (.inl ⟨_, _, rfl, L3.last (by omega) hlast, S9⟩)
                    · rw [if_neg (by simpa using e4)]
                      split
                      · exact wpS_pure (.inr ⟨_, _, _, _, _, _, rfl, S9, L3, by omega, by omega, by omega⟩)
                      · exact wpS_pure ⟨_, _, _, _, _, _, rfl, S9, L3, by omega, by omega, by omega⟩
          · rw [if_neg kp]
            have z1 : k = 0 := by omega
            subst z1
            have L1 := L0
            refine wpS_bind (wpS_elem (gk_at (by omega)) ?_)
            (try dsimp only)
            have LL := L1.pushB (by omega) d1
            by_cases e2 : ib + 1 = b.size
            · rw [if_pos (by simpa using e2)]
              exact wpS_pure (.inl ⟨_, _, rfl, LL.done (.inl (by omega)), S9⟩)
            · rw [if_neg (by simpa using e2)]
              refine wpS_bind (wpS_elem (gk_at (by omega)) ?_)
              (try dsimp only)
              refine wpS_bind (wpS_gallop (g := fun i => gk b (ib + 1 + i)) (K9) (hA _ (by omega)) (fun i hi => gk_at (by omega)) (fun i hi => hB _ (by omega)) (fun i j h1 h2 => sB _ _ (by omega) (by omega)) (by omega) fun k2 k2n k2h => ?_)
              (try dsimp only)
              have c2 : ∀ i, ib + 1 ≤ i → i < ib + 1 + k2 → i < b.size → ∀ j, ia ≤ j → j < a.size → kv (gk b i) ≤ kv (gk a j) := fun i h1 h2 h3 j h4 h5 => by
                have q := (k2h (i - (ib + 1)) (by omega)).mpr (by omega)
                simp only [bey, if_true, decide_eq_true_eq] at q
                rw [show ib + 1 + (i - (ib + 1)) = i by omega] at q
                exact Int.le_trans (Int.le_of_lt q) (sA _ _ h4 h5)
              have d2 : ∀ j, ib + 1 + k2 ≤ j → j < b.size → kv (gk a (ia)) ≤ kv (gk b j) := fun j h1 h2 => by
                have q : ¬ bey true (gk a (ia)) (gk b (ib + 1 + (j - (ib + 1)))) = true := fun hh => by
                  have := (k2h (j - (ib + 1)) (by omega)).mp hh
                  omega
                simp only [bey, if_true, decide_eq_true_eq] at q
                rw [show ib + 1 + (j - (ib + 1)) = j by omega] at q
                omega
              by_cases k2p : k2 > 0
              · rw [if_pos k2p]
                have L2 := LL.cpB k2 c2
                by_cases e3 : ib + 1 + k2 = b.size
                · rw [if_pos (by simpa using e3)]
                  exact wpS_pure (.inl ⟨_, _, rfl, L2.done (.inl (by omega)), S9⟩)
                · rw [if_neg (by simpa using e3)]
                  refine wpS_bind (wpS_elem (gk_at (by omega)) ?_)
                  (try dsimp only)
                  have L3 := L2.pushA (by omega) d2
                  by_cases e4 : ia + 1 + 1 = a.size
                  · rw [if_pos (by simpa using e4)]
                    exact wpS_pure (.inl ⟨_, _, rfl, L3.last (by omega) hlast, S9⟩)
                  · rw [if_neg (by simpa using e4)]
                    split
                    · exact wpS_pure (.inr ⟨_, _, _, _, _, _, rfl, S9, L3, by omega, by omega, by omega⟩)
                    · exact wpS_pure ⟨_, _, _, _, _, _, rfl, S9, L3, by omega, by omega, by omega⟩
              · rw [if_neg k2p]
                have z2 : k2 = 0 := by omega
                subst z2
                refine wpS_bind (wpS_elem (gk_at (by omega)) ?_)
                (try dsimp only)
                have L3 := LL.pushA (by omega) d2
                by_cases e4 : ia + 1 + 1 = a.size
                · rw [if_pos (by simpa using e4)]
                  exact wpS_pure (.inl ⟨_, _, rfl, L3.last (by omega) hlast, S9⟩)
                · rw [if_neg (by simpa using e4)]
                  split
                  · exact wpS_pure (.inr ⟨_, _, _, _, _, _, rfl, S9, L3, by omega, by omega, by omega⟩)
                  · exact wpS_pure ⟨_, _, _, _, _, _, rfl, S9, L3, by omega, by omega, by omega⟩
end
end Ab
end

section
open PySem PySem.W PyProof.Rows
namespace Ab
def ge' (x y : Keyed) : Prop := kv y ≤ kv x
def HI (a b out : Array Keyed) (na nb : Nat) : Prop := MI ge' a.toList.reverse b.toList.reverse out.toList (a.toList.take na).reverse (b.toList.take nb).reverse
theorem mem_take {a : Array Keyed} {i : Nat} {y : Keyed} (h : y ∈ (a.toList.take i).reverse) : ∃ j, j < i ∧ j < a.size ∧ y = gk a j := by
  have h' : y ∈ (a.toList.drop 0).take i := by simpa using h
  obtain ⟨j, h1, h2, h3, h4⟩ := mem_slice h'
  exact ⟨j, by omega, h3, h4⟩
theorem take_one {a : Array Keyed} {i : Nat} (h : i < a.size) : (a.toList.take (i + 1)).reverse = [gk a i] ++ (a.toList.take i).reverse := by
  have hl : i < a.toList.length := by simpa using h
  have e := gk_at h
  rw [← Array.getElem?_toList] at e
  rw [List.take_add_one, e, List.reverse_append]
  rfl
theorem take_part {a : Array Keyed} {i n : Nat} (h : i ≤ n) : (a.toList.take n).reverse = (a.extract i n).toList.reverse ++ (a.toList.take i).reverse := by
  rw [ext_list, ← List.reverse_append]
  congr 1
  conv => lhs; rw [show n = i + (n - i) by omega, List.take_add]
section
variable {a b out : Array Keyed} {na nb : Nat}
theorem HI.pushA (I : HI a b out (na + 1) nb) (h : na < a.size) (hc : ∀ j, j < nb → j < b.size → kv (gk b j) ≤ kv (gk a na)) : HI a b (out.push (gk a na)) na nb := by
  unfold HI at *
  rw [take_one h] at I
  have := I.stepA fun x hx y hy => by
    obtain ⟨j, h1, h2, rfl⟩ := mem_take hy
    rw [List.mem_singleton.mp hx]
    exact hc j h1 h2
  rwa [Array.toList_push]
theorem HI.pushB (I : HI a b out na (nb + 1)) (h : nb < b.size) (hc : ∀ j, j < na → j < a.size → kv (gk a j) ≤ kv (gk b nb)) : HI a b (out.push (gk b nb)) na nb := by
  unfold HI at *
  rw [take_one h] at I
  have := I.stepB fun x hx y hy => by
    obtain ⟨j, h1, h2, rfl⟩ := mem_take hy
    rw [List.mem_singleton.mp hx]
    exact hc j h1 h2
  rwa [Array.toList_push]
theorem mem_ext {a : Array Keyed} {i n : Nat} {y : Keyed} (h : y ∈ (a.extract i n).toList.reverse) : ∃ j, i ≤ j ∧ j < n ∧ j < a.size ∧ y = gk a j := by
  rw [List.mem_reverse, ext_list] at h
  obtain ⟨j, h1, h2, h3, h4⟩ := mem_slice h
  exact ⟨j, h1, by omega, h3, h4⟩
theorem HI.cpA (I : HI a b out na nb) (k : Nat) (hk : k ≤ na) (hc : ∀ i, k ≤ i → i < na → i < a.size → ∀ j, j < nb → j < b.size → kv (gk b j) ≤ kv (gk a i)) : HI a b (out ++ (a.extract k na).reverse) k nb := by
  unfold HI at *
  rw [take_part hk] at I
  have := I.stepA fun x hx y hy => by
    obtain ⟨i, g1, g2, g3, rfl⟩ := mem_ext hx
    obtain ⟨j, h1, h2, rfl⟩ := mem_take hy
    exact hc i g1 g2 g3 j h1 h2
  rwa [Array.toList_append, Array.toList_reverse]
theorem HI.cpB (I : HI a b out na nb) (k : Nat) (hk : k ≤ nb) (hc : ∀ i, k ≤ i → i < nb → i < b.size → ∀ j, j < na → j < a.size → kv (gk a j) ≤ kv (gk b i)) : HI a b (out ++ (b.extract k nb).reverse) na k := by
  unfold HI at *
  rw [take_part hk] at I
  have := I.stepB fun x hx y hy => by
    obtain ⟨i, g1, g2, g3, rfl⟩ := mem_ext hx
    obtain ⟨j, h1, h2, rfl⟩ := mem_take hy
    exact hc i g1 g2 g3 j h1 h2
  rwa [Array.toList_append, Array.toList_reverse]
theorem ge_rev {l : List Keyed} (h : l.Pairwise ge') : l.reverse.Pairwise le' := List.pairwise_reverse.mpr h
theorem ext0 (a : Array Keyed) (n : Nat) : (a.extract 0 n).toList = a.toList.take n := by rw [ext_list]; simp
theorem HI.done (I : HI a b out na nb) (h : na = 0 ∨ nb = 0) : Post a b (a.extract 0 na ++ b.extract 0 nb ++ out.reverse) := by
  unfold Post
  rw [Array.toList_append, Array.toList_append, ext0, ext0, Array.toList_reverse]
  have f := I.fin' fun x hx y hy => by
    obtain ⟨i, g1, g2, -⟩ := mem_take hx
    obtain ⟨j, h1, h2, -⟩ := mem_take hy
    omega
  have e : (out.toList ++ (b.toList.take nb).reverse ++ (a.toList.take na).reverse).reverse = a.toList.take na ++ b.toList.take nb ++ out.toList.reverse := by simp
  rw [← e]
  exact ⟨(List.reverse_perm _).trans (f.1.trans ((List.reverse_perm _).append (List.reverse_perm _))), ge_rev f.2⟩
theorem HI.first (I : HI a b out na nb) (h : nb = 1) (hc : ∀ i, i < a.size → kv (gk b 0) ≤ kv (gk a i)) : Post a b (b.extract 0 nb ++ a.extract 0 na ++ out.reverse) := by
  unfold Post
  rw [Array.toList_append, Array.toList_append, ext0, ext0, Array.toList_reverse]
  have f := I.fin fun x hx y hy => by
    obtain ⟨i, g1, g2, rfl⟩ := mem_take hx
    obtain ⟨j, h1, h2, rfl⟩ := mem_take hy
    have : j = 0 := by omega
    subst this
    exact hc i g2
  have e : (out.toList ++ (a.toList.take na).reverse ++ (b.toList.take nb).reverse).reverse = b.toList.take nb ++ a.toList.take na ++ out.toList.reverse := by simp
  rw [← e]
  exact ⟨(List.reverse_perm _).trans (f.1.trans ((List.reverse_perm _).append (List.reverse_perm _))), ge_rev f.2⟩
end
def mergeHi' : Array Keyed → Array Keyed → StateT SortSt Sem (Array Keyed) := sortPriv% PySem.Builtin.mergeHi
section
variable {prog : Program} {w : World} {A : Around} {E : Value → Shared → Prop} {s : Shared}
theorem wpS_mergeHi {a b : Array Keyed} {st : SortSt} {Q : Array Keyed → SortSt → Prop} (hk : kindOf st = oneType') (hA : AllI a) (hB : AllI b) (sA : Srt a) (sB : Srt b) (na : 1 ≤ a.size) (nb : 1 ≤ b.size)
    (hfirst : kv (gk b 0) ≤ kv (gk a 0)) (hlast : ∀ j, j < b.size → kv (gk b j) ≤ kv (gk a (a.size - 1))) (h : ∀ r st', Post a b r → Sm st st' → Q r st') :
    wpS (model prog w) A E s (mergeHi' a b) Q st := by
  have hall : ∀ i, i < a.size → kv (gk b 0) ≤ kv (gk a i) := fun i hi => Int.le_trans hfirst (sA _ _ (by omega) hi)
  refine wpS_bind (wpS_lift (wpAny_rule ⟨rfl, ?_⟩))
  (try dsimp only)
  refine wpS_bind (wpS_elem (gk_at (by omega)) ?_)
  (try dsimp only)
  have I0 : HI a b #[gk a (a.size - 1)] (a.size - 1) b.size := by
    have : HI a b #[] (a.size - 1 + 1) b.size := by
      unfold HI
      rw [List.take_of_length_le (by rw [Array.length_toList]; omega), List.take_of_length_le (by simp)]
      refine ⟨by simp, List.Pairwise.nil, ?_, ?_, (fun x hx => nomatch hx), (fun x hx => nomatch hx)⟩
      · exact List.pairwise_reverse.mpr sA.pairwise
      · exact List.pairwise_reverse.mpr sB.pairwise
    exact this.pushA (by omega) fun j h1 h2 => hlast j h2
  by_cases e1 : a.size - 1 = 0
  · rw [if_pos (by simpa using e1)]
    exact wpS_pure (h _ _ (I0.done (.inl e1)) (Sm.refl _))
  rw [if_neg (by simpa using e1)]
  by_cases e2 : b.size = 1
  · rw [if_pos (by simpa using e2)]
    exact wpS_pure (h _ _ (I0.first e2 hall) (Sm.refl _))
  rw [if_neg (by simpa using e2)]
  refine wpS_bind (wpS_get ?_)
  refine wpS_bind (wpS_mono (Q := fun c st' => ∃ r rest, c = (some r, rest) ∧ Post a b r ∧ Sm st st') (wpS_forRange
    (I := fun x c st' => ∃ na nb out mg, c = (none, na, nb, out, mg) ∧ Sm st st' ∧ HI a b out na nb ∧ (1 ≤ na ∧ na < a.size) ∧ (2 ≤ nb ∧ nb ≤ b.size) ∧ na + nb + x + 1 ≤ a.size + b.size) ?step ?fin ⟨_, _, _, _, rfl, Sm.refl _, I0, by omega, by omega, by omega⟩) ?post)
  case post =>
    rintro c st' ⟨r, rest, rfl, hp, hs⟩
    exact wpS_pure (h r st' hp hs)
  case fin =>
    rintro c st' ⟨na, nb, out, mg, rfl, hs, hL, h1, h2, h3⟩
    omega
  case step =>
    clear na nb
    rintro x c st7 - hx ⟨na, nb, out, mg, rfl, S7, L7, b1, b2, b3⟩
    dsimp only
    refine wpS_bind (wpS_mono (Q := fun c st' => st' = st7 ∧ ((∃ r rest, c = (some r, rest) ∧ Post a b r) ∨ (∃ na' nb' out' ac bc, c = (none, na', nb', out', ac, bc) ∧ HI a b out' na' nb' ∧ (1 ≤ na' ∧ na' < a.size) ∧ (2 ≤ nb' ∧ nb' ≤ b.size) ∧ na' + nb' + 1 ≤ na + nb))) (wpS_forRange
      (I := fun y c st' => st' = st7 ∧ ∃ na' nb' out' ac bc, c = (none, na', nb', out', ac, bc) ∧ HI a b out' na' nb' ∧ (1 ≤ na' ∧ na' < a.size) ∧ (2 ≤ nb' ∧ nb' ≤ b.size) ∧ na' + nb' + y ≤ na + nb) ?step1 ?fin1 ⟨rfl, _, _, _, _, _, rfl, L7, b1, b2, by omega⟩) ?post1)
    case fin1 =>
      rintro c st' ⟨rfl, na', nb', out', ac, bc, rfl, hL, h1, h2, h3⟩
      exact ⟨rfl, .inr ⟨_, _, _, _, _, rfl, hL, h1, h2, by omega⟩⟩
    case step1 =>
      rintro y c st' - hy ⟨rfl, na', nb', out', ac, bc, rfl, hL, h1, h2, h3⟩
      dsimp only
      refine wpS_bind (wpS_elem (gk_at (by omega)) ?_)
      refine wpS_bind (wpS_elem (gk_at (by omega)) ?_)
      refine wpS_bind (wpS_ltP (S7.1.trans hk) (hB _ (by omega)) (hA _ (by omega)) ?_)
      dsimp only
      by_cases q : kv (gk b (nb' - 1)) < kv (gk a (na' - 1))
      · rw [if_pos (by simpa using q)]
        refine wpS_bind (wpS_elem (gk_at (by omega)) ?_)
        (try dsimp only)
        have L1 : HI a b _ (na' - 1) nb' := HI.pushA (by rw [show na' - 1 + 1 = na' by omega]; exact hL) (by omega) fun j g1 g2 => Int.le_trans (sB j (nb' - 1) (by omega) (by omega)) (Int.le_of_lt q)
        by_cases e3 : na' - 1 = 0
        · rw [if_pos (by simpa using e3)]
          exact wpS_pure ⟨rfl, .inl ⟨_, _, rfl, L1.done (.inl e3)⟩⟩
        · rw [if_neg (by simpa using e3)]
          split
          · exact wpS_pure ⟨rfl, .inr ⟨_, _, _, _, _, rfl, L1, by omega, h2, by omega⟩⟩
          · exact wpS_pure ⟨rfl, _, _, _, _, _, rfl, L1, by omega, h2, by omega⟩
      · rw [if_neg (by simpa using q)]
        refine wpS_bind (wpS_elem (gk_at (by omega)) ?_)
        (try dsimp only)
        have L1 : HI a b _ na' (nb' - 1) := HI.pushB (by rw [show nb' - 1 + 1 = nb' by omega]; exact hL) (by omega) fun j g1 g2 => Int.le_trans (sA j (na' - 1) (by omega) (by omega)) (Int.not_lt.mp q)
        by_cases e3 : nb' - 1 = 1
        · rw [if_pos (by simpa using e3)]
          exact wpS_pure ⟨rfl, .inl ⟨_, _, rfl, L1.first e3 hall⟩⟩
        · rw [if_neg (by simpa using e3)]
          split
          · exact wpS_pure ⟨rfl, .inr ⟨_, _, _, _, _, rfl, L1, h1, by omega, by omega⟩⟩
          · exact wpS_pure ⟨rfl, _, _, _, _, _, rfl, L1, h1, by omega, by omega⟩
    case post1 =>
      rintro c st' ⟨rfl, hc⟩
      rcases hc with ⟨r, rest, rfl, hp⟩ | ⟨na', nb', out', ac, bc, rfl, L6, h1, h2, h3⟩
      · exact wpS_pure ⟨r, _, rfl, hp, S7⟩
      dsimp only
      refine wpS_bind (wpS_lift (wpAny_rule ⟨rfl, ?_⟩))
      refine wpS_bind (wpS_mono (Q := fun c st' => (∃ r rest, c = (some r, rest) ∧ Post a b r ∧ Sm st st') ∨ (∃ na nb out mg ac bc, c = (none, na, nb, out, mg, ac, bc) ∧ Sm st st' ∧ HI a b out na nb ∧ (1 ≤ na ∧ na < a.size) ∧ (2 ≤ nb ∧ nb ≤ b.size) ∧ na + nb + (x + 1) + 1 ≤ a.size + b.size)) (wpS_forRange
        (I := fun _ c st' => ∃ na nb out mg ac bc, c = (none, na, nb, out, mg, ac, bc) ∧ Sm st st' ∧ HI a b out na nb ∧ (1 ≤ na ∧ na < a.size) ∧ (2 ≤ nb ∧ nb ≤ b.size) ∧ na + nb + (x + 1) + 1 ≤ a.size + b.size) ?step2 ?fin2 ⟨_, _, _, _, _, _, rfl, S7, L6, h1, h2, by omega⟩) ?post2)
      case fin2 =>
        rintro c st' hc
        exact .inr hc
      case post2 =>
        rintro c st' hc
        rcases hc with ⟨r, rest, rfl, hp, hs⟩ | ⟨na, nb, out, mg, ac, bc, rfl, hs, hL, g1, g2, g3⟩
        · exact wpS_pure ⟨r, _, rfl, hp, hs⟩
        · refine wpS_bind (wpS_modify (wpS_pure ?_))
          exact ⟨_, _, _, _, rfl, hs, hL, g1, g2, g3⟩
      case step2 =>
        clear L6 L7 h1 h2 h3 b1 b2 b3
        rintro z c st9 - hz ⟨na, nb, out, mg, ac, bc, rfl, S8, L0, b1, b2, b3⟩
        dsimp only
        by_cases hmg : mg > 1
        · rw [if_pos hmg]
          refine wpS_bind (wpS_modify ?_)
          have S9 : Sm st (SortSt.mk' (kindOf st9) (arrOf st9) (pendingOf st9) (mg - 1) (failedOf st9)) := S8
          have K9 : kindOf (SortSt.mk' (kindOf st9) (arrOf st9) (pendingOf st9) (mg - 1) (failedOf st9)) = oneType' := S8.1.trans hk
          refine wpS_bind (wpS_elem (gk_at (by omega)) ?_)
          refine wpS_bind (wpS_gallop (g := fun i => gk a i) K9 (hB _ (by omega)) (fun i hi => by rw [Nat.zero_add]; exact gk_at (by omega)) (fun i hi => hA _ (by omega)) (fun i j h1 h2 => sA _ _ (by omega) (by omega)) (by omega) fun k k1n k1h => ?_)
          dsimp only
          have c1 : ∀ i, k ≤ i → i < na → i < a.size → ∀ j, j < nb → j < b.size → kv (gk b j) ≤ kv (gk a i) := fun i h1 h2 h3 j h4 h5 => by
            have q : ¬ bey false (gk b (nb - 1)) (gk a i) = true := fun hh => by
              have := (k1h i (by omega)).mp hh
              omega
            simp only [bey, Bool.false_eq_true, if_false, Bool.not_eq_true', decide_eq_false_iff_not, Classical.not_not] at q
            have := sB j (nb - 1) (by omega) (by omega)
            omega
          have d1 : ∀ j, j < k → j < a.size → kv (gk a j) ≤ kv (gk b (nb - 1)) := fun j h1 h2 => by
            have q := (k1h j (by omega)).mpr h1
            simp only [bey, Bool.false_eq_true, if_false, Bool.not_eq_true', decide_eq_false_iff_not] at q
            omega
          by_cases kp : na - k > 0
          · rw [if_pos kp]
            have L1 := L0.cpA k (by omega) c1
            by_cases e0 : k = 0
            · rw [if_pos (by simpa using e0)]
              exact wpS_pure (.inl ⟨_, _, rfl, L1.done (.inl e0), S9⟩)
            · rw [if_neg (by simpa using e0)]
              refine wpS_bind (wpS_elem (gk_at (by omega)) ?_)
              (try dsimp only)
              have LL : HI a b _ (k) (nb - 1) := HI.pushB (by rw [show nb - 1 + 1 = nb by omega]; exact L1) (by omega) d1
              by_cases e2 : nb - 1 = 1
              · rw [if_pos (by simpa using e2)]
                exact wpS_pure (.inl ⟨_, _, rfl, LL.first e2 hall, S9⟩)
              · rw [if_neg (by simpa using e2)]
                refine wpS_bind (wpS_elem (gk_at (by omega)) ?_)
                (try dsimp only)
                refine wpS_bind (wpS_gallop (g := fun i => gk b i) K9 (hA _ (by omega)) (fun i hi => by rw [Nat.zero_add]; exact gk_at (by omega)) (fun i hi => hB _ (by omega)) (fun i j h1 h2 => sB _ _ (by omega) (by omega)) (by omega) fun k2 k2n k2h => ?_)
                dsimp only
                have c2 : ∀ i, k2 ≤ i → i < nb - 1 → i < b.size → ∀ j, j < k → j < a.size → kv (gk a j) ≤ kv (gk b i) := fun i h1 h2 h3 j h4 h5 => by
                  have q : ¬ bey true (gk a (k - 1)) (gk b i) = true := fun hh => by
                    have := (k2h i (by omega)).mp hh
                    omega
                  simp only [bey, if_true, decide_eq_true_eq] at q
                  have := sA j (k - 1) (by omega) (by omega)
                  omega
                have d2 : ∀ j, j < k2 → j < b.size → kv (gk b j) ≤ kv (gk a (k - 1)) := fun j h1 h2 => by
                  have q := (k2h j (by omega)).mpr h1
                  simp only [bey, if_true, decide_eq_true_eq] at q
                  omega
                by_cases k2p : nb - 1 - k2 > 0
                · rw [if_pos k2p]
                  have LX := LL.cpB k2 (by omega) c2
                  by_cases e3 : k2 = 1
                  · rw [if_pos (by simpa using e3)]
                    exact wpS_pure (.inl ⟨_, _, rfl, LX.first e3 hall, S9⟩)
                  · rw [if_neg (by simpa using e3)]
                    by_cases e5 : k2 = 0
                    · rw [if_pos (by simpa using e5)]
                      exact wpS_pure (.inl ⟨_, _, rfl, LX.done (.inr e5), S9⟩)
                    · rw [if_neg (by simpa using e5)]
                      refine wpS_bind (wpS_elem (gk_at (by omega)) ?_)
                      (try dsimp only)
                      have L3 : HI a b _ (k - 1) (k2) := HI.pushA (by rw [show k - 1 + 1 = k by omega]; exact LX) (by omega) d2
                      by_cases e4 : k - 1 = 0
                      · rw [if_pos (by simpa using e4)]
                        exact wpS_pure (.inl ⟨_, _, rfl, L3.done (.inl e4), S9⟩)
                      · rw [if_neg (by simpa using e4)]
                        split
                        · exact wpS_pure (.inr ⟨_, _, _, _, _, _, rfl, S9, L3, by omega, by omega, by omega⟩)
                        · exact wpS_pure ⟨_, _, _, _, _, _, rfl, S9, L3, by omega, by omega, by omega⟩
                · rw [if_neg k2p]
                  have z2 : k2 = nb - 1 := by omega
                  subst z2
                  have LX := LL
                  refine wpS_bind (wpS_elem (gk_at (by omega)) ?_)
                  (try dsimp only)
                  have L3 : HI a b _ (k - 1) (nb - 1) := HI.pushA (by rw [show k - 1 + 1 = k by omega]; exact LX) (by omega) d2
                  by_cases e4 : k - 1 = 0
                  · rw [if_pos (by simpa using e4)]
                    exact wpS_pure (.inl ⟨_, _, rfl, L3.done (.inl e4), S9⟩)
                  · rw [if_neg (by simpa using e4)]
                    split
                    · exact wpS_pure (.inr ⟨_, _, _, _, _, _, rfl, S9, L3, by omega, by omega, by omega⟩)
                    · exact wpS_pure ⟨_, _, _, _, _, _, rfl, S9, L3, by omega, by omega, by omega⟩
          · rw [if_neg kp]
            have z1 : k = na := by omega
            subst z1
            have L1 := L0
            refine wpS_bind (wpS_elem (gk_at (by omega)) ?_)
            (try dsimp only)
            have LL : HI a b _ (k) (nb - 1) := HI.pushB (by rw [show nb - 1 + 1 = nb by omega]; exact L1) (by omega) d1
            by_cases e2 : nb - 1 = 1
            · rw [if_pos (by simpa using e2)]
              exact wpS_pure (.inl ⟨_, _, rfl, LL.first e2 hall, S9⟩)
            · rw [if_neg (by simpa using e2)]
              refine wpS_bind (wpS_elem (gk_at (by omega)) ?_)
              (try dsimp only)
              refine wpS_bind (wpS_gallop (g := fun i => gk b i) K9 (hA _ (by omega)) (fun i hi => by rw [Nat.zero_add]; exact gk_at (by omega)) (fun i hi => hB _ (by omega)) (fun i j h1 h2 => sB _ _ (by omega) (by omega)) (by omega) fun k2 k2n k2h => ?_)
              dsimp only
              have c2 : ∀ i, k2 ≤ i → i < nb - 1 → i < b.size → ∀ j, j < k → j < a.size → kv (gk a j) ≤ kv (gk b i) := fun i h1 h2 h3 j h4 h5 => by
                have q : ¬ bey true (gk a (k - 1)) (gk b i) = true := fun hh => by
                  have := (k2h i (by omega)).mp hh
                  omega
                simp only [bey, if_true, decide_eq_true_eq] at q
                have := sA j (k - 1) (by omega) (by omega)
                omega
              have d2 : ∀ j, j < k2 → j < b.size → kv (gk b j) ≤ kv (gk a (k - 1)) := fun j h1 h2 => by
                have q := (k2h j (by omega)).mpr h1
                simp only [bey, if_true, decide_eq_true_eq] at q
                omega
              by_cases k2p : nb - 1 - k2 > 0
              · rw [if_pos k2p]
                have LX := LL.cpB k2 (by omega) c2
                by_cases e3 : k2 = 1
                · rw [if_pos (by simpa using e3)]
                  exact wpS_pure (.inl ⟨_, _, rfl, LX.first e3 hall, S9⟩)
                · rw [if_neg (by simpa using e3)]
                  by_cases e5 : k2 = 0
                  · rw [if_pos (by simpa using e5)]
                    exact wpS_pure (.inl ⟨_, _, rfl, LX.done (.inr e5), S9⟩)
                  · rw [if_neg (by simpa using e5)]
                    refine wpS_bind (wpS_elem (gk_at (by omega)) ?_)
                    (try dsimp only)
                    have L3 : HI a b _ (k - 1) (k2) := HI.pushA (by rw [show k - 1 + 1 = k by omega]; exact LX) (by omega) d2
                    by_cases e4 : k - 1 = 0
                    · rw [if_pos (by simpa using e4)]
                      exact wpS_pure (.inl ⟨_, _, rfl, L3.done (.inl e4), S9⟩)
                    · rw [if_neg (by simpa using e4)]
                      split
                      · exact wpS_pure (.inr ⟨_, _, _, _, _, _, rfl, S9, L3, by omega, by omega, by omega⟩)
                      · exact wpS_pure ⟨_, _, _, _, _, _, rfl, S9, L3, by omega, by omega, by omega⟩
              · rw [if_neg k2p]
                have z2 : k2 = nb - 1 := by omega
                subst z2
                have LX := LL
                refine wpS_bind (wpS_elem (gk_at (by omega)) ?_)
                (try dsimp only)
                have L3 : HI a b _ (k - 1) (nb - 1) := HI.pushA (by rw [show k - 1 + 1 = k by omega]; exact LX) (by omega) d2
                by_cases e4 : k - 1 = 0
                · rw [if_pos (by simpa using e4)]
                  exact wpS_pure (.inl ⟨_, _, rfl, L3.done (.inl e4), S9⟩)
                · rw [if_neg (by simpa using e4)]
                  split
                  · exact wpS_pure (.inr ⟨_, _, _, _, _, _, rfl, S9, L3, by omega, by omega, by omega⟩)
                  · exact wpS_pure ⟨_, _, _, _, _, _, rfl, S9, L3, by omega, by omega, by omega⟩
        · rw [if_neg hmg]
          refine wpS_bind (wpS_modify ?_)
          have S9 : Sm st (SortSt.mk' (kindOf st9) (arrOf st9) (pendingOf st9) (mg) (failedOf st9)) := S8
          have K9 : kindOf (SortSt.mk' (kindOf st9) (arrOf st9) (pendingOf st9) (mg) (failedOf st9)) = oneType' := S8.1.trans hk
          refine wpS_bind (wpS_elem (gk_at (by omega)) ?_)
          refine wpS_bind (wpS_gallop (g := fun i => gk a i) K9 (hB _ (by omega)) (fun i hi => by rw [Nat.zero_add]; exact gk_at (by omega)) (fun i hi => hA _ (by omega)) (fun i j h1 h2 => sA _ _ (by omega) (by omega)) (by omega) fun k k1n k1h => ?_)
          dsimp only
          have c1 : ∀ i, k ≤ i → i < na → i < a.size → ∀ j, j < nb → j < b.size → kv (gk b j) ≤ kv (gk a i) := fun i h1 h2 h3 j h4 h5 => by
            have q : ¬ bey false (gk b (nb - 1)) (gk a i) = true := fun hh => by
              have := (k1h i (by omega)).mp hh
              omega
            simp only [bey, Bool.false_eq_true, if_false, Bool.not_eq_true', decide_eq_false_iff_not, Classical.not_not] at q
            have := sB j (nb - 1) (by omega) (by omega)
            omega
          have d1 : ∀ j, j < k → j < a.size → kv (gk a j) ≤ kv (gk b (nb - 1)) := fun j h1 h2 => by
            have q := (k1h j (by omega)).mpr h1
            simp only [bey, Bool.false_eq_true, if_false, Bool.not_eq_true', decide_eq_false_iff_not] at q
            omega
          by_cases kp : na - k > 0
          · rw [if_pos kp]
            have L1 := L0.cpA k (by omega) c1
            by_cases e0 : k = 0
            · rw [if_pos (by simpa using e0)]
              exact wpS_pure (.inl ⟨_, _, rfl, L1.done (.inl e0), S9⟩)
            · rw [if_neg (by simpa using e0)]
              refine wpS_bind (wpS_elem (gk_at (by omega)) ?_)
              (try dsimp only)
              have LL : HI a b _ (k) (nb - 1) := HI.pushB (by rw [show nb - 1 + 1 = nb by omega]; exact L1) (by omega) d1
              by_cases e2 : nb - 1 = 1
              · rw [if_pos (by simpa using e2)]
                exact wpS_pure (.inl ⟨_, _, rfl, LL.first e2 hall, S9⟩)
              · rw [if_neg (by simpa using e2)]
                refine wpS_bind (wpS_elem (gk_at (by omega)) ?_)
                (try dsimp only)
                refine wpS_bind (wpS_gallop (g := fun i => gk b i) K9 (hA _ (by omega)) (fun i hi => by rw [Nat.zero_add]; exact gk_at (by omega)) (fun i hi => hB _ (by omega)) (fun i j h1 h2 => sB _ _ (by omega) (by omega)) (by omega) fun k2 k2n k2h => ?_)
                dsimp only
                have c2 : ∀ i, k2 ≤ i → i < nb - 1 → i < b.size → ∀ j, j < k → j < a.size → kv (gk a j) ≤ kv (gk b i) := fun i h1 h2 h3 j h4 h5 => by
                  have q : ¬ bey true (gk a (k - 1)) (gk b i) = true := fun hh => by
                    have := (k2h i (by omega)).mp hh
                    omega
                  simp only [bey, if_true, decide_eq_true_eq] at q
                  have := sA j (k - 1) (by omega) (by omega)
                  omega
                have d2 : ∀ j, j < k2 → j < b.size → kv (gk b j) ≤ kv (gk a (k - 1)) := fun j h1 h2 => by
                  have q := (k2h j (by omega)).mpr h1
                  simp only [bey, if_true, decide_eq_true_eq] at q
                  omega
                by_cases k2p : nb - 1 - k2 > 0
                · rw [if_pos k2p]
                  have LX := LL.cpB k2 (by omega) c2
                  by_cases e3 : k2 = 1
                  · rw [if_pos (by simpa using e3)]
                    exact wpS_pure (.inl ⟨_, _, rfl, LX.first e3 hall, S9⟩)
                  · rw [if_neg (by simpa using e3)]
                    by_cases e5 : k2 = 0
                    · rw [if_pos (by simpa using e5)]
                      exact wpS_pure (.inl ⟨_, _, rfl, LX.done (.inr e5), S9⟩)
                    · rw [if_neg (by simpa using e5)]
                      refine wpS_bind (wpS_elem (gk_at (by omega)) ?_)
                      (try dsimp only)
                      have L3 : HI a b _ (k - 1) (k2) := HI.pushA (by rw [show k - 1 + 1 = k by omega]; exact LX) (by omega) d2
                      by_cases e4 : k - 1 = 0
                      · rw [if_pos (by simpa using e4)]
                        exact wpS_pure (.inl ⟨_, _, rfl, L3.done (.inl e4), S9⟩)
                      · rw [if_neg (by simpa using e4)]
                        split
                        · exact wpS_pure (.inr ⟨_, _, _, _, _, _, rfl, S9, L3, by omega, by omega, by omega⟩)
                        · exact wpS_pure ⟨_, _, _, _, _, _, rfl, S9, L3, by omega, by omega, by omega⟩
                · rw [if_neg k2p]
                  have z2 : k2 = nb - 1 := by omega
                  subst z2
                  have LX := LL
                  refine wpS_bind (wpS_elem (gk_at (by omega)) ?_)
                  (try dsimp only)
                  have L3 : HI a b _ (k - 1) (nb - 1) := HI.pushA (by rw [show k - 1 + 1 = k by omega]; exact LX) (by omega) d2
                  by_cases e4 : k - 1 = 0
                  · rw [if_pos (by simpa using e4)]
                    exact wpS_pure (.inl ⟨_, _, rfl, L3.done (.inl e4), S9⟩)
                  · rw [if_neg (by simpa using e4)]
                    split
                    · exact wpS_pure (.inr ⟨_, _, _, _, _, _, rfl, S9, L3, by omega, by omega, by omega⟩)
                    · exact wpS_pure ⟨_, _, _, _, _, _, rfl, S9, L3, by omega, by omega, by omega⟩
          · rw [if_neg kp]
            have z1 : k = na := by omega
            subst z1
            have L1 := L0
            refine wpS_bind (wpS_elem (gk_at (by omega)) ?_)
            (try dsimp only)
            have LL : HI a b _ (k) (nb - 1) := HI.pushB (by rw [show nb - 1 + 1 = nb by omega]; exact L1) (by omega) d1
            by_cases e2 : nb - 1 = 1
            · rw [if_pos (by simpa using e2)]
              exact wpS_pure (.inl ⟨_, _, rfl, LL.first e2 hall, S9⟩)
            · rw [if_neg (by simpa using e2)]
              refine wpS_bind (wpS_elem (gk_at (by omega)) ?_)
              (try dsimp only)
              refine wpS_bind (wpS_gallop (g := fun i => gk b i) K9 (hA _ (by omega)) (fun i hi => by rw [Nat.zero_add]; exact gk_at (by omega)) (fun i hi => hB _ (by omega)) (fun i j h1 h2 => sB _ _ (by omega) (by omega)) (by omega) fun k2 k2n k2h => ?_)
              dsimp only
              have c2 : ∀ i, k2 ≤ i → i < nb - 1 → i < b.size → ∀ j, j < k → j < a.size → kv (gk a j) ≤ kv (gk b i) := fun i h1 h2 h3 j h4 h5 => by
                have q : ¬ bey true (gk a (k - 1)) (gk b i) = true := fun hh => by
                  have := (k2h i (by omega)).mp hh
                  omega
                simp only [bey, if_true, decide_eq_true_eq] at q
                have := sA j (k - 1) (by omega) (by omega)
                omega
              have d2 : ∀ j, j < k2 → j < b.size → kv (gk b j) ≤ kv (gk a (k - 1)) := fun j h1 h2 => by
                have q := (k2h j (by omega)).mpr h1
                simp only [bey, if_true, decide_eq_true_eq] at q
                omega
              by_cases k2p : nb - 1 - k2 > 0
              · rw [if_pos k2p]
                have LX := LL.cpB k2 (by omega) c2
                by_cases e3 : k2 = 1
                · rw [if_pos (by simpa using e3)]
                  exact wpS_pure (.inl ⟨_, _, rfl, LX.first e3 hall, S9⟩)
                · rw [if_neg (by simpa using e3)]
                  by_cases e5 : k2 = 0
                  · rw [if_pos (by simpa using e5)]
                    exact wpS_pure (.inl ⟨_, _, rfl, LX.done (.inr e5), S9⟩)
                  · rw [if_neg (by simpa using e5)]
                    refine wpS_bind (wpS_elem (gk_at (by omega)) ?_)
                    (try dsimp only)
                    have L3 : HI a b _ (k - 1) (k2) := HI.pushA (by rw [show k - 1 + 1 = k by omega]; exact LX) (by omega) d2
                    by_cases e4 : k - 1 = 0
                    · rw [if_pos (by simpa using e4)]
                      exact wpS_pure (.inl ⟨_, _, rfl, L3.done (.inl e4), S9⟩)
                    · rw [if_neg (by simpa using e4)]
                      split
                      · exact wpS_pure (.inr ⟨_, _, _, _, _, _, rfl, S9, L3, by omega, by omega, by omega⟩)
                      · exact wpS_pure ⟨_, _, _, _, _, _, rfl, S9, L3, by omega, by omega, by omega⟩
              · rw [if_neg k2p]
                have z2 : k2 = nb - 1 := by omega
                subst z2
                have LX := LL
                refine wpS_bind (wpS_elem (gk_at (by omega)) ?_)
                (try dsimp only)
                have L3 : HI a b _ (k - 1) (nb - 1) := HI.pushA (by rw [show k - 1 + 1 = k by omega]; exact LX) (by omega) d2
                by_cases e4 : k - 1 = 0
                · rw [if_pos (by simpa using e4)]
                  exact wpS_pure (.inl ⟨_, _, rfl, L3.done (.inl e4), S9⟩)
                · rw [if_neg (by simpa using e4)]
                  split
                  · exact wpS_pure (.inr ⟨_, _, _, _, _, _, rfl, S9, L3, by omega, by omega, by omega⟩)
                  · exact wpS_pure ⟨_, _, _, _, _, _, rfl, S9, L3, by omega, by omega, by omega⟩
end
end Ab
end

section
open PySem PySem.W PyProof.Rows
namespace Ab
theorem K_gk (xs : Array Keyed) (i : Nat) : K xs i = kv (gk xs i) := by
  unfold K kv gk
  cases xs[i]? <;> rfl
theorem srt_of {a : Array Keyed} (h : a.toList.Pairwise le') : Srt a := fun i j hij hj => by
  by_cases e : i = j
  · subst e; exact Int.le_refl _
  · have hi' : i < a.toList.length := by rw [Array.length_toList]; omega
    have hj' : j < a.toList.length := by rw [Array.length_toList]; omega
    have := (List.pairwise_iff_getElem.mp h) i j hi' hj' (by omega)
    have e1 := gk_at (a := a) (i := i) (by omega)
    have e2 := gk_at hj
    rw [← Array.getElem?_toList, List.getElem?_eq_getElem hi'] at e1
    rw [← Array.getElem?_toList, List.getElem?_eq_getElem hj'] at e2
    rw [Option.some.inj e1, Option.some.inj e2] at this
    exact this
theorem put_get (k : Nat) : ∀ (l : List Keyed) (n : Nat) (a : Array Keyed), k + n + l.length ≤ a.size → ∀ i,
    ((l.zipIdx n).foldl (fun a (pj : Keyed × Nat) => a.setIfInBounds (k + pj.2) pj.1) a)[i]? = if k + n ≤ i ∧ i < k + n + l.length then l[i - (k + n)]? else a[i]?
  | [], n, a, _, i => by
    rw [List.zipIdx_nil, List.foldl_nil, if_neg (by simp only [List.length_nil]; omega)]
  | p :: l, n, a, h, i => by
    simp only [List.length_cons] at h
    rw [List.zipIdx_cons, List.foldl_cons, put_get k l (n + 1) _ (by rw [Array.size_setIfInBounds]; omega)]
    simp only [List.length_cons]
    rw [Array.getElem?_setIfInBounds]
    by_cases e : i = k + n
    · subst e
      rw [if_neg (by omega), if_pos rfl, if_pos (by omega), if_pos (by omega), Nat.sub_self]
      rfl
    · rw [if_neg (c := k + n = i) (by omega)]
      by_cases c : k + (n + 1) ≤ i ∧ i < k + (n + 1) + l.length
      · rw [if_pos c, if_pos (by omega), show i - (k + n) = (i - (k + (n + 1))) + 1 by omega, List.getElem?_cons_succ]
      · rw [if_neg c, if_neg (by omega)]
theorem put_list {k : Nat} {l : List Keyed} {a : Array Keyed} (h : k + l.length ≤ a.size) :
    (l.zipIdx.foldl (fun a (pj : Keyed × Nat) => a.setIfInBounds (k + pj.2) pj.1) a).toList = a.toList.take k ++ (l ++ a.toList.drop (k + l.length)) := by
  refine List.ext_getElem? fun i => ?_
  rw [Array.getElem?_toList, put_get k l 0 a (by omega)]
  have hl : (a.toList.take k).length = k := by rw [List.length_take, Array.length_toList]; omega
  rw [Nat.add_zero]
  by_cases c1 : i < k
  · rw [if_neg (by omega), List.getElem?_append_left (by omega), List.getElem?_take, if_pos c1, Array.getElem?_toList]
  · rw [List.getElem?_append_right (by omega), hl]
    by_cases c2 : i < k + l.length
    · rw [if_pos (by omega), List.getElem?_append_left (by omega)]
    · rw [if_neg (by omega), List.getElem?_append_right (by omega), List.getElem?_drop, Array.getElem?_toList]
      congr 1
      omega
theorem gk_ext {a : Array Keyed} {i j q : Nat} (h : q < j - i) (hj : j ≤ a.size) : gk (a.extract i j) q = gk a (i + q) := by
  unfold gk
  rw [Array.getElem?_extract, if_pos (by omega)]
section
variable {prog : Program} {w : World} {A : Around} {E : Value → Shared → Prop} {s : Shared}
theorem wpS_set {σ : Type} {x st : σ} {Q : PUnit → σ → Prop} {M : Model} (h : Q ⟨⟩ x) : wpS M A E s (set x : StateT σ Sem PUnit) Q st := by
  unfold wpS; rw [StateT.run_set]; exact wpAny_pure ⟨rfl, h⟩
theorem pend_one {n1 n2 p q x : Nat} : ((#[(0, n1, p), (n1, n2, q)] : Array (Nat × Nat × Nat)).setIfInBounds 0 (0, x, p)).eraseIdxIfInBounds (0 + 1) = #[(0, x, p)] := by
  first | rfl | simp
theorem wpS_mergeAt {a : Array Keyed} {n1 n2 p q mg : Nat} {Q : Bool → SortSt → Prop} (hI : AllI a) (h1 : 1 ≤ n1) (h2 : 1 ≤ n2) (hn : n1 + n2 = a.size)
    (s1 : ∀ i j, i ≤ j → j < n1 → kv (gk a i) ≤ kv (gk a j)) (s2 : ∀ i j, n1 ≤ i → i ≤ j → j < a.size → kv (gk a i) ≤ kv (gk a j))
    (h : ∀ a' mg', a'.Perm a → Srt a' → Q true (SortSt.mk' oneType' a' #[(0, n1 + n2, p)] mg' none)) :
    wpS (model prog w) A E s (mergeAt' 0) Q (SortSt.mk' oneType' a #[(0, n1, p), (n1, n2, q)] mg none) := by
  refine wpS_bind (wpS_get ?_)
  dsimp only
  show wpS _ _ _ _ _ _ _
  refine wpS_bind (wpS_set ?_)
  rw [pend_one]
  refine wpS_bind (wpS_elem (gk_at (a := a) (i := n1) (by omega)) ?_)
  refine wpS_bind (wpS_gallop (g := fun i => gk a i) rfl (hI _ (by omega)) (fun i hi => by rw [Nat.zero_add]; exact gk_at (by omega)) (fun i hi => hI _ (by omega)) (fun i j g1 g2 => s1 i j g1 g2) (by omega) fun k kn kh => ?_)
  dsimp only
  have lowk : ∀ i, i < k → kv (gk a i) ≤ kv (gk a n1) := fun i hi => by
    have := (kh i (by omega)).mpr hi
    simp only [bey, Bool.false_eq_true, if_false, Bool.not_eq_true', decide_eq_false_iff_not] at this
    omega
  have upk : ∀ i, k ≤ i → i < n1 → kv (gk a n1) < kv (gk a i) := fun i hi hi' => by
    have : ¬ bey false (gk a n1) (gk a i) = true := fun hh => by
      have := (kh i hi').mp hh
      omega
    simp only [bey, Bool.false_eq_true, if_false, Bool.not_eq_true', decide_eq_false_iff_not, Classical.not_not] at this
    exact this
  by_cases e1 : n1 - k = 0
  · rw [if_pos (by simpa using e1)]
    refine wpS_pure (h a mg (Array.Perm.refl _) fun i j hij hj => ?_)
    by_cases c : j < n1
    · exact s1 i j hij c
    · by_cases c2 : i < n1
      · exact Int.le_trans (lowk i (by omega)) (s2 n1 j (by omega) (by omega) hj)
      · exact s2 i j (by omega) hij hj
  rw [if_neg (by simpa using e1)]
  refine wpS_bind (wpS_elem (gk_at (a := a) (i := 0 + k + (n1 - k) - 1) (by omega)) ?_)
  have ek : 0 + k + (n1 - k) - 1 = n1 - 1 := by omega
  refine wpS_bind (wpS_gallop (g := fun i => gk a (n1 + i)) rfl (hI _ (by omega)) (fun i hi => gk_at (by omega)) (fun i hi => hI _ (by omega)) (fun i j g1 g2 => s2 _ _ (by omega) (by omega) (by omega)) (by omega) fun k2 k2n k2h => ?_)
  dsimp only
  rw [ek] at k2h
  have low2 : ∀ i, i < k2 → kv (gk a (n1 + i)) < kv (gk a (n1 - 1)) := fun i hi => by
    have := (k2h i (by omega)).mpr hi
    simpa only [bey, if_true, decide_eq_true_eq] using this
  have up2 : ∀ i, k2 ≤ i → i < n2 → kv (gk a (n1 - 1)) ≤ kv (gk a (n1 + i)) := fun i hi hi' => by
    have : ¬ bey true (gk a (n1 - 1)) (gk a (n1 + i)) = true := fun hh => by
      have := (k2h i hi').mp hh
      omega
    simp only [bey, if_true, decide_eq_true_eq] at this
    omega
  have k2p : k2 ≠ 0 := fun e => by
    have a1 := up2 0 (by omega) (by omega)
    have a2 := upk (n1 - 1) (by omega) (by omega)
    rw [Nat.add_zero] at a1
    omega
  rw [if_neg (by simpa using k2p)]
  have xs : (a.extract (0 + k) n1).size = n1 - k := by rw [Array.size_extract]; omega
  have ys : (a.extract n1 (n1 + k2)).size = k2 := by rw [Array.size_extract]; omega
  have xg : ∀ i, i < n1 - k → gk (a.extract (0 + k) n1) i = gk a (k + i) := fun i hi => by rw [gk_ext (by omega) (by omega), Nat.zero_add]
  have yg : ∀ i, i < k2 → gk (a.extract n1 (n1 + k2)) i = gk a (n1 + i) := fun i hi => gk_ext (by omega) (by omega)
  have xI : AllI (a.extract (0 + k) n1) := fun i hi => by rw [xg i (by omega)]; exact hI _ (by omega)
  have yI : AllI (a.extract n1 (n1 + k2)) := fun i hi => by rw [yg i (by omega)]; exact hI _ (by omega)
  have xS : Srt (a.extract (0 + k) n1) := fun i j g1 g2 => by rw [xg i (by omega), xg j (by omega)]; exact s1 _ _ (by omega) (by omega)
  have yS : Srt (a.extract n1 (n1 + k2)) := fun i j g1 g2 => by rw [yg i (by omega), yg j (by omega)]; exact s2 _ _ (by omega) (by omega) (by omega)
  have hf : kv (gk (a.extract n1 (n1 + k2)) 0) ≤ kv (gk (a.extract (0 + k) n1) 0) := by
    rw [xg 0 (by omega), yg 0 (by omega)]
    exact Int.le_of_lt (upk k (by omega) (by omega))
  have hl : ∀ j, j < (a.extract n1 (n1 + k2)).size → kv (gk (a.extract n1 (n1 + k2)) j) ≤ kv (gk (a.extract (0 + k) n1) ((a.extract (0 + k) n1).size - 1)) := fun j hj => by
    rw [xg _ (by omega), yg j (by omega), xs, show k + (n1 - k - 1) = n1 - 1 by omega]
    exact Int.le_of_lt (low2 j (by omega))
  have after : ∀ (m : Array Keyed) (st' : SortSt), Post (a.extract (0 + k) n1) (a.extract n1 (n1 + k2)) m → Sm (SortSt.mk' oneType' a #[(0, n1 + n2, p)] mg none) st' →
      ∃ mg', st' = SortSt.mk' oneType' a #[(0, n1 + n2, p)] mg' none ∧ (m.toList.zipIdx.foldl (fun a (pj : Keyed × Nat) => a.setIfInBounds (0 + k + pj.2) pj.1) a).Perm a ∧
        Srt (m.toList.zipIdx.foldl (fun a (pj : Keyed × Nat) => a.setIfInBounds (0 + k + pj.2) pj.1) a) := by
    intro m st' hp hs
    refine ⟨gallopOf st', ?_, ?_⟩
    · obtain ⟨c1, c2, c3, c4, c5⟩ := st'
      obtain ⟨g1, g2, g3, g4⟩ := hs
      have g1' : c1 = oneType' := g1
      have g2' : c2 = a := g2
      have g3' : c3 = #[(0, n1 + n2, p)] := g3
      have g4' : c5 = none := g4
      subst g1' g2' g3' g4'
      rfl
    · obtain ⟨pm, sm⟩ := hp
      have ml : m.toList.length = n1 - k + k2 := by rw [pm.length_eq, List.length_append, Array.length_toList, Array.length_toList, xs, ys]
      have ex : (a.extract (0 + k) n1).toList = (a.toList.drop k).take (n1 - k) := by rw [ext_list, Nat.zero_add]
      have ey : (a.extract n1 (n1 + k2)).toList = (a.toList.drop n1).take k2 := by rw [ext_list, Nat.add_sub_cancel_left]
      have pl := put_list (k := 0 + k) (l := m.toList) (a := a) (by omega)
      have el : a.toList = a.toList.take k ++ ((a.toList.drop k).take (n1 - k) ++ ((a.toList.drop n1).take k2 ++ a.toList.drop (n1 + k2))) := by
        conv => lhs; rw [← List.take_append_drop k a.toList, drop_take a.toList k (n1 - k), show k + (n1 - k) = n1 by omega, drop_take a.toList n1 k2]
      rw [ml, Nat.zero_add, show k + (n1 - k + k2) = n1 + k2 by omega] at pl
      constructor
      · rw [Array.perm_iff_toList_perm, Nat.zero_add, pl]
        conv => rhs; rw [el]
        refine List.Perm.append_left _ ?_
        rw [← List.append_assoc]
        refine List.Perm.append_right _ ?_
        rw [← ex, ← ey]
        exact pm
      · refine srt_of ?_
        rw [Nat.zero_add, pl]
        have mem : ∀ y ∈ m.toList, (∃ j, k ≤ j ∧ j < n1 ∧ y = gk a j) ∨ (∃ j, n1 ≤ j ∧ j < n1 + k2 ∧ y = gk a j) := fun y hy => by
          have := pm.mem_iff.mp hy
          rw [ex, ey] at this
          rcases List.mem_append.mp this with hq | hq
          · obtain ⟨j, g1, g2, g3, g4⟩ := mem_slice hq
            exact .inl ⟨j, g1, by omega, g4⟩
          · obtain ⟨j, g1, g2, g3, g4⟩ := mem_slice hq
            exact .inr ⟨j, g1, g2, g4⟩
        have tk : ∀ x ∈ a.toList.take k, ∃ i, i < k ∧ x = gk a i := fun x hx => by
          obtain ⟨i, g1, g2, g3⟩ := mem_take (List.mem_reverse.mpr hx)
          exact ⟨i, g1, g3⟩
        have wh : Srt a → a.toList.Pairwise le' := Srt.pairwise
        refine List.pairwise_append.mpr ⟨?_, List.pairwise_append.mpr ⟨sm, ?_, ?_⟩, ?_⟩
        · rw [List.pairwise_iff_getElem]
          intro i j hi hj hij
          have hjk : j < k := by rw [List.length_take] at hj; omega
          have e1 := gk_at (a := a) (i := i) (by omega)
          have e2 := gk_at (a := a) (i := j) (by omega)
          rw [← Array.getElem?_toList] at e1 e2
          rw [List.getElem_take, List.getElem_take]
          rw [List.getElem?_eq_getElem (by rw [Array.length_toList]; omega)] at e1 e2
          rw [Option.some.inj e1, Option.some.inj e2]
          exact s1 i j (by omega) (by omega)
        · rw [List.pairwise_iff_getElem]
          intro i j hi hj hij
          rw [List.length_drop, Array.length_toList] at hi hj
          have e1 := gk_at (a := a) (i := n1 + k2 + i) (by omega)
          have e2 := gk_at (a := a) (i := n1 + k2 + j) (by omega)
          rw [← Array.getElem?_toList] at e1 e2
          rw [List.getElem_drop, List.getElem_drop]
          rw [List.getElem?_eq_getElem (by rw [Array.length_toList]; omega)] at e1 e2
          rw [Option.some.inj e1, Option.some.inj e2]
          exact s2 _ _ (by omega) (by omega) (by omega)
        · intro x hx y hy
          obtain ⟨j, g1, g2, rfl⟩ := mem_drop hy
          rcases mem x hx with ⟨i, f1, f2, rfl⟩ | ⟨i, f1, f2, rfl⟩
          · have := up2 (j - n1) (by omega) (by omega)
            rw [show n1 + (j - n1) = j by omega] at this
            exact Int.le_trans (s1 i (n1 - 1) (by omega) (by omega)) this
          · exact s2 i j f1 (by omega) g2
        · intro x hx y hy
          obtain ⟨i, f1, rfl⟩ := tk x hx
          rcases List.mem_append.mp hy with hy | hy
          · rcases mem y hy with ⟨j, g1, g2, rfl⟩ | ⟨j, g1, g2, rfl⟩
            · exact s1 i j (by omega) g2
            · exact Int.le_trans (lowk i f1) (s2 n1 j (by omega) g1 (by omega))
          · obtain ⟨j, g1, g2, rfl⟩ := mem_drop hy
            exact Int.le_trans (lowk i f1) (s2 n1 j (by omega) (by omega) g2)
  have next : ∀ (m : Array Keyed) (st' : SortSt), Post (a.extract (0 + k) n1) (a.extract n1 (n1 + k2)) m → Sm (SortSt.mk' oneType' a #[(0, n1 + n2, p)] mg none) st' →
      wpS (model prog w) A E s (do modify (fun s => SortSt.mk' (kindOf s) (m.toList.zipIdx.foldl (fun a (pj : Keyed × Nat) => a.setIfInBounds (0 + k + pj.2) pj.1) (arrOf s)) (pendingOf s) (gallopOf s) (failedOf s)); let t ← get; pure (failedOf t).isNone) Q st' := by
    intro m st' hp hs
    obtain ⟨mg', rfl, g1, g2⟩ := after m st' hp hs
    exact wpS_bind (wpS_modify (wpS_bind (wpS_get (wpS_pure (h _ _ g1 g2)))))
  by_cases c : n1 - k ≤ k2
  · rw [if_pos c]
    refine wpS_bind (wpS_mergeLo rfl xI yI xS yS (by omega) (by omega) hf hl fun m st' hp hs => ?_)
    exact next m st' hp hs
  · rw [if_neg c]
    refine wpS_bind (wpS_mergeHi rfl xI yI xS yS (by omega) (by omega) hf hl fun m st' hp hs => ?_)
    exact next m st' hp hs
end
end Ab
end

section
open PySem PySem.W PyProof.Rows
namespace Ab
/-- the state while a run is sought behind lo -/
structure SB (a₀ : Array Keyed) (pend : Array (Nat × Nat × Nat)) (lo : Nat) (k0 : Nat → Int) (st : SortSt) : Prop where
  perm : (arrOf st).Perm a₀
  kind : kindOf st = oneType'
  failed : failedOf st = none
  pend : pendingOf st = pend
  keep : ∀ i, i < lo → K (arrOf st) i = k0 i
/-- the run -/
def Up (xs : Array Keyed) (lo n : Nat) : Prop := ∀ i j, i ≤ j → j < n → K xs (lo + i) ≤ K xs (lo + j)
def Dn (xs : Array Keyed) (lo n : Nat) : Prop := ∀ i j, i ≤ j → j < n → K xs (lo + j) ≤ K xs (lo + i)
theorem allI_perm {a₀ xs : Array Keyed} (h0 : AllI a₀) (hp : xs.Perm a₀) : AllI xs := fun i hi => by
  have e := gk_at hi
  rw [← Array.getElem?_toList] at e
  have hm := (Array.perm_iff_toList_perm.mp hp).mem_iff.mp (List.mem_of_getElem? e)
  obtain ⟨j, hj⟩ := List.mem_iff_getElem?.mp hm
  have hj' : j < a₀.size := by
    have := (List.getElem?_eq_some_iff.mp hj).1
    rwa [Array.length_toList] at this
  have e2 := gk_at hj'
  rw [← Array.getElem?_toList, hj] at e2
  rw [Option.some.inj e2]
  exact h0 j hj'
section
variable {a₀ : Array Keyed} {pend : Array (Nat × Nat × Nat)} {lo : Nat} {k0 : Nat → Int}
theorem SB.size {st : SortSt} (h : SB a₀ pend lo k0 st) : (arrOf st).size = a₀.size := h.perm.size_eq
theorem SB.put {st : SortSt} {xs : Array Keyed} (h : SB a₀ pend lo k0 st) (hp : xs.Perm (arrOf st)) (hk : ∀ i, i < lo → K xs i = K (arrOf st) i) : SB a₀ pend lo k0 (setArr st xs) :=
  ⟨hp.trans h.perm, h.kind, h.failed, h.pend, fun i hi => (hk i hi).trans (h.keep i hi)⟩
variable {prog : Program} {w : World} {A : Around} {E : Value → Shared → Prop} {s : Shared}
theorem wpS_lt2 {st : SortSt} {i j : Nat} {Q : Option Bool → SortSt → Prop} (h0 : AllI a₀) (hB : SB a₀ pend lo k0 st) (hi : i < a₀.size) (hj : j < a₀.size)
    (h : Q (some (decide (K (arrOf st) i < K (arrOf st) j))) st) : wpS (model prog w) A E s (ltAt' i j) Q st := by
  have hI := allI_perm h0 hB.perm
  have hz := hB.size
  rw [K_gk, K_gk] at h
  rw [ltAt'_eq]
  refine wpS_bind (wpS_get ?_)
  dsimp only
  refine wpS_bind (wpS_elem (gk_at (by omega)) ?_)
  refine wpS_bind (wpS_elem (gk_at (by omega)) ?_)
  exact wpS_ltP hB.kind (hI _ (by omega)) (hI _ (by omega)) h
theorem wpS_rev2 {st : SortSt} {i j : Nat} {Q : Unit → SortSt → Prop} (hB : SB a₀ pend lo k0 st) (hj : j ≤ a₀.size) (hlo : lo ≤ i)
    (h : SB a₀ pend lo k0 (setArr st (mirror (arrOf st) i j ((j - i) / 2))) → (∀ k, K (mirror (arrOf st) i j ((j - i) / 2)) k = if i ≤ k ∧ k < j then K (arrOf st) (i + j - 1 - k) else K (arrOf st) k) → Q () (setArr st (mirror (arrOf st) i j ((j - i) / 2)))) :
    wpS (model prog w) A E s (reverseSlice' i j) Q st := by
  have hm := fun k => K_mirror (xs := arrOf st) (i := i) (j := j) (by rw [hB.size]; exact hj) k
  refine wpS_reverse (h (hB.put (mirror_perm _ _ _ _) fun q hq => ?_) hm)
  rw [hm, if_neg (by omega)]
theorem asc_run {st : SortSt} {a nrem : Nat} {f : Nat → Option (Option Nat) × Nat → StateT SortSt Sem (ForInStep (Option (Option Nat) × Nat))} {Q : Option (Option Nat) × Nat → SortSt → Prop}
    (h1 : 1 ≤ a) (h2 : a ≤ nrem) (hu : Up (arrOf st) lo a)
    (hf : ∀ x n (R : ForInStep (Option (Option Nat) × Nat) → SortSt → Prop), 1 ≤ n → n < nrem → (K (arrOf st) (lo + n) < K (arrOf st) (lo + n - 1) → R (.done (none, n)) st) → (¬ K (arrOf st) (lo + n) < K (arrOf st) (lo + n - 1) → R (.yield (none, n + 1)) st) →
      wpS (model prog w) A E s (f x (none, n)) R st)
    (h : ∀ n, a ≤ n → n ≤ nrem → Up (arrOf st) lo n → (n = nrem ∨ K (arrOf st) (lo + n) < K (arrOf st) (lo + n - 1)) → Q (none, n) st) : wpS (model prog w) A E s (forIn [a:nrem] (none, a) f) Q st := by
  refine wpS_forRange (I := fun x c st' => st' = st ∧ c = (none, x) ∧ Up (arrOf st) lo x) ?_ ?_ ⟨rfl, rfl, hu⟩
  · rintro x c st' g1 g2 ⟨rfl, rfl, g3⟩
    refine hf x x _ (by omega) g2 ?_ ?_
    · intro q
      exact h x g1 (by omega) g3 (.inr q)
    · intro q
      refine ⟨rfl, rfl, fun i j hij hj => ?_⟩
      by_cases e : j < x
      · exact g3 i j hij e
      · by_cases e2 : i = j
        · subst e2; exact Int.le_refl _
        · have e3 : j = x := by omega
          subst e3
          have := g3 i (j - 1) (by omega) (by omega)
          rw [show lo + (j - 1) = lo + j - 1 by omega] at this
          omega
  · rintro c st' ⟨rfl, rfl, g3⟩
    rw [show max a nrem = nrem by omega] at g3 ⊢
    exact h nrem h2 (Nat.le_refl _) g3 (.inl rfl)
/-- the last q+1 of n are alike -/
def Alike (xs : Array Keyed) (lo n q : Nat) : Prop := q + 1 ≤ n ∧ ∀ i, n - (q + 1) ≤ i → i < n → K xs (lo + i) = K xs (lo + (n - 1))
theorem alike_rev {xs ys : Array Keyed} {n q : Nat} (h : Alike xs lo n q) (hy : ∀ k, K ys k = if lo + n - (q + 1) ≤ k ∧ k < lo + n then K xs (lo + n - (q + 1) + (lo + n) - 1 - k) else K xs k) : ∀ k, K ys k = K xs k := fun k => by
  rw [hy]
  split
  · rename_i c
    obtain ⟨h1, h2⟩ := h
    have e1 := h2 (k - lo) (by omega) (by omega)
    have e2 := h2 (lo + n - (q + 1) + (lo + n) - 1 - k - lo) (by omega) (by omega)
    rw [show lo + (k - lo) = k by omega] at e1
    rw [show lo + (lo + n - (q + 1) + (lo + n) - 1 - k - lo) = lo + n - (q + 1) + (lo + n) - 1 - k by omega] at e2
    rw [e1, e2]
  · rfl
theorem dn_snoc {xs : Array Keyed} {n : Nat} (h : Dn xs lo n) (hx : K xs (lo + n) ≤ K xs (lo + n - 1)) : Dn xs lo (n + 1) := fun i j hij hj => by
  by_cases e : j < n
  · exact h i j hij e
  · by_cases e2 : i = j
    · subst e2; exact Int.le_refl _
    · have e3 : j = n := by omega
      subst e3
      have := h i (j - 1) (by omega) (by omega)
      rw [show lo + (j - 1) = lo + j - 1 by omega] at this
      omega
theorem dn_congr {xs ys : Array Keyed} {n : Nat} (h : Dn xs lo n) (e : ∀ k, K ys k = K xs k) : Dn ys lo n := fun i j hij hj => by
  rw [e, e]; exact h i j hij hj
theorem alike_one {xs : Array Keyed} {n : Nat} (h : 1 ≤ n) : Alike xs lo n 0 := ⟨by omega, fun i h1 h2 => by congr 2; omega⟩
theorem dn_run {st : SortSt} {a nrem : Nat} {f : Nat → Option (Option Nat) × Nat × Nat → StateT SortSt Sem (ForInStep (Option (Option Nat) × Nat × Nat))} {Q : Option (Option Nat) × Nat × Nat → SortSt → Prop}
    (h1 : 1 ≤ a) (h2 : a ≤ nrem) (hB : SB a₀ pend lo k0 st) (hu : Dn (arrOf st) lo a)
    (hf : ∀ x n q st (R : ForInStep (Option (Option Nat) × Nat × Nat) → SortSt → Prop), SB a₀ pend lo k0 st → 1 ≤ n → n < nrem → Alike (arrOf st) lo n q →
      (K (arrOf st) (lo + n) < K (arrOf st) (lo + n - 1) → ∀ st', SB a₀ pend lo k0 st' → (∀ k, K (arrOf st') k = K (arrOf st) k) → R (.yield (none, n + 1, 0)) st') →
      (K (arrOf st) (lo + n - 1) < K (arrOf st) (lo + n) → R (.done (none, n, q)) st) →
      (K (arrOf st) (lo + n) = K (arrOf st) (lo + n - 1) → R (.yield (none, n + 1, q + 1)) st) →
      wpS (model prog w) A E s (f x (none, n, q)) R st)
    (h : ∀ n q st', SB a₀ pend lo k0 st' → a ≤ n → n ≤ nrem → Dn (arrOf st') lo n → Alike (arrOf st') lo n q → Q (none, n, q) st') : wpS (model prog w) A E s (forIn [a:nrem] (none, a, 0) f) Q st := by
  refine wpS_forRange (I := fun x c st' => ∃ q, c = (none, x, q) ∧ SB a₀ pend lo k0 st' ∧ Dn (arrOf st') lo x ∧ Alike (arrOf st') lo x q) ?_ ?_ ⟨0, rfl, hB, hu, alike_one h1⟩
  · rintro x c st' g1 g2 ⟨q, rfl, g3, g4, g5⟩
    refine hf x x q st' _ g3 (by omega) g2 g5 ?_ ?_ ?_
    · intro hl st2 b2 e2
      exact ⟨0, rfl, b2, dn_snoc (dn_congr g4 e2) (by rw [e2, e2]; exact Int.le_of_lt hl), alike_one (by omega)⟩
    · intro hl
      exact h x q st' g3 g1 (by omega) g4 g5
    · intro he
      refine ⟨q + 1, rfl, g3, dn_snoc g4 (Int.le_of_eq he), by have := g5.1; omega, fun i hi hj => ?_⟩
      rw [show lo + (x + 1 - 1) = lo + x by omega]
      by_cases e : i = x
      · subst e; rfl
      · have := g5.2 i (by omega) (by omega)
        rw [this, he, show lo + (x - 1) = lo + x - 1 by omega]
  · rintro c st' ⟨q, rfl, g3, g4, g5⟩
    rw [show max a nrem = nrem by omega] at g4 g5 ⊢
    exact h nrem q st' g3 h2 (Nat.le_refl _) g4 g5
theorem wpS_count {st : SortSt} {nrem : Nat} {Q : Option Nat → SortSt → Prop} (h0 : AllI a₀) (hn : lo + nrem ≤ a₀.size) (h1 : 1 ≤ nrem) (hB : SB a₀ pend lo k0 st)
    (h : ∀ m st', SB a₀ pend lo k0 st' → 1 ≤ m → m ≤ nrem → Up (arrOf st') lo m → Q (some m) st') : wpS (model prog w) A E s (countRun' lo nrem) Q st := by
  have u1 : Up (arrOf st) lo 1 := fun i j hij hj => by rw [show i = j by omega]; exact Int.le_refl _
  refine wpS_bind (asc_run (lo := lo) (Nat.le_refl 1) h1 u1 ?_ ?_)
  · intro x n7 R r1 r2 r3 r4
    (try dsimp only)
    refine wpS_bind (wpS_lt2 h0 hB (by omega) (by omega) ?_)
    (try dsimp only)
    by_cases q : K (arrOf st) (lo + n7) < K (arrOf st) (lo + n7 - 1)
    · rw [if_pos (by simpa using q)]
      exact wpS_pure (r3 q)
    · rw [if_neg (by simpa using q)]
      exact wpS_pure (r4 q)
  intro n n1 n2 u hor
  dsimp only
  by_cases e : n = nrem
  · rw [if_pos (by simpa using e)]
    exact wpS_pure (h n st hB n1 n2 u)
  rw [if_neg (by simpa using e)]
  have hlt := hor.resolve_left e
  by_cases e1 : n > 1
  · rw [if_pos e1]
    refine wpS_bind (wpS_lt2 h0 hB (by omega) (by omega) ?_)
    (try dsimp only)
    by_cases c : K (arrOf st) lo < K (arrOf st) (lo + n - 1)
    · rw [if_pos (by simpa using c)]
      exact wpS_pure (h n st hB n1 n2 u)
    · rw [if_neg (by simpa using c)]
      have al : Alike (arrOf st) lo n (n - 1) := ⟨by omega, fun i g1 g2 => by
        have a1 := u 0 i (by omega) g2
        have a2 := u i (n - 1) (by omega) (by omega)
        rw [show lo + (n - 1) = lo + n - 1 by omega] at a2 ⊢
        rw [Nat.add_zero] at a1
        omega⟩
      refine wpS_bind (wpS_rev2 hB (by omega) (Nat.le_refl _) fun b1 e4 => ?_)
      have er : ∀ k, K (mirror (arrOf st) lo (lo + n) ((lo + n - lo) / 2)) k = K (arrOf st) k := alike_rev al fun k => by
        rw [e4, show lo + n - (n - 1 + 1) = lo by omega]
      have d1 : Dn (arrOf (setArr st (mirror (arrOf st) lo (lo + n) ((lo + n - lo) / 2)))) lo (n + 1) := by
        refine dn_snoc (dn_congr (xs := arrOf st) ?_ er) ?_
        · intro i j hij hj
          have a1 := al.2 i (by omega) (by omega)
          have a2 := al.2 j (by omega) (by omega)
          omega
        · show K (mirror (arrOf st) lo (lo + n) ((lo + n - lo) / 2)) _ ≤ K (mirror (arrOf st) lo (lo + n) ((lo + n - lo) / 2)) _
          rw [er, er]
          omega
      generalize setArr st (mirror (arrOf st) lo (lo + n) ((lo + n - lo) / 2)) = st1 at *
      refine wpS_bind (wpS_lift (wpAny_rule ⟨rfl, ?_⟩))
      (try dsimp only)
      refine wpS_bind (dn_run (by omega) (by omega) b1 d1 ?_ ?_)
      · intro x n7 q st7 R b7 r1 r2 al r3 r4 r5
        (try dsimp only)
        have hz7 := b7.size
        refine wpS_bind (wpS_lt2 h0 b7 (by omega) (by omega) ?_)
        (try dsimp only)
        by_cases c : K (arrOf st7) (lo + n7) < K (arrOf st7) (lo + n7 - 1)
        · rw [if_pos (by simpa using c)]
          by_cases c2 : q > 0
          · rw [if_pos c2]
            have := al.1
            exact wpS_bind (wpS_rev2 b7 (by omega) (by omega) fun b4 e4 => wpS_pure (r3 c _ b4 (alike_rev al e4)))
          · rw [if_neg c2]
            exact wpS_pure (r3 c _ b7 fun _ => rfl)
        · rw [if_neg (by simpa using c)]
          refine wpS_bind (wpS_lt2 h0 b7 (by omega) (by omega) ?_)
          (try dsimp only)
          by_cases c3 : K (arrOf st7) (lo + n7 - 1) < K (arrOf st7) (lo + n7)
          · rw [if_pos (by simpa using c3)]
            exact wpS_pure (r4 c3)
          · rw [if_neg (by simpa using c3)]
            exact wpS_pure (r5 (by omega))
      · intro m q st3 b3 hm1 hm2 d3 al
        (try dsimp only)
        by_cases c : q > 0
        · rw [if_pos c]
          have := al.1
          refine wpS_bind (wpS_rev2 b3 (by omega) (by omega) fun b5 e5 => ?_)
          have d5 : Dn (arrOf (setArr st3 (mirror (arrOf st3) (lo + m - (q + 1)) (lo + m) ((lo + m - (lo + m - (q + 1))) / 2)))) lo m := dn_congr d3 (alike_rev al e5)
          generalize setArr st3 (mirror (arrOf st3) (lo + m - (q + 1)) (lo + m) ((lo + m - (lo + m - (q + 1))) / 2)) = st5 at *
          refine wpS_bind (wpS_rev2 b5 (by omega) (Nat.le_refl _) fun b4 e4 => ?_)
          have u4 : Up (mirror (arrOf st5) lo (lo + m) ((lo + m - lo) / 2)) lo m := fun i j hij hj => by
            rw [e4, e4, if_pos (by omega), if_pos (by omega)]
            have := d5 (lo + (lo + m) - 1 - (lo + j) - lo) (lo + (lo + m) - 1 - (lo + i) - lo) (by omega) (by omega)
            rwa [show lo + (lo + (lo + m) - 1 - (lo + j) - lo) = lo + (lo + m) - 1 - (lo + j) by omega, show lo + (lo + (lo + m) - 1 - (lo + i) - lo) = lo + (lo + m) - 1 - (lo + i) by omega] at this
          refine wpS_bind (asc_run (lo := lo) (by omega) hm2 u4 ?_ ?_)
          · intro x n7 R r1 r2 r3 r4
            (try dsimp only)
            refine wpS_bind (wpS_lt2 h0 b4 (by omega) (by omega) ?_)
            (try dsimp only)
            by_cases q : K (arrOf (setArr st5 (mirror (arrOf st5) lo (lo + m) ((lo + m - lo) / 2)))) (lo + n7) < K (arrOf (setArr st5 (mirror (arrOf st5) lo (lo + m) ((lo + m - lo) / 2)))) (lo + n7 - 1)
            · rw [if_pos (by simpa using q)]
              exact wpS_pure (r3 q)
            · rw [if_neg (by simpa using q)]
              exact wpS_pure (r4 q)
          · intro n8 g1 g2 g3 g4
            exact wpS_pure (h _ _ b4 (by omega) g2 g3)
        · rw [if_neg c]
          refine wpS_bind (wpS_rev2 b3 (by omega) (Nat.le_refl _) fun b4 e4 => ?_)
          have u4 : Up (mirror (arrOf st3) lo (lo + m) ((lo + m - lo) / 2)) lo m := fun i j hij hj => by
            rw [e4, e4, if_pos (by omega), if_pos (by omega)]
            have := d3 (lo + (lo + m) - 1 - (lo + j) - lo) (lo + (lo + m) - 1 - (lo + i) - lo) (by omega) (by omega)
            rwa [show lo + (lo + (lo + m) - 1 - (lo + j) - lo) = lo + (lo + m) - 1 - (lo + j) by omega, show lo + (lo + (lo + m) - 1 - (lo + i) - lo) = lo + (lo + m) - 1 - (lo + i) by omega] at this
          refine wpS_bind (asc_run (lo := lo) (by omega) hm2 u4 ?_ ?_)
          · intro x n7 R r1 r2 r3 r4
            (try dsimp only)
            refine wpS_bind (wpS_lt2 h0 b4 (by omega) (by omega) ?_)
            (try dsimp only)
            by_cases q : K (arrOf (setArr st3 (mirror (arrOf st3) lo (lo + m) ((lo + m - lo) / 2)))) (lo + n7) < K (arrOf (setArr st3 (mirror (arrOf st3) lo (lo + m) ((lo + m - lo) / 2)))) (lo + n7 - 1)
            · rw [if_pos (by simpa using q)]
              exact wpS_pure (r3 q)
            · rw [if_neg (by simpa using q)]
              exact wpS_pure (r4 q)
          · intro n8 g1 g2 g3 g4
            exact wpS_pure (h _ _ b4 (by omega) g2 g3)
  · rw [if_neg e1]
    have b1 := hB
    have d1 : Dn (arrOf st) lo (n + 1) := dn_snoc (fun i j hij hj => by rw [show i = j by omega]; exact Int.le_refl _) (by omega)
    refine wpS_bind (wpS_lift (wpAny_rule ⟨rfl, ?_⟩))
    (try dsimp only)
    refine wpS_bind (dn_run (by omega) (by omega) b1 d1 ?_ ?_)
    · intro x n7 q st7 R b7 r1 r2 al r3 r4 r5
      (try dsimp only)
      have hz7 := b7.size
      refine wpS_bind (wpS_lt2 h0 b7 (by omega) (by omega) ?_)
      (try dsimp only)
      by_cases c : K (arrOf st7) (lo + n7) < K (arrOf st7) (lo + n7 - 1)
      · rw [if_pos (by simpa using c)]
        by_cases c2 : q > 0
        · rw [if_pos c2]
          have := al.1
          exact wpS_bind (wpS_rev2 b7 (by omega) (by omega) fun b4 e4 => wpS_pure (r3 c _ b4 (alike_rev al e4)))
        · rw [if_neg c2]
          exact wpS_pure (r3 c _ b7 fun _ => rfl)
      · rw [if_neg (by simpa using c)]
        refine wpS_bind (wpS_lt2 h0 b7 (by omega) (by omega) ?_)
        (try dsimp only)
        by_cases c3 : K (arrOf st7) (lo + n7 - 1) < K (arrOf st7) (lo + n7)
        · rw [if_pos (by simpa using c3)]
          exact wpS_pure (r4 c3)
        · rw [if_neg (by simpa using c3)]
          exact wpS_pure (r5 (by omega))
    · intro m q st3 b3 hm1 hm2 d3 al
      (try dsimp only)
      by_cases c : q > 0
      · rw [if_pos c]
        have := al.1
        refine wpS_bind (wpS_rev2 b3 (by omega) (by omega) fun b5 e5 => ?_)
        have d5 : Dn (arrOf (setArr st3 (mirror (arrOf st3) (lo + m - (q + 1)) (lo + m) ((lo + m - (lo + m - (q + 1))) / 2)))) lo m := dn_congr d3 (alike_rev al e5)
        generalize setArr st3 (mirror (arrOf st3) (lo + m - (q + 1)) (lo + m) ((lo + m - (lo + m - (q + 1))) / 2)) = st5 at *
        refine wpS_bind (wpS_rev2 b5 (by omega) (Nat.le_refl _) fun b4 e4 => ?_)
        have u4 : Up (mirror (arrOf st5) lo (lo + m) ((lo + m - lo) / 2)) lo m := fun i j hij hj => by
          rw [e4, e4, if_pos (by omega), if_pos (by omega)]
          have := d5 (lo + (lo + m) - 1 - (lo + j) - lo) (lo + (lo + m) - 1 - (lo + i) - lo) (by omega) (by omega)
          rwa [show lo + (lo + (lo + m) - 1 - (lo + j) - lo) = lo + (lo + m) - 1 - (lo + j) by omega, show lo + (lo + (lo + m) - 1 - (lo + i) - lo) = lo + (lo + m) - 1 - (lo + i) by omega] at this
        refine wpS_bind (asc_run (lo := lo) (by omega) hm2 u4 ?_ ?_)
        · intro x n7 R r1 r2 r3 r4
          (try dsimp only)
          refine wpS_bind (wpS_lt2 h0 b4 (by omega) (by omega) ?_)
          (try dsimp only)
          by_cases q : K (arrOf (setArr st5 (mirror (arrOf st5) lo (lo + m) ((lo + m - lo) / 2)))) (lo + n7) < K (arrOf (setArr st5 (mirror (arrOf st5) lo (lo + m) ((lo + m - lo) / 2)))) (lo + n7 - 1)
          · rw [if_pos (by simpa using q)]
            exact wpS_pure (r3 q)
          · rw [if_neg (by simpa using q)]
            exact wpS_pure (r4 q)
        · intro n8 g1 g2 g3 g4
          exact wpS_pure (h _ _ b4 (by omega) g2 g3)
      · rw [if_neg c]
        refine wpS_bind (wpS_rev2 b3 (by omega) (Nat.le_refl _) fun b4 e4 => ?_)
        have u4 : Up (mirror (arrOf st3) lo (lo + m) ((lo + m - lo) / 2)) lo m := fun i j hij hj => by
          rw [e4, e4, if_pos (by omega), if_pos (by omega)]
          have := d3 (lo + (lo + m) - 1 - (lo + j) - lo) (lo + (lo + m) - 1 - (lo + i) - lo) (by omega) (by omega)
          rwa [show lo + (lo + (lo + m) - 1 - (lo + j) - lo) = lo + (lo + m) - 1 - (lo + j) by omega, show lo + (lo + (lo + m) - 1 - (lo + i) - lo) = lo + (lo + m) - 1 - (lo + i) by omega] at this
        refine wpS_bind (asc_run (lo := lo) (by omega) hm2 u4 ?_ ?_)
        · intro x n7 R r1 r2 r3 r4
          (try dsimp only)
          refine wpS_bind (wpS_lt2 h0 b4 (by omega) (by omega) ?_)
          (try dsimp only)
          by_cases q : K (arrOf (setArr st3 (mirror (arrOf st3) lo (lo + m) ((lo + m - lo) / 2)))) (lo + n7) < K (arrOf (setArr st3 (mirror (arrOf st3) lo (lo + m) ((lo + m - lo) / 2)))) (lo + n7 - 1)
          · rw [if_pos (by simpa using q)]
            exact wpS_pure (r3 q)
          · rw [if_neg (by simpa using q)]
            exact wpS_pure (r4 q)
        · intro n8 g1 g2 g3 g4
          exact wpS_pure (h _ _ b4 (by omega) g2 g3)
theorem wpS_binary {st : SortSt} {n ok : Nat} {Q : Bool → SortSt → Prop} (h0 : AllI a₀) (hn : lo + n ≤ a₀.size) (hok : ok ≤ n) (hB : SB a₀ pend lo k0 st) (hu : Up (arrOf st) lo ok)
    (h : ∀ st', SB a₀ pend lo k0 st' → Up (arrOf st') lo n → Q true st') : wpS (model prog w) A E s (binarySort' lo n ok) Q st := by
  refine wpS_bind (wpS_mono (Q := fun c st' => c = (none, ()) ∧ SB a₀ pend lo k0 st' ∧ Up (arrOf st') lo n) (wpS_forRange
    (I := fun k c st' => c = (none, ()) ∧ SB a₀ pend lo k0 st' ∧ Up (arrOf st') lo (min k n)) ?step ?fin ⟨rfl, hB, fun i j hij hj => ?init⟩) ?post)
  case post =>
    rintro c st' ⟨rfl, b, u⟩
    exact wpS_pure (h st' b u)
  case init =>
    by_cases e : ok = 0
    · rw [show i = j by omega]; exact Int.le_refl _
    · exact hu i j hij (by omega)
  case fin =>
    rintro c st' ⟨hc, b, u⟩
    rw [show min (max (max ok 1) n) n = n by omega] at u
    exact ⟨hc, b, u⟩
  case step =>
    rintro k c st' g1 g2 ⟨rfl, b, u⟩
    rw [show min k n = k by omega] at u
    dsimp only
    refine wpS_bind (wpS_mono (Q := fun c st2 => st2 = st' ∧ ∃ l r, c = (none, l, r) ∧ l ≤ k ∧ (∀ i, i < l → K (arrOf st') (lo + i) ≤ K (arrOf st') (lo + k)) ∧ (∀ i, l ≤ i → i < k → K (arrOf st') (lo + k) < K (arrOf st') (lo + i))) (wpS_forRange
      (I := fun x c st2 => st2 = st' ∧ ∃ l r, c = (none, l, r) ∧ l ≤ r ∧ r ≤ k ∧ r - l ≤ k - x ∧ (∀ i, i < l → K (arrOf st') (lo + i) ≤ K (arrOf st') (lo + k)) ∧ (∀ i, r ≤ i → i < k → K (arrOf st') (lo + k) < K (arrOf st') (lo + i)))
      ?istep ?ifin ⟨rfl, 0, k, rfl, by omega, by omega, by omega, fun i hi => absurd hi (Nat.not_lt_zero _), fun i q1 q2 => by omega⟩) ?ipost)
    case ifin =>
      rintro c st2 ⟨rfl, l, r, rfl, q1, q2, q3, q4, q5⟩
      exact ⟨rfl, l, r, rfl, by omega, q4, fun i a1 a2 => q5 i (by omega) a2⟩
    case istep =>
      rintro x c st2 - hx ⟨rfl, l, r, rfl, q1, q2, q3, q4, q5⟩
      dsimp only
      by_cases e : l ≥ r
      · rw [if_pos e]
        exact wpS_pure ⟨rfl, l, r, rfl, by omega, q4, fun i a1 a2 => q5 i (by omega) a2⟩
      · rw [if_neg e]
        refine wpS_bind (wpS_lt2 h0 b (by omega) (by omega) ?_)
        (try dsimp only)
        by_cases c : K (arrOf st2) (lo + k) < K (arrOf st2) (lo + (l + r) / 2)
        · rw [if_pos (by simpa using c)]
          exact wpS_pure ⟨rfl, l, (l + r) / 2, rfl, by omega, by omega, by omega, q4, fun i a1 a2 => Int.lt_of_lt_of_le c (u _ _ a1 a2)⟩
        · rw [if_neg (by simpa using c)]
          exact wpS_pure ⟨rfl, (l + r) / 2 + 1, r, rfl, by omega, by omega, by omega, fun i a1 => Int.le_trans (u i ((l + r) / 2) (by omega) (by omega)) (Int.not_lt.mp c), q5⟩
    case ipost =>
      rintro c st2 ⟨rfl, l, r, rfl, q1, q2, q3⟩
      (try dsimp only)
      have hz := b.size
      have hbub := fun q => K_bubble (xs := arrOf st2) (src := lo + k) (d := lo + k - (lo + l)) (by omega) (by omega) q
      refine wpS_bind (wpS_modify (wpS_pure ⟨rfl, b.put (bubble_perm _ _ _) fun i hi => ?_, ?_⟩))
      · show K (bubble (arrOf st2) (lo + k) (lo + k - (lo + l))) i = _
        rw [hbub, if_neg (by omega), if_neg (by omega)]
      · rw [show min (k + 1) n = k + 1 by omega]
        intro i j hij hj
        show K (bubble (arrOf st2) (lo + k) (lo + k - (lo + l))) _ ≤ K (bubble (arrOf st2) (lo + k) (lo + k - (lo + l))) _
        rw [hbub, hbub]
        by_cases i1 : i < l
        · rw [if_neg (c := lo + i = _) (by omega), if_neg (c := _ ∧ lo + i ≤ _) (by omega)]
          by_cases j1 : j < l
          · rw [if_neg (by omega), if_neg (by omega)]
            exact u i j hij (by omega)
          · by_cases j2 : j = l
            · rw [if_pos (by omega)]
              exact q2 i i1
            · rw [if_neg (by omega), if_pos (by omega), show lo + j - 1 = lo + (j - 1) by omega]
              exact u i (j - 1) (by omega) (by omega)
        · by_cases i2 : i = l
          · rw [if_pos (c := lo + i = _) (by omega)]
            by_cases j2 : j = l
            · rw [if_pos (by omega)]
              exact Int.le_refl _
            · rw [if_neg (by omega), if_pos (by omega), show lo + j - 1 = lo + (j - 1) by omega]
              exact Int.le_of_lt (q3 (j - 1) (by omega) (by omega))
          · rw [if_neg (c := lo + i = _) (by omega), if_pos (c := _ ∧ lo + i ≤ _) (by omega), if_neg (by omega), if_pos (by omega), show lo + j - 1 = lo + (j - 1) by omega, show lo + i - 1 = lo + (i - 1) by omega]
            exact u (i - 1) (j - 1) (by omega) (by omega)
end
end Ab
end

section
open PySem PySem.W PyProof.Rows
namespace Ab
theorem minRun_half {n : Nat} (h : 2 ≤ n) (h2 : n < 128) : n ≤ 2 * minRun' n n 0 ∧ minRun' n n 0 ≤ n := by
  obtain ⟨f, rfl⟩ : ∃ f, n = f + 1 + 1 := ⟨n - 2, by omega⟩
  rw [minRun'_succ]
  split
  · omega
  · rw [minRun'_succ, if_pos (by omega)]
    omega
section
variable {a₀ : Array Keyed} {pend : Array (Nat × Nat × Nat)} {lo : Nat} {k0 : Nat → Int}
variable {prog : Program} {w : World} {A : Around} {E : Value → Shared → Prop} {s : Shared}
theorem SB.form {st : SortSt} (h : SB a₀ pend lo k0 st) : ∃ xs mg, st = SortSt.mk' oneType' xs pend mg none := by
  obtain ⟨c1, c2, c3, c4, c5⟩ := st
  obtain ⟨h1, h2, h3, h4, h5⟩ := h
  have g1 : c1 = oneType' := h2
  have g2 : c5 = none := h3
  have g3 : c3 = pend := h4
  subst g1 g2 g3
  exact ⟨c2, c4, rfl⟩
theorem wpS_runs {st : SortSt} {Q : Unit → SortSt → Prop} (h0 : AllI a₀) (hB : SB a₀ #[] 0 k0 st) (h2 : 2 ≤ a₀.size) (h128 : a₀.size < 128)
    (h : ∀ st', (arrOf st').Perm a₀ → failedOf st' = none → SortedTo (arrOf st') a₀.size → Q () st') : wpS (model prog w) A E s sortRuns' Q st := by
  rw [sortRuns'_eq]
  refine wpS_bind (wpS_get ?_)
  dsimp only
  obtain ⟨m1, m2⟩ := minRun_half h2 h128
  rw [hB.size]
  generalize hmr : minRun' a₀.size a₀.size 0 = mr at *
  refine wpS_bind (wpS_mono (Q := fun c st' => c = (none, a₀.size) ∧ ∃ pend', SB a₀ pend' 0 k0 st' ∧ ((pend' = #[(0, a₀.size, 0)] ∧ Up (arrOf st') 0 a₀.size) ∨
      ∃ n1 n2 p, 1 ≤ n1 ∧ 1 ≤ n2 ∧ n1 + n2 = a₀.size ∧ pend' = #[(0, n1, p), (n1, n2, 0)] ∧ Up (arrOf st') 0 n1 ∧ Up (arrOf st') n1 n2)) (wpS_forRange
    (I := fun x c st' => (x = 0 ∧ c = (none, 0) ∧ SB a₀ #[] 0 k0 st') ∨
      (1 ≤ x ∧ ∃ n1, c = (none, n1) ∧ 1 ≤ n1 ∧ mr ≤ n1 ∧ n1 < a₀.size ∧ SB a₀ #[(0, n1, 0)] 0 k0 st' ∧ Up (arrOf st') 0 n1 ∧ x = 1) ∨
      (1 ≤ x ∧ c = (none, a₀.size) ∧ ∃ pend', SB a₀ pend' 0 k0 st' ∧ ((pend' = #[(0, a₀.size, 0)] ∧ Up (arrOf st') 0 a₀.size) ∨
      ∃ n1 n2 p, 1 ≤ n1 ∧ 1 ≤ n2 ∧ n1 + n2 = a₀.size ∧ pend' = #[(0, n1, p), (n1, n2, 0)] ∧ Up (arrOf st') 0 n1 ∧ Up (arrOf st') n1 n2))) ?step ?fin (.inl ⟨rfl, rfl, hB⟩)) ?post)
  case fin =>
    rintro c st' (⟨e, -⟩ | ⟨-, n1, -, -, -, -, -, -, e⟩ | ⟨-, hc, hp⟩)
    · omega
    · omega
    · exact ⟨hc, hp⟩
  case step =>
    rintro x c st' - hx (⟨rfl, rfl, b⟩ | ⟨-, n1, rfl, g1, g2, g3, b, u, rfl⟩ | ⟨-, rfl, hp⟩)
    · dsimp only
      rw [if_neg (by omega)]
      refine wpS_bind (wpS_count h0 (by omega) (by omega) b fun m st2 b2 c1 c2 u2 => ?_)
      dsimp only
      -- the end of a first run of length n
      have done : ∀ n st3, SB a₀ #[] 0 k0 st3 → 1 ≤ n → mr ≤ n → n ≤ a₀.size → Up (arrOf st3) 0 n →
          ((0 + 1 = 0 ∧ ((none : Option Unit), 0 + n) = (none, 0) ∧ SB a₀ #[] 0 k0 (setPending st3 ((pendingOf st3).push (0, n, 0)))) ∨
      (1 ≤ 0 + 1 ∧ ∃ n1, ((none : Option Unit), 0 + n) = (none, n1) ∧ 1 ≤ n1 ∧ mr ≤ n1 ∧ n1 < a₀.size ∧ SB a₀ #[(0, n1, 0)] 0 k0 (setPending st3 ((pendingOf st3).push (0, n, 0))) ∧ Up (arrOf (setPending st3 ((pendingOf st3).push (0, n, 0)))) 0 n1 ∧ 0 + 1 = 1) ∨
      (1 ≤ 0 + 1 ∧ ((none : Option Unit), 0 + n) = (none, a₀.size) ∧ ∃ pend', SB a₀ pend' 0 k0 (setPending st3 ((pendingOf st3).push (0, n, 0))) ∧ ((pend' = #[(0, a₀.size, 0)] ∧ Up (arrOf (setPending st3 ((pendingOf st3).push (0, n, 0)))) 0 a₀.size) ∨
      ∃ n1 n2 p, 1 ≤ n1 ∧ 1 ≤ n2 ∧ n1 + n2 = a₀.size ∧ pend' = #[(0, n1, p), (n1, n2, 0)] ∧ Up (arrOf (setPending st3 ((pendingOf st3).push (0, n, 0)))) 0 n1 ∧ Up (arrOf (setPending st3 ((pendingOf st3).push (0, n, 0)))) n1 n2))) := by
        intro n st3 b3 d1 d2 d3 u3
        have hpend : pendingOf (setPending st3 ((pendingOf st3).push (0, n, 0))) = #[(0, n, 0)] := by
          show (pendingOf st3).push (0, n, 0) = _
          rw [b3.pend]; rfl
        have b4 : SB a₀ #[(0, n, 0)] 0 k0 (setPending st3 ((pendingOf st3).push (0, n, 0))) := ⟨b3.perm, b3.kind, b3.failed, hpend, b3.keep⟩
        by_cases e : n = a₀.size
        · subst e
          exact .inr (.inr ⟨by omega, by rw [Nat.zero_add], _, b4, .inl ⟨rfl, u3⟩⟩)
        · exact .inr (.inl ⟨by omega, n, by rw [Nat.zero_add], d1, d2, by omega, b4, u3, rfl⟩)
      by_cases hlt : m < mr
      · rw [if_pos hlt]
        refine wpS_bind (wpS_lift (wpAny_rule ⟨rfl, ?_⟩))
        refine wpS_bind (wpS_binary h0 (by omega) (by omega) b2 u2 fun st3 b3 u3 => ?_)
        rw [if_neg (by decide)]
        refine wpS_bind (wpS_get ?_)
        have hb : (pendingOf st3).back? = none := by rw [b3.pend]; rfl
        rw [hb]
        dsimp only
        exact wpS_bind (wpS_modify (wpS_pure (done _ st3 b3 (by omega) (by omega) (by omega) u3)))
      · rw [if_neg hlt]
        refine wpS_bind (wpS_get ?_)
        have hb : (pendingOf st2).back? = none := by rw [b2.pend]; rfl
        rw [hb]
        dsimp only
        exact wpS_bind (wpS_modify (wpS_pure (done _ st2 b2 c1 (by omega) (by omega) u2)))
    · dsimp only
      rw [if_neg (by omega)]
      have bq : SB a₀ #[(0, n1, 0)] n1 (fun i => K (arrOf st') i) st' := ⟨b.perm, b.kind, b.failed, b.pend, fun i _ => rfl⟩
      refine wpS_bind (wpS_count h0 (by omega) (by omega) bq fun m st2 b2 c1 c2 u2 => ?_)
      dsimp only
      have second : ∀ st3, SB a₀ #[(0, n1, 0)] n1 (fun i => K (arrOf st') i) st3 → Up (arrOf st3) n1 (a₀.size - n1) →
          ∀ p, SB a₀ #[(0, n1, p), (n1, a₀.size - n1, 0)] 0 k0 (setPending st3 #[(0, n1, p), (n1, a₀.size - n1, 0)]) ∧ Up (arrOf st3) 0 n1 := by
        intro st3 b3 u3 p
        refine ⟨⟨b3.perm, b3.kind, b3.failed, rfl, fun i hi => absurd hi (Nat.not_lt_zero _)⟩, fun i j hij hj => ?_⟩
        rw [b3.keep (0 + i) (by omega), b3.keep (0 + j) (by omega)]
        exact u i j hij hj
      have last : ∀ n st3, n = a₀.size - n1 → SB a₀ #[(0, n1, 0)] n1 (fun i => K (arrOf st') i) st3 → Up (arrOf st3) n1 (a₀.size - n1) → ∀ pw : Nat,
          wpS (model prog w) A E s (do
            modify fun s => setPending s ((pendingOf s).modify ((pendingOf s).size - 1) fun (st, len, _) => (st, len, pw))
            modify fun s => setPending s ((pendingOf s).push (n1, n, 0))
            pure (ForInStep.yield ((none : Option Unit), n1 + n)))
            (fun r st' => match r with
              | .done c' => c' = (none, a₀.size) ∧ ∃ pend', SB a₀ pend' 0 k0 st' ∧ ((pend' = #[(0, a₀.size, 0)] ∧ Up (arrOf st') 0 a₀.size) ∨
                  ∃ n1 n2 p, 1 ≤ n1 ∧ 1 ≤ n2 ∧ n1 + n2 = a₀.size ∧ pend' = #[(0, n1, p), (n1, n2, 0)] ∧ Up (arrOf st') 0 n1 ∧ Up (arrOf st') n1 n2)
              | .yield c => (1 + 1 = 0 ∧ c = (none, 0) ∧ SB a₀ #[] 0 k0 st') ∨
                (1 ≤ 1 + 1 ∧ ∃ n1, c = (none, n1) ∧ 1 ≤ n1 ∧ mr ≤ n1 ∧ n1 < a₀.size ∧ SB a₀ #[(0, n1, 0)] 0 k0 st' ∧ Up (arrOf st') 0 n1 ∧ 1 + 1 = 1) ∨
                (1 ≤ 1 + 1 ∧ c = (none, a₀.size) ∧ ∃ pend', SB a₀ pend' 0 k0 st' ∧ ((pend' = #[(0, a₀.size, 0)] ∧ Up (arrOf st') 0 a₀.size) ∨
                  ∃ n1 n2 p, 1 ≤ n1 ∧ 1 ≤ n2 ∧ n1 + n2 = a₀.size ∧ pend' = #[(0, n1, p), (n1, n2, 0)] ∧ Up (arrOf st') 0 n1 ∧ Up (arrOf st') n1 n2))) st3 := by
        intro n st3 hn b3 u3 pw
        obtain ⟨xs, mg, rfl⟩ := b3.form
        obtain ⟨q1, q2⟩ := second _ b3 u3 pw
        refine wpS_bind (wpS_modify (wpS_bind (wpS_modify (wpS_pure ?_))))
        refine .inr (.inr ⟨by omega, by rw [show n1 + n = a₀.size by omega], #[(0, n1, pw), (n1, a₀.size - n1, 0)], ?_, .inr ⟨n1, a₀.size - n1, pw, g1, by omega, by omega, rfl, q2, u3⟩⟩)
        rw [hn]
        exact q1
      by_cases hlt : m < mr
      · rw [if_pos hlt]
        refine wpS_bind (wpS_lift (wpAny_rule ⟨rfl, ?_⟩))
        refine wpS_bind (wpS_binary h0 (by omega) (by omega) b2 u2 fun st3 b3 u3 => ?_)
        rw [if_neg (by decide)]
        refine wpS_bind (wpS_get ?_)
        have hb : (pendingOf st3).back? = some (0, n1, 0) := by rw [b3.pend]; rfl
        rw [hb]
        dsimp only
        rw [show min (a₀.size - n1) mr = a₀.size - n1 by omega] at u3 ⊢
        refine wpS_bind (wpS_mono (Q := fun c st'' => st'' = st3 ∧ c = (none, ())) (wpS_forRange (I := fun _ c st'' => st'' = st3 ∧ c = (none, ())) ?_ (fun _ _ hh => hh) ⟨rfl, rfl⟩) ?_)
        · rintro x c st'' - - ⟨rfl, rfl⟩
          refine wpS_bind (wpS_get ?_)
          rw [b3.pend]
          exact wpS_pure ⟨rfl, rfl⟩
        · rintro c st'' ⟨rfl, rfl⟩
          exact last _ _ rfl b3 u3 _
      · rw [if_neg hlt]
        refine wpS_bind (wpS_get ?_)
        have hb : (pendingOf st2).back? = some (0, n1, 0) := by rw [b2.pend]; rfl
        rw [hb]
        dsimp only
        have em : m = a₀.size - n1 := by omega
        rw [em] at u2
        refine wpS_bind (wpS_mono (Q := fun c st'' => st'' = st2 ∧ c = (none, ())) (wpS_forRange (I := fun _ c st'' => st'' = st2 ∧ c = (none, ())) ?_ (fun _ _ hh => hh) ⟨rfl, rfl⟩) ?_)
        · rintro x c st'' - - ⟨rfl, rfl⟩
          refine wpS_bind (wpS_get ?_)
          rw [b2.pend]
          exact wpS_pure ⟨rfl, rfl⟩
        · rintro c st'' ⟨rfl, rfl⟩
          exact last _ _ em b2 u2 _
    · dsimp only
      rw [if_pos (Nat.le_refl _)]
      exact wpS_pure ⟨rfl, hp⟩
  case post =>
    rintro c st' ⟨rfl, pend', b, hp⟩
    dsimp only
    refine wpS_bind (wpS_mono (Q := fun c st'' => c = (none, ()) ∧ (arrOf st'').Perm a₀ ∧ failedOf st'' = none ∧ SortedTo (arrOf st'') a₀.size) (wpS_forRange
      (I := fun x c st'' => c = (none, ()) ∧ ((x = 0 ∧ st'' = st') ∨ ((arrOf st'').Perm a₀ ∧ failedOf st'' = none ∧ SortedTo (arrOf st'') a₀.size ∧ (pendingOf st'').size ≤ 1))) ?_ ?_ ⟨rfl, .inl ⟨rfl, rfl⟩⟩) ?_)
    · have up0 : ∀ {xs : Array Keyed}, Up xs 0 a₀.size → SortedTo xs a₀.size := fun {xs} hu i j hij hj => by
        have := hu i j hij hj
        rwa [Nat.zero_add, Nat.zero_add] at this
      rintro x c st'' - hx ⟨rfl, ⟨rfl, rfl⟩ | ⟨d1, d2, d3, d4⟩⟩
      · refine wpS_bind (wpS_get ?_)
        rcases hp with ⟨rfl, u⟩ | ⟨n1, n2, p, e1, e2, e3, rfl, u1, u2⟩
        · rw [if_pos (by rw [b.pend]; exact Nat.le_refl 1)]
          exact wpS_pure ⟨rfl, b.perm, b.failed, up0 u⟩
        · obtain ⟨xs, mg, rfl⟩ := b.form
          have hI : AllI xs := allI_perm h0 b.perm
          have hz : xs.size = a₀.size := b.size
          refine wpS_bind (wpS_mergeAt (a := xs) (n1 := n1) (n2 := n2) (p := p) (q := 0) hI e1 e2 (by omega) ?_ ?_ fun a' mg' hp' hs' => ?_)
          · intro i j hij hj
            have := u1 i j hij hj
            rw [Nat.zero_add, Nat.zero_add, K_gk, K_gk] at this
            exact this
          · intro i j hi hij hj
            have := u2 (i - n1) (j - n1) (by omega) (by omega)
            rw [show n1 + (i - n1) = i by omega, show n1 + (j - n1) = j by omega, K_gk, K_gk] at this
            exact this
          · refine wpS_pure ⟨rfl, .inr ⟨hp'.trans b.perm, rfl, fun i j hij hj => ?_, Nat.le_refl 1⟩⟩
            show K a' i ≤ K a' j
            rw [K_gk, K_gk]
            exact hs' i j hij (by rw [hp'.size_eq]; omega)
      · refine wpS_bind (wpS_get ?_)
        rw [if_pos d4]
        exact wpS_pure ⟨rfl, d1, d2, d3⟩
    · rintro c st'' ⟨rfl, ⟨e, -⟩ | ⟨d1, d2, d3, d4⟩⟩
      · omega
      · exact ⟨rfl, d1, d2, d3⟩
    · rintro c st'' ⟨rfl, d1, d2, d3⟩
      exact wpS_pure (h _ d1 d2 d3)
end
end Ab
end

section
open PySem PySem.W PyProof.Rows PySem.Spec PySem.Calls
set_option maxRecDepth 100000
namespace Ab
theorem allI_of {a : Array Keyed} (h : IntKeys a) : AllI a := fun i hi => by
  have e := gk_at hi
  rw [← Array.getElem?_toList] at e
  exact h _ (List.mem_of_getElem? e)
section
variable {prog : Program} {w : World} {A : Around} {E : Value → Shared → Prop} {s : Shared} {h₀ : Heap} {L l : Addr} {m : Str → Option Value} {news : List (Addr × Obj)} {vs : List Value} {ns : List Int}
theorem sort_tree {a : Addr} {n : Nat} {P : Fin → Shared → Prop} (ho : s.heap.get? a = some (seqObj "list" vs.toArray n)) (hI : IntsAre vs ns) (h1 : vs.length < 128)
    (h : ∀ (out : Array Value) (ns' : List Int), IntsAre out.toList ns' → ns'.Perm ns → ns'.Pairwise (· ≤ ·) → P (.done (.ret .none)) { s with heap := sortedHeap s.heap a vs out }) :
    wpAny (model prog w) A (Builtin.«list.sort» ⟨[.ref a], []⟩) P E s := by
  by_cases h64 : vs.length < 64
  · exact list_sort_tree ho hI h64 h
  rw [list_sort_plain]
  have ha : a < s.heap.objs.size := Heap.lt_size ho
  refine wpAny_bind (listItems_at ho rfl (wpAny_bind (listUpdate_at ho rfl ?_)))
  have hz : (s.heap.update a (Obj.mapSeq fun _ => #[])).objs.size = s.heap.objs.size := Heap.size_update _ _ _
  obtain ⟨e1, g1⟩ : ∃ e1, (s.heap.update a (Obj.mapSeq fun _ => #[])).get? a = some (seqObj "list" #[] e1) := ⟨_, get?_update_seq ho (fun _ => #[])⟩
  refine wpAny_bind (seqEpoch_at g1 rfl (wpAny_bind (wpAny_newTuple (wpAny_bind (wpAny_newList (wpAny_holding ?_))))))
  have g2 : (((s.heap.update a (Obj.mapSeq fun _ => #[])).push (seqObj "tuple" vs.toArray 0)).push (seqObj "list" #[] 0)).get? a = some (seqObj "list" #[] e1) :=
    Heap.get?_push_of_some _ (Heap.get?_push_of_some _ g1)
  show wpAny (model prog w) A _ P E { s with heap := ((s.heap.update a (Obj.mapSeq fun _ => #[])).push (seqObj "tuple" vs.toArray 0)).push (seqObj "list" #[] 0) }
  dsimp only
  have hsz : vs.toArray.size = vs.length := by simp
  rw [if_neg (by omega), if_neg (by omega)]
  obtain ⟨v1, v2, rest, rfl⟩ : ∃ v1 v2 rest, vs = v1 :: v2 :: rest := by
    rcases vs with _ | ⟨x, _ | ⟨y, r⟩⟩
    · exact absurd (by simp) h64
    · exact absurd (by simp) h64
    · exact ⟨x, y, r, rfl⟩
  rw [keyKind_ints hI]
  refine wpAny_bind (wpAny_pure ?_)
  refine wpAny_bind (wpAny_mono (wpS_runs (a₀ := pairsOf (v1 :: v2 :: rest)) (k0 := fun _ => 0) (st := SortSt.mk' oneType' ((v1 :: v2 :: rest).toArray.zip (v1 :: v2 :: rest).toArray) #[] 7 none)
    (Q := fun _ st' => (arrOf st').Perm (pairsOf (v1 :: v2 :: rest)) ∧ failedOf st' = none ∧ SortedTo (arrOf st') (pairsOf (v1 :: v2 :: rest)).size)
    (allI_of hI.intKeys) ⟨Array.Perm.refl _, rfl, rfl, rfl, fun i hi => absurd hi (Nat.not_lt_zero _)⟩ (by rw [pairsOf_size]; omega) (by rw [pairsOf_size]; exact h1) fun st' c1 c2 c3 => ⟨c1, c2, c3⟩) ?_ fun _ _ e => e)
  rintro ⟨⟨⟩, st'⟩ s' ⟨rfl, hp, hf, hs⟩
  dsimp only
  obtain ⟨ns', p1, p2, p3⟩ := sorted_out hI hp hs
  refine wpAny_bind (seqEpoch_at g2 rfl (wpAny_bind (listUpdate_at g2 rfl ?_ (hsz2 := by rw [Array.size_map, hp.size_eq, pairsOf_size, sizeLine_eq]; omega))))
  rw [hf, bne_self_eq_false]
  rw [if_neg (by decide)]
  exact wpAny_pure (h _ ns' p1 p2 p3)
theorem sort_call {Q : Value → Shared → Prop} (hl : s.heap.IsList l vs.toArray) (hI : IntsAre vs ns) (h1 : vs.length < 128)
    (h : ∀ (out : Array Value) (ns' : List Int), IntsAre out.toList ns' → ns'.Perm ns → ns'.Pairwise (· ≤ ·) → Q (.ref (s.heap.objs.size + 1)) { s with heap := sortedAll s.heap vs out }) :
    wpAny (model prog w) A (call (.builtin "sorted") [.ref l]) Q E s := by
  refine Calls.call_function_entry kind_sorted plain_sorted entry_sorted (args_sorted1 _) ?_
  refine wpAny_bind (m := checkCount "sorted" 1 1 _) (wpAny_pure ?_)
  refine wpAny_bind (collect_list hl (wpAny_bind (wpAny_newList ?_)) (by rw [sizeLine_eq]; omega))
  have hz : ((s.heap.push (seqObj "list" #[] 0)).update s.heap.objs.size (Obj.mapSeq (· ++ vs.toArray))).objs.size = s.heap.objs.size + 1 := by
    rw [Heap.size_update, size_push']
  have g1 : (((s.heap.push (seqObj "list" #[] 0)).update s.heap.objs.size (Obj.mapSeq (· ++ vs.toArray))).push (seqObj "list" vs.toArray 0)).get? (s.heap.objs.size + 1) = some (seqObj "list" vs.toArray 0) := by
    rw [← hz]
    exact Heap.get?_push_size _ rfl
  show wpAny _ _ _ _ _ { s with heap := ((s.heap.push (seqObj "list" #[] 0)).update s.heap.objs.size (Obj.mapSeq (· ++ vs.toArray))).push (seqObj "list" vs.toArray 0) }
  rw [hz]
  refine wpAny_bind (wpAny_holding (wpAny_call_entry slot_list_sort ⟨_, g1, rfl⟩ entry_list_sort (sort_tree g1 hI h1 fun out ns' a1 a2 a3 => ⟨_, rfl, ?_⟩) (args_list_sort _)))
  exact wpAny_pure ⟨_, rfl, h out ns' a1 a2 a3⟩
theorem sorted_big {Q : Value → Shared → Prop} (F : Fr h₀ L s.heap m) (N : News h₀ L s.heap news) (hl : s.heap.IsList l vs.toArray) (hi : IntsAre vs ns) (h128 : ns.length ≤ 70)
    (h : ∀ D vs' ns' c h', Fr h₀ L h' m → News h₀ L h' ((D, listOf vs'.toArray c) :: news) → (∀ q ∈ news, q.1 < D) → IntsAre vs' ns' → ns'.Perm ns → ns'.Pairwise (· ≤ ·) → Q (.ref D) { s with heap := h' }) :
    wpAny (model prog w) A (call (.builtin "sorted") [.ref l]) Q E s := by
  have hlen := hi.length
  refine sort_call hl hi (by omega) fun out ns' a1 a2 a3 => ?_
  obtain ⟨e, he⟩ := sortedAll_at s.heap vs out
  exact h _ out.toList ns' e _ (F.kept fun _ _ => sortedAll_old) (N.kept_cons F (fun _ _ => sortedAll_old) (Nat.le_succ _) he) (fun q hq => Nat.lt_succ_of_lt (Heap.lt_size (N q hq).1)) a1 a2 a3
end
end Ab
end

section
open PySem PySem.W PyProof.Rows PySem.Spec PySem.Calls
namespace Ab
set_option maxRecDepth 100000
set_option maxHeartbeats 8000000
local macro_rules | `(tactic| k_room) => `(tactic| ktr_room)
local macro_rules | `(tactic| walk_at "eval ListComp") => `(tactic| (refine Stop.intro ?_))
local macro_rules | `(tactic| k_all) => `(tactic| (intro p9 hp9; refine neN ?_; exact ‹∀ p ∈ _, p.1 ≠ _› p9 hp9))
local macro_rules | `(tactic| walk_at "CompSrc") => `(tactic| (refine Stop.intro ?_))
local macro_rules | `(tactic| walk_at "CompSrcT") => `(tactic| (refine Stop.intro ?_))
local macro_rules | `(tactic| walk_at "exec For Name Name cons nil") => `(tactic| (refine Stop.intro ?_))
local macro_rules | `(tactic| walk_at "exec For Name Call cons nil") => `(tactic| (refine Stop.intro ?_))
local macro_rules | `(tactic| walk_at "pyIter ref") => `(tactic| ((with_reducible show wpAny _ _ (pyIter (Value.ref _)) (fun it s₂ => LoopAtV _ _ _ _ _ _ _ _ _ it s₂) _ _); refine Stop.intro ?_))
local macro_rules | `(tactic| walk_at "subscriptTail Name Constant ref int") => `(tactic| ((with_unfolding_all refine' item_tupleL ?k1 ?k2 ?k3 ?k4 ?k5 ?_ ?k6 ?k7; (case k1 => exact News.isTup (by assumption) (by news_mem)); (case k2 => decide); (case k3 => decide); (case k4 => rfl); (case k5 => rfl); (case k6 => with_unfolding_all rfl); (case k7 => intro _; with_unfolding_all rfl))))
local macro_rules | `(tactic| k_all) => `(tactic| (refine fun p9 hp9 => ?_; (with_reducible rename Apart _ _ => hT9); have q9 := hT9 p9 hp9; refine neN ?_; (try dsimp only); omega))

local macro_rules | `(tactic| news_mem) => `(tactic| first | assumption | exact List.Mem.head _ | (refine List.Mem.tail _ ?_; news_mem))

local macro_rules | `(tactic| walk_at "call builtin:sorted") => `(tactic| ((with_unfolding_all refine' sorted_big ?k1 ?k2 ?k3 ?k4 ?k5 ?_); (case k1 => assumption); (case k2 => assumption); (case k3 => is_list); (case k4 => assumption); (case k5 => omega); intro D8 vs8 ns8 c8 h8 F8 N8 l8 i8 p8 o8))
local macro_rules | `(tactic| walk_at "subscriptTail Name BinOp ref int") => `(tactic| ((with_unfolding_all refine' item_list_ints_neg ?k1 ?k2 ?k3 ?k4 ?k5 ?_ ?k6 ?k7); (case k1 => is_list); (case k2 => assumption); (case k3 => omega); (case k4 => omega); (case k5 => omega); (case k6 => with_unfolding_all rfl); (case k7 => intro _; with_unfolding_all rfl); intro t8))

local macro_rules | `(tactic| walk_at "subscriptTail Name Name ref int") => `(tactic| ((with_unfolding_all refine' item_litK ?k1 ?k2 ?k3 ?k4 ?_ ?k6); (case k1 => is_list); (case k2 => omega); (case k3 => omega); (case k4 => with_reducible assumption); (case k6 => with_unfolding_all rfl)))

local macro_rules | `(tactic| walk_at "compareOp In int ref") => `(tactic| ((with_unfolding_all refine' in_list_ints ?k1 ?k2 ?_); (case k1 => is_list); (case k2 => assumption)))

/-- the frame of divisor -/
abbrev dvM (l : Addr) (seats : Int) (t : Tok) (x : Str) (t2 : Tok) : Str → Option Value := fun y =>
  if y = (Str.ofString "tiesallowed") then some (.bool true) else if y = (Str.ofString "method") then some (.str x t2) else if y = (Str.ofString "seats") then some (.int seats t) else if y = (Str.ofString "votes") then some (.ref l) else none

def J0 (s : Shared) (L' : Addr) (m : Str → Option Value) (k : Nat) (s' : Shared) : Prop :=
  ∃ h' tk' o1 o2 o3 o4 o5 R rvs kR tl, s' = { s with heap := h', toks := tk' } ∧ Fr s.heap L' h' m ∧ News s.heap L' h' ((L' + 1 + 1 + 1 + 1 + 1, o1) :: (L' + 1 + 1 + 1 + 1, o2) :: (L' + 1 + 1 + 1, o3) :: (L' + 1 + 1, o4) :: (L' + 1, o5) :: tl) ∧
    Apart L' tl ∧ o1.data = .cell none ∧ o2.data = .cell none ∧ o3.data = .cell none ∧ o4.data = .cell none ∧ o5.data = .cell (some (.ref R)) ∧
    (R, listOf rvs.toArray kR) ∈ tl ∧ IntsAre rvs (List.replicate k 0)

def J1 (s : Shared) (L' : Addr) (m : Str → Option Value) (mm : Meth) (ns : List Int) (k : Nat) (s' : Shared) : Prop :=
  ∃ h' tk' o1 o2 o3 o4 o5 R rvs kR D dvs tl, s' = { s with heap := h', toks := tk' } ∧ Fr s.heap L' h' m ∧ News s.heap L' h' ((L' + 1 + 1 + 1 + 1 + 1, o1) :: (L' + 1 + 1 + 1 + 1, o2) :: (L' + 1 + 1 + 1, o3) :: (L' + 1 + 1, o4) :: (L' + 1, o5) :: tl) ∧
    Apart L' tl ∧ o1.data = .cell none ∧ o2.data = .cell none ∧ o3.data = .cell none ∧ o4.data = .cell (some (.ref D)) ∧ o5.data = .cell (some (.ref R)) ∧
    (R, listOf rvs.toArray kR) ∈ tl ∧ IntsAre rvs (r0F mm ns) ∧ (D, LCg.lst dvs) ∈ tl ∧ PairsIn tl dvs (dsF mm k)

def JW (s : Shared) (L' : Addr) (m : Str → Option Value) (mm : Meth) (ns : List Int) (k : Nat) (s' : Shared) : Prop :=
  ∃ h' tk' o1 o2 o3 o4 o5 R rvs kR W wys tl, s' = { s with heap := h', toks := tk' } ∧ Fr s.heap L' h' m ∧ News s.heap L' h' ((L' + 1 + 1 + 1 + 1 + 1, o1) :: (L' + 1 + 1 + 1 + 1, o2) :: (L' + 1 + 1 + 1, o3) :: (L' + 1 + 1, o4) :: (L' + 1, o5) :: tl) ∧
    Apart L' tl ∧ o1.data = .cell none ∧ o2.data = .cell (some (.ref W)) ∧ o5.data = .cell (some (.ref R)) ∧
    (R, listOf rvs.toArray kR) ∈ tl ∧ IntsAre rvs (r0F mm ns) ∧ (W, LCg.lst wys) ∈ tl ∧ RowsIn tl wys (rowsF mm ns k)

def JF (s : Shared) (L' : Addr) (m : Str → Option Value) (mm : Meth) (ns : List Int) (k : Nat) (s' : Shared) : Prop :=
  ∃ h' tk' o1 o2 o3 o4 o5 R rvs kR W wys FW fvs kF srt tl, s' = { s with heap := h', toks := tk' } ∧ Fr s.heap L' h' (fun y => if y = Str.ofString "flatweights" then some (.ref FW) else m y) ∧ News s.heap L' h' ((L' + 1 + 1 + 1 + 1 + 1, o1) :: (L' + 1 + 1 + 1 + 1, o2) :: (L' + 1 + 1 + 1, o3) :: (L' + 1 + 1, o4) :: (L' + 1, o5) :: tl) ∧
    Apart L' tl ∧ o1.data = .cell none ∧ o2.data = .cell (some (.ref W)) ∧ o5.data = .cell (some (.ref R)) ∧
    (R, listOf rvs.toArray kR) ∈ tl ∧ IntsAre rvs (r0F mm ns) ∧ (W, LCg.lst wys) ∈ tl ∧ RowsIn tl wys (rowsF mm ns k) ∧ (FW, listOf fvs.toArray kF) ∈ tl ∧ IntsAre fvs srt ∧ srt.Perm (rowsF mm ns k).flatten ∧ srt.Pairwise (· ≤ ·)

def JM (s : Shared) (L' : Addr) (m : Str → Option Value) (mm : Meth) (ns : List Int) (seats : Int) (s' : Shared) : Prop :=
  ∃ h' tk' o1 o2 o3 o4 o5 R rvs kR W wys mw tw tl, s' = { s with heap := h', toks := tk' } ∧ Fr s.heap L' h' m ∧ News s.heap L' h' ((L' + 1 + 1 + 1 + 1 + 1, o1) :: (L' + 1 + 1 + 1 + 1, o2) :: (L' + 1 + 1 + 1, o3) :: (L' + 1 + 1, o4) :: (L' + 1, o5) :: tl) ∧
    Apart L' tl ∧ o1.data = .cell (some (.int mw tw)) ∧ o2.data = .cell (some (.ref W)) ∧ o5.data = .cell (some (.ref R)) ∧
    (R, listOf rvs.toArray kR) ∈ tl ∧ IntsAre rvs (r0F mm ns) ∧ (W, LCg.lst wys) ∈ tl ∧ RowsIn tl wys (rowsF mm ns seats.toNat) ∧ IsMin mm ns seats mw

def J3 (s : Shared) (L' : Addr) (m : Str → Option Value) (mm : Meth) (ns : List Int) (seats : Int) (s' : Shared) : Prop :=
  ∃ (h' : Heap) (tk' : Nat) (o1 o2 o3 o4 o5 : Obj) (R : Addr) (rvs : List Value) (kR : Nat) (tl : List (Addr × Obj)) (u1 u : Str → Option Value), s' = { s with heap := h', toks := tk' } ∧ Fr s.heap L' h' (fun y => if y = Str.ofString "flatweights" then u1 y else if y = Str.ofString "d" then u y else m y) ∧ News s.heap L' h' ((L' + 1 + 1 + 1 + 1 + 1, o1) :: (L' + 1 + 1 + 1 + 1, o2) :: (L' + 1 + 1 + 1, o3) :: (L' + 1 + 1, o4) :: (L' + 1, o5) :: ((R, listOf rvs.toArray kR) :: tl)) ∧
    Apart L' ((R, listOf rvs.toArray kR) :: tl) ∧ (∀ p ∈ tl, p.1 ≠ R) ∧ o5.data = .cell (some (.ref R)) ∧
    ((∃ mw tw W wys, IntsAre rvs (r1F mm ns seats mw) ∧ o1.data = .cell (some (.int mw tw)) ∧ o2.data = .cell (some (.ref W)) ∧ (W, LCg.lst wys) ∈ tl ∧ RowsIn tl wys (rowsF mm ns seats.toNat) ∧ IsMin mm ns seats mw ∧ (r0F mm ns).sum < seats) ∨
     (IntsAre rvs (r0F mm ns) ∧ ¬ (r0F mm ns).sum < seats))

theorem div_con {w : World} {p : Program} {loose : List Str} {mean : ExcName → Option Value} {mg mb : Str → Option Value}
   (dp un : Nat) (gd : Option (List Code)) (cn : Str) (cs : Scope) (a : Addr) (ccd : Value) (cl : List (Str × Addr)) (outer : List Env) (A₀ : Around) (base h₀ : Heap) (L : Addr) (m : Str → Option Value) (s : Shared) 
   (l : Addr) (vs : List Value) (ns : List Int) (seats : Int) (mm : Meth) (t t2 : Tok)
    (Q E : Value → Shared → Prop)
    (B : Below A₀ base outer h₀) (F : Fr h₀ L s.heap m) (X : (hd.heap_39 w.params).In h₀) (T : Top p loose mean mg mb h₀) (hk : cs.kind = .function)
    (hl : s.heap.IsList l vs.toArray) (hi : IntsAre vs ns) (hd : dp + 1 < recursionLimit) (hu : un + 8 < cLine)
    (hn : 2 ≤ ns.length ∧ ns.length ≤ 5) (hs : 1 ≤ seats ∧ seats ≤ 14) (hb : ∀ x ∈ ns, 1 ≤ x ∧ x ≤ 10 ^ 12) (had : mm = .ad → (ns.length : Int) ≤ seats)
    (ret : ∀ r ys kk rs h' tk', Kept s.heap h' → h'.get? r = some (listOf ys.toArray kk) → s.heap.get? r = none → IntsAre ys rs → DivRes mm ns seats rs → Q (.ref r) { s with heap := h', toks := tk' }) :
    wpAny (model PySem.Challenge.rw_ab5004_01.row.prog w) (ktrTop dp un gd cn cs L a ccd cl outer) (call (.ref 40) [.ref l, .int seats t, .str mm.str t2]) Q E s := by
  revert X; k_fill; intro X
  k_dflt (refine' enterC ?k1 ?k2 ?k3 ?k5 ?kA ?kF ?kK ?k6 ?k7 ?k8 ?k9 ?kB ?kN ?kW ?c2 ?c3 ?c4; (case kA => exact rfl); (case kF => exact rfl); (case kK => assumption); (case k1 => k_asm); (case k2 => k_asm); (case k3 => k_asm); (case k5 => k_asm); (case k6 => k_is); (case k7 => k_is); (case k8 => ktr_room); (case k9 => exact binds_K (by k_in) rfl (by k_is) rfl rfl rfl); (case kB => exact rfl); (case kN => decide +kernel); (case c2 => exact rfl); (case c3 => exact rfl); (case c4 => exact rfl))
  clear B F X T
  intro L' h' tk' cells' F' N' Y' B' X' T'
  have F1 : Fr s.heap L' h' (dvM l seats t mm.str t2) := F'
  clear F'
  obtain ⟨o1, o2, o3, o4, o5, hE, d1, d2, d3, d4, d5⟩ := PyProof.Rows.kc_five Y'
  clear Y'
  subst hE
  replace d1 : o1.data = .cell none := d1
  replace d2 : o2.data = .cell none := d2
  replace d3 : o3.data = .cell none := d3
  replace d4 : o4.data = .cell none := d4
  replace d5 : o5.data = .cell none := d5
  (try dsimp only)
  (try k_lift B')
  have hle1 := hi.length
  refine seq_cut (J0 s L' (dvM l seats t mm.str t2) ns.length) ?_ ?_
  · skip
    (try k_fold)
    k_steps
    rename_i lA hA lA1 D hB i1 n1 s1 e1 e2 e3 l1 hC oN FN NN dN
    simp only [Int.toNat_natCast, List.flatten_replicate_singleton] at i1 NN
    refine ⟨hC, _, o1, o2, o3, o4, oN, D, List.replicate ns.length (.int 0 tk'), 0, [(D, _)], rfl, FN, fun p hp => NN p ?_, ?_, d1, d2, d3, d4, dN, List.mem_cons_self, ?_⟩
    · revert p; kcf_all
    · exact Apart.cons (apart_big (by omega)) Apart.nil
    · exact i1
  clear F1 N'
  rintro s' ⟨h', tk', o1, o2, o3, o4, o5, R, rvs, kR, tl, rfl, F1, N1, hT, d1, d2, d3, d4, d5, hR, hr0⟩
  refine seq_cut (J1 s L' (dvM l seats t mm.str t2) mm ns seats.toNat) ?_ ?_
  · skip
    cases mm
    · have F2 : Fr s.heap L' h' (dvM l seats t (Str.ofString "dhondt") t2) := F1
      clear F1
      (try k_fold)
      k_steps
      refine Stop.out ?_
      k_dflt (refine LCg.ListComp_U (F₀ := by k_asm) (by with_unfolding_all rfl) (by decide) (by rfl) (by decide) (by rfl) ?_)
      k_steps
      rename_i tkB tA uA vA hR1 FB NB hK
      refine Stop.out ?_
      refine LCg.CompSrc.range (by rfl) FB (show News s.heap L' _ ((L' + 1 + 1 + 1 + 1 + 1, o1) :: (L' + 1 + 1 + 1 + 1, o2) :: (L' + 1 + 1 + 1, o3) :: (L' + 1 + 1, o4) :: (L' + 1, o5) :: tl) from fun p hp => NB p (List.mem_cons_of_mem _ hp)) hR1 (small_one (by omega) (by omega) (by omega) (by omega)) (rangeSize_nat _ _) (by rw [PySem.sizeLine_eq]; omega) ?_
      intro g
      refine crest_inv (fun i ys nw => ∃ tl2, nw = ((L' + 1 + 1 + 1 + 1 + 1, o1) :: (L' + 1 + 1 + 1 + 1, o2) :: (L' + 1 + 1 + 1, o3) :: (L' + 1 + 1, o4) :: (L' + 1, o5) :: (tl2 ++ tl)) ∧ PairsIn tl2 ys (dsF .dh i) ∧ Apart L' tl2) ?turn ?fin (seats - 0).toNat 0 [] _ (Nat.zero_add _) ?st
      case turn =>
        intro i v ys nw I oI C oC D m₂ h tk E' hi hP hJ hC hx F N off ne
        obtain ⟨tv, rfl⟩ := hP
        obtain ⟨tl2, rfl, hp, hT2⟩ := hJ
        rw [Int.zero_add] at hx
        k_steps
        rename_i T1 h1 F1 N1 l1
        have hoff := LCg.Off3.mem off
        obtain ⟨ta, tb, N2⟩ : ∃ ta tb, News s.heap L' h1 ((T1, ({ cls := .type "tuple", data := .seq #[.int ((i : Int) + 1) ta, .int 1 tb] } : Obj)) :: (I, oI) :: (C, oC) :: (D, LCg.lst ys) :: ((L' + 1 + 1 + 1 + 1 + 1, o1) :: (L' + 1 + 1 + 1 + 1, o2) :: (L' + 1 + 1 + 1, o3) :: (L' + 1 + 1, o4) :: (L' + 1, o5) :: (tl2 ++ tl))) := ⟨_, _, N1⟩
        refine TurnEnd.intro F1 N2 ((L' + 1 + 1 + 1 + 1 + 1, o1) :: (L' + 1 + 1 + 1 + 1, o2) :: (L' + 1 + 1 + 1, o3) :: (L' + 1 + 1, o4) :: (L' + 1, o5) :: ((T1, ({ cls := .type "tuple", data := .seq #[.int ((i : Int) + 1) ta, .int 1 tb] } : Obj)) :: tl2 ++ tl)) ?_ ?_ ⟨trivial, (T1, _) :: tl2, rfl, ?_, Apart.cons (apart_big (by omega)) hT2⟩
        · simp only [List.cons_append, List.nil_append]
          kcf_all
        · refine LCg.Off3.of fun p hp => ?_
          simp only [List.cons_append, List.mem_cons] at hp
          rcases hp with rfl | rfl | rfl | rfl | rfl | rfl | hp
          · exact hoff _ (by simp)
          · exact hoff _ (by simp)
          · exact hoff _ (by simp)
          · exact hoff _ (by simp)
          · exact hoff _ (by simp)
          · exact ⟨Nat.ne_of_gt l1.1, Nat.ne_of_gt l1.2.1, Nat.ne_of_gt l1.2.2.1⟩
          · exact hoff _ (by simp [hp])
        · rw [dsF_succ]
          exact PairsIn.snoc (PairsIn.mono hp fun p hp => List.mem_cons_of_mem _ hp) List.mem_cons_self
      case fin =>
        rintro ys nw ⟨tl2, rfl, hp, hT2⟩
        intro D h tk F N o1'
        have ho := off1_mem o1'
        have hTN : Apart L' ((D, LCg.lst ys) :: (tl2 ++ tl)) := Apart.cons (apart_new ho _) (hT2.append hT)
        replace N : News s.heap L' h ((L' + 1 + 1 + 1 + 1 + 1, o1) :: (L' + 1 + 1 + 1 + 1, o2) :: (L' + 1 + 1 + 1, o3) :: (L' + 1 + 1, o4) :: (L' + 1, o5) :: ((D, LCg.lst ys) :: (tl2 ++ tl))) := nsub N (by kcf_all)
        k_steps
        rename_i h9 o9 F9 N9 d9
        rw [Int.sub_zero] at hp
        exact ⟨h9, _, o1, o2, o3, o9, o5, R, rvs, kR, D, ys, (D, LCg.lst ys) :: (tl2 ++ tl), rfl, F9, N9, hTN, d1, d2, d3, d9, d5, List.mem_cons_of_mem _ (List.mem_append_right _ hR), (by assumption), List.mem_cons_self, PairsIn.mono hp fun p hp => List.mem_cons_of_mem _ (List.mem_append_left _ hp)⟩
      case st =>
        exact ⟨[], rfl, .nil, Apart.nil⟩
    · have F2 : Fr s.heap L' h' (dvM l seats t (Str.ofString "saintelague") t2) := F1
      clear F1
      (try k_fold)
      k_steps
      refine Stop.out ?_
      k_dflt (refine LCg.ListComp_U (F₀ := by k_asm) (by with_unfolding_all rfl) (by decide) (by rfl) (by decide) (by rfl) ?_)
      k_steps
      rename_i tkB tA uA vA hR1 FB NB hK
      refine Stop.out ?_
      refine LCg.CompSrc.range (by rfl) FB (show News s.heap L' _ ((L' + 1 + 1 + 1 + 1 + 1, o1) :: (L' + 1 + 1 + 1 + 1, o2) :: (L' + 1 + 1 + 1, o3) :: (L' + 1 + 1, o4) :: (L' + 1, o5) :: tl) from fun p hp => NB p (List.mem_cons_of_mem _ (List.mem_cons_of_mem _ hp))) hR1 (small_one (by omega) (by omega) (by omega) (by omega)) (rangeSize_nat _ _) (by rw [PySem.sizeLine_eq]; omega) ?_
      intro g
      refine crest_inv (fun i ys nw => ∃ tl2, nw = ((L' + 1 + 1 + 1 + 1 + 1, o1) :: (L' + 1 + 1 + 1 + 1, o2) :: (L' + 1 + 1 + 1, o3) :: (L' + 1 + 1, o4) :: (L' + 1, o5) :: (tl2 ++ tl)) ∧ PairsIn tl2 ys (dsF .sl i) ∧ Apart L' tl2) ?turn ?fin (seats - 0).toNat 0 [] _ (Nat.zero_add _) ?st
      case turn =>
        intro i v ys nw I oI C oC D m₂ h tk E' hi hP hJ hC hx F N off ne
        obtain ⟨tv, rfl⟩ := hP
        obtain ⟨tl2, rfl, hp, hT2⟩ := hJ
        rw [Int.zero_add] at hx
        k_steps
        rename_i T1 h1 F1 N1 l1
        have hoff := LCg.Off3.mem off
        obtain ⟨ta, tb, N2⟩ : ∃ ta tb, News s.heap L' h1 ((T1, ({ cls := .type "tuple", data := .seq #[.int (2 * (i : Int) + 1) ta, .int 1 tb] } : Obj)) :: (I, oI) :: (C, oC) :: (D, LCg.lst ys) :: ((L' + 1 + 1 + 1 + 1 + 1, o1) :: (L' + 1 + 1 + 1 + 1, o2) :: (L' + 1 + 1 + 1, o3) :: (L' + 1 + 1, o4) :: (L' + 1, o5) :: (tl2 ++ tl))) := ⟨_, _, N1⟩
        refine TurnEnd.intro F1 N2 ((L' + 1 + 1 + 1 + 1 + 1, o1) :: (L' + 1 + 1 + 1 + 1, o2) :: (L' + 1 + 1 + 1, o3) :: (L' + 1 + 1, o4) :: (L' + 1, o5) :: ((T1, ({ cls := .type "tuple", data := .seq #[.int (2 * (i : Int) + 1) ta, .int 1 tb] } : Obj)) :: tl2 ++ tl)) ?_ ?_ ⟨trivial, (T1, _) :: tl2, rfl, ?_, Apart.cons (apart_big (by omega)) hT2⟩
        · simp only [List.cons_append, List.nil_append]
          kcf_all
        · refine LCg.Off3.of fun p hp => ?_
          simp only [List.cons_append, List.mem_cons] at hp
          rcases hp with rfl | rfl | rfl | rfl | rfl | rfl | hp
          · exact hoff _ (by simp)
          · exact hoff _ (by simp)
          · exact hoff _ (by simp)
          · exact hoff _ (by simp)
          · exact hoff _ (by simp)
          · exact ⟨Nat.ne_of_gt l1.1, Nat.ne_of_gt l1.2.1, Nat.ne_of_gt l1.2.2.1⟩
          · exact hoff _ (by simp [hp])
        · rw [dsF_succ]
          exact PairsIn.snoc (PairsIn.mono hp fun p hp => List.mem_cons_of_mem _ hp) List.mem_cons_self
      case fin =>
        rintro ys nw ⟨tl2, rfl, hp, hT2⟩
        intro D h tk F N o1'
        have ho := off1_mem o1'
        have hTN : Apart L' ((D, LCg.lst ys) :: (tl2 ++ tl)) := Apart.cons (apart_new ho _) (hT2.append hT)
        replace N : News s.heap L' h ((L' + 1 + 1 + 1 + 1 + 1, o1) :: (L' + 1 + 1 + 1 + 1, o2) :: (L' + 1 + 1 + 1, o3) :: (L' + 1 + 1, o4) :: (L' + 1, o5) :: ((D, LCg.lst ys) :: (tl2 ++ tl))) := nsub N (by kcf_all)
        k_steps
        rename_i h9 o9 F9 N9 d9
        rw [Int.sub_zero] at hp
        exact ⟨h9, _, o1, o2, o3, o9, o5, R, rvs, kR, D, ys, (D, LCg.lst ys) :: (tl2 ++ tl), rfl, F9, N9, hTN, d1, d2, d3, d9, d5, List.mem_cons_of_mem _ (List.mem_append_right _ hR), (by assumption), List.mem_cons_self, PairsIn.mono hp fun p hp => List.mem_cons_of_mem _ (List.mem_append_left _ hp)⟩
      case st =>
        exact ⟨[], rfl, .nil, Apart.nil⟩
    · have F2 : Fr s.heap L' h' (dvM l seats t (Str.ofString "adams") t2) := F1
      have had' := had rfl
      clear F1 had
      (try k_fold)
      k_steps
      refine Stop.out ?_
      k_dflt (refine LCg.ListComp_U (F₀ := by k_asm) (by with_unfolding_all rfl) (by decide) (by rfl) (by decide) (by rfl) ?_)
      k_steps
      refine Stop.out ?_
      have hvs : vs.length ≤ sizeLine := by rw [PySem.sizeLine_eq]; omega
      rename Fr _ _ _ _ => FB
      rename News _ _ _ _ => NB
      refine LCg.CompSrc.base (by rfl) FB (show News s.heap L' _ ((L' + 1 + 1 + 1 + 1 + 1, o1) :: (L' + 1 + 1 + 1 + 1, o2) :: (L' + 1 + 1 + 1, o3) :: (L' + 1 + 1, o4) :: (L' + 1, o5) :: tl) from fun p hp => NB p (List.mem_cons_of_mem _ (List.mem_cons_of_mem _ (List.mem_cons_of_mem _ (List.mem_cons_of_mem _ (List.mem_cons_of_mem _ hp)))))) hl (by simpa using hvs) ?_
      intro g
      refine crest_inv (fun i ys nw => nw = ((L' + 1 + 1 + 1 + 1 + 1, o1) :: (L' + 1 + 1 + 1 + 1, o2) :: (L' + 1 + 1 + 1, o3) :: (L' + 1 + 1, o4) :: (L' + 1, o5) :: tl) ∧ IntsAre ys (List.replicate i 1)) ?turn0 ?fin0 _ 0 [] _ (Nat.zero_add _) ?st0
      case turn0 =>
        intro i v ys nw I oI C oC D m₂ h tk E' hi' hP hJ hC hx F N off ne
        obtain ⟨rfl, hys⟩ := hJ
        obtain ⟨p, tp, rfl, hp⟩ := hi.at i v (by simpa using hP)
        have hp1 := (hb p (List.mem_of_getElem? hp)).1
        k_steps
        rename Fr _ _ _ _ => F1
        rename News _ _ _ _ => N1
        refine TurnEnd.intro F1 N1 ((L' + 1 + 1 + 1 + 1 + 1, o1) :: (L' + 1 + 1 + 1 + 1, o2) :: (L' + 1 + 1 + 1, o3) :: (L' + 1 + 1, o4) :: (L' + 1, o5) :: tl) ?_ off ⟨.inl hl, rfl, ?_⟩
        · intro p hp; exact hp
        · rw [List.replicate_succ']
          exact IntsAre.append hys (.cons _ _ .nil)
      case fin0 =>
        rintro ys0 nw ⟨rfl, hys⟩
        intro D0 h tk F N o1'
        have ho := off1_mem o1'
        have hTN : Apart L' ((D0, LCg.lst ys0) :: tl) := Apart.cons (apart_new ho _) hT
        replace N : News s.heap L' h ((L' + 1 + 1 + 1 + 1 + 1, o1) :: (L' + 1 + 1 + 1 + 1, o2) :: (L' + 1 + 1 + 1, o3) :: (L' + 1 + 1, o4) :: (L' + 1, o5) :: ((D0, LCg.lst ys0) :: tl)) := nsub N (by kcf_all)
        k_steps
        rename Fr _ _ _ _ => F9
        rename News _ _ _ _ => N9
        rename Obj.data _ = Data.cell _ => d9
        have hsz : vs.toArray.size = ns.length := by simp [hle1]
        rw [hsz] at hys
        obtain ⟨o5, tl, d5, hT, hR, hr0, NX⟩ : ∃ (o5 : Obj) (tl' : List (Addr × Obj)), o5.data = .cell (some (.ref D0)) ∧ Apart L' tl' ∧ (D0, listOf ys0.toArray ys0.length) ∈ tl' ∧ IntsAre ys0 (r0F .ad ns) ∧ News s.heap L' _ ((L' + 1 + 1 + 1 + 1 + 1, o1) :: (L' + 1 + 1 + 1 + 1, o2) :: (L' + 1 + 1 + 1, o3) :: (L' + 1 + 1, o4) :: (L' + 1, o5) :: tl') := ⟨_, _, d9, hTN, List.mem_cons_self, hys, N9⟩
        clear N9
        refine Stop.out ?_
        k_dflt (refine LCg.ListComp_U (F₀ := by k_asm) (by with_unfolding_all rfl) (by decide) (by rfl) (by decide) (by rfl) ?_)
        k_steps
        rename_i tkB tA uA vA hR1 FB NB hK
        refine Stop.out ?_
        refine LCg.CompSrc.range (by rfl) FB (show News s.heap L' _ ((L' + 1 + 1 + 1 + 1 + 1, o1) :: (L' + 1 + 1 + 1 + 1, o2) :: (L' + 1 + 1 + 1, o3) :: (L' + 1 + 1, o4) :: (L' + 1, o5) :: tl) from fun p hp => NB p hp) hR1 (small_one (by omega) (by omega) (by omega) (by omega)) (rangeSize_nat _ _) (by rw [PySem.sizeLine_eq]; omega) ?_
        intro g
        refine crest_inv (fun i ys nw => ∃ tl2, nw = ((L' + 1 + 1 + 1 + 1 + 1, o1) :: (L' + 1 + 1 + 1 + 1, o2) :: (L' + 1 + 1 + 1, o3) :: (L' + 1 + 1, o4) :: (L' + 1, o5) :: (tl2 ++ tl)) ∧ PairsIn tl2 ys (dsF .ad i) ∧ Apart L' tl2) ?turn ?fin (seats - 0).toNat 0 [] _ (Nat.zero_add _) ?st
        case turn =>
          intro i v ys nw I oI C oC D m₂ h tk E' hi hP hJ hC hx F N off ne
          obtain ⟨tv, rfl⟩ := hP
          obtain ⟨tl2, rfl, hp, hT2⟩ := hJ
          rw [Int.zero_add] at hx
          k_steps
          rename_i T1 h1 F1 N1 l1
          have hoff := LCg.Off3.mem off
          obtain ⟨ta, tb, N2⟩ : ∃ ta tb, News s.heap L' h1 ((T1, ({ cls := .type "tuple", data := .seq #[.int ((i : Int) + 1) ta, .int 1 tb] } : Obj)) :: (I, oI) :: (C, oC) :: (D, LCg.lst ys) :: ((L' + 1 + 1 + 1 + 1 + 1, o1) :: (L' + 1 + 1 + 1 + 1, o2) :: (L' + 1 + 1 + 1, o3) :: (L' + 1 + 1, o4) :: (L' + 1, o5) :: (tl2 ++ tl))) := ⟨_, _, N1⟩
          refine TurnEnd.intro F1 N2 ((L' + 1 + 1 + 1 + 1 + 1, o1) :: (L' + 1 + 1 + 1 + 1, o2) :: (L' + 1 + 1 + 1, o3) :: (L' + 1 + 1, o4) :: (L' + 1, o5) :: ((T1, ({ cls := .type "tuple", data := .seq #[.int ((i : Int) + 1) ta, .int 1 tb] } : Obj)) :: tl2 ++ tl)) ?_ ?_ ⟨trivial, (T1, _) :: tl2, rfl, ?_, Apart.cons (apart_big (by omega)) hT2⟩
          · simp only [List.cons_append, List.nil_append]
            kcf_all
          · refine LCg.Off3.of fun p hp => ?_
            simp only [List.cons_append, List.mem_cons] at hp
            rcases hp with rfl | rfl | rfl | rfl | rfl | rfl | hp
            · exact hoff _ (by simp)
            · exact hoff _ (by simp)
            · exact hoff _ (by simp)
            · exact hoff _ (by simp)
            · exact hoff _ (by simp)
            · exact ⟨Nat.ne_of_gt l1.1, Nat.ne_of_gt l1.2.1, Nat.ne_of_gt l1.2.2.1⟩
            · exact hoff _ (by simp [hp])
          · rw [dsF_succ]
            exact PairsIn.snoc (PairsIn.mono hp fun p hp => List.mem_cons_of_mem _ hp) List.mem_cons_self
        case fin =>
          rintro ys nw ⟨tl2, rfl, hp, hT2⟩
          intro D h tk F N o1'
          have ho := off1_mem o1'
          have hTN : Apart L' ((D, LCg.lst ys) :: (tl2 ++ tl)) := Apart.cons (apart_new ho _) (hT2.append hT)
          replace N : News s.heap L' h ((L' + 1 + 1 + 1 + 1 + 1, o1) :: (L' + 1 + 1 + 1 + 1, o2) :: (L' + 1 + 1 + 1, o3) :: (L' + 1 + 1, o4) :: (L' + 1, o5) :: ((D, LCg.lst ys) :: (tl2 ++ tl))) := nsub N (by kcf_all)
          k_steps
          rename_i h9 o9 F9 N9 d9
          rw [Int.sub_zero] at hp
          exact ⟨h9, _, o1, o2, o3, o9, o5, D0, ys0, ys0.length, D, ys, (D, LCg.lst ys) :: (tl2 ++ tl), rfl, F9, N9, hTN, d1, d2, d3, d9, d5, List.mem_cons_of_mem _ (List.mem_append_right _ hR), (by assumption), List.mem_cons_self, PairsIn.mono hp fun p hp => List.mem_cons_of_mem _ (List.mem_append_left _ hp)⟩
        case st =>
          exact ⟨[], rfl, .nil, Apart.nil⟩
      case st0 =>
        exact ⟨rfl, .nil⟩
  clear F1 N1 hT d1 d2 d3 d4 d5 hR hr0
  clear o1 o2 o3 o4 o5 R rvs kR tl h' tk'
  rintro s' ⟨h', tk', o1, o2, o3, o4, o5, R, rvs, kR, D, dvs, tl, rfl, F1, N1, hT, d1, d2, d3, d4, d5, hR, hr0, hD, hP⟩
  refine seq_cut (J3 s L' (dvM l seats t mm.str t2) mm ns seats) ?_ ?_
  · skip
    (try k_fold)
    k_steps
    · refine Stop.out ?_
      rename Fr _ _ _ _ => FA
      rename News _ _ _ _ => NA
      rename Obj.data _ = Data.cell (some (Value.int 1 _)) => dA
      (with_unfolding_all refine' For_invVF FA ?k1 ?k2 ?k3)
      case k1 => exact rfl
      case k2 => exact rfl
      k_steps
      refine Stop.out ?_
      refine kdl_iter (vs := dvs) (nn := dvs.length) (fun i m nw => ∃ (o3 : Obj) (tt : Tok) (u : Str → Option Value), nw = ((L' + 1 + 1 + 1 + 1 + 1, o1) :: (L' + 1 + 1 + 1 + 1, o2) :: (L' + 1 + 1 + 1, o3) :: (L' + 1 + 1, o4) :: (L' + 1, o5) :: tl) ∧ o3.data = .cell (some (.int (comF ((dsF mm seats.toNat).take i)) tt)) ∧ m = fun y => if y = Str.ofString "d" then u y else dvM l seats t mm.str t2 y) (by rfl) ?hl FA NA ?hj ?turn ?done
      case hl => simp [hD]
      case hj => exact ⟨_, _, dvM l seats t mm.str t2, rfl, dA, by funext y; split <;> rfl⟩
      case turn =>
        rintro i v m₁ news₁ h tk own hv hoff hl1 ⟨o3, tt, u, rfl, d3, rfl⟩ F N
        obtain ⟨a, d, ta, ua, na, rfl, hd, hm⟩ := hP.get i v hv
        have hdb := dsF_bounds mm (by omega) d (List.mem_of_getElem? hd)
        have hTo : Apart L' (tl ++ own) := hT.append (own_apart hoff)
        have hm' : (a, ({ cls := .type "tuple", data := .seq #[.int d ta, .int 1 ua] na } : Obj)) ∈ tl ++ own := List.mem_append_left _ hm
        simp only [List.cons_append] at N
        k_steps
        rename_i h9 o9 F9 N9 d9
        obtain ⟨t9, d9⟩ : ∃ t9, o9.data = Data.cell (some (Value.int (_ * d) t9)) := ⟨_, d9⟩
        refine ⟨_, _, _, _, ((L' + 1 + 1 + 1 + 1 + 1, o1) :: (L' + 1 + 1 + 1 + 1, o2) :: (L' + 1 + 1 + 1, o9) :: (L' + 1 + 1, o4) :: (L' + 1, o5) :: tl), rfl, F9, N9, ?_, ?_, hoff, by simp [hD], o9, t9, fun _ => some (.ref a), rfl, ?_, ?_⟩
        · kcf_all
        · kcf_all
        · rw [comF_take hd]
          exact d9
        · funext y
          simp only
          split <;> rfl
      case done =>
        intro m₁ news₁ h tk hJ F N
        clear FA NA dA d3
        obtain ⟨o3, tt, u, rfl, d3, rfl⟩ := hJ
        have hlen : dvs.length = (dsF mm seats.toNat).length := hP.length
        rw [hlen, List.take_length] at d3
        dsimp only
        have hm1 : ([Str.ofString "huntington", Str.ofString "hill", Str.ofString "equalproportions"].any (· == mm.str)) = false := by cases mm <;> decide +kernel
        refine seq_cut (JW s L' (fun y => if y = Str.ofString "d" then u y else dvM l seats t mm.str t2 y) mm ns seats.toNat) ?_ ?_
        · skip
          (try k_fold)
          k_steps
          refine Stop.out ?_
          rename Fr _ _ _ _ => FA
          rename News _ _ _ _ => NA
          have hvs : vs.length ≤ sizeLine := by rw [PySem.sizeLine_eq]; omega
          k_dflt (refine ListComp_C FA (by with_unfolding_all rfl) (by intro _; rfl) (by intro _; rfl) (by rfl) (by decide) (by rfl) ?_)
          k_steps
          rename Fr _ _ _ _ => FB
          rename News _ _ _ _ => NB
          refine SrcC.intro (fun i ys nw => ∃ tl2, nw = ((L' + 1 + 1 + 1 + 1 + 1, o1) :: (L' + 1 + 1 + 1 + 1, o2) :: (L' + 1 + 1 + 1, o3) :: (L' + 1 + 1, o4) :: (L' + 1, o5) :: (tl2 ++ tl)) ∧ RowsIn tl2 ys ((rowsF mm ns seats.toNat).take i) ∧ Apart L' tl2) (by rfl) FB (show News s.heap L' _ ((L' + 1 + 1 + 1 + 1 + 1, o1) :: (L' + 1 + 1 + 1 + 1, o2) :: (L' + 1 + 1 + 1, o3) :: (L' + 1 + 1, o4) :: (L' + 1, o5) :: tl) from fun p hp => NB p (List.mem_cons_of_mem _ hp)) hl (by simpa using hvs) ⟨[], rfl, .nil, Apart.nil⟩ ?turn ?fin
          case turn =>
            intro i v ys nw I oI C oC D1 P oP h tk E' hv hJ hoP F N off ne
            obtain ⟨tl2, rfl, hR2, hT2⟩ := hJ
            obtain ⟨p, tp, rfl, hp⟩ := hi.at i v (by simpa using hv)
            have hpb := hb p (List.mem_of_getElem? hp)
            k_dflt (refine LCg.ListComp_U F (by with_unfolding_all rfl) (by decide) (by rfl) (by decide) (by rfl) ?_)
            k_steps
            refine Stop.out ?_
            have hdl : dvs.length = seats.toNat := by rw [hlen, dsF_length]
            refine LCg.CompSrc.ledger (k := dvs.length) (by rfl) F N (its := dvs.toArray) (by simp [hD]) (by rw [List.size_toArray, PySem.sizeLine_eq, hdl]; omega) ?_
            intro g2
            refine crest_inv (fun j zs nw2 => nw2 = ((I, oI) :: (C, oC) :: (D1, LCg.lst ys) :: (P, oP) :: ((L' + 1 + 1 + 1 + 1 + 1, o1) :: (L' + 1 + 1 + 1 + 1, o2) :: (L' + 1 + 1 + 1, o3) :: (L' + 1 + 1, o4) :: (L' + 1, o5) :: (tl2 ++ tl))) ∧ IntsAre zs ((rowF (comF (dsF mm seats.toNat)) (dsF mm seats.toNat) p).take j)) ?turn2 ?fin2 _ 0 [] _ (Nat.zero_add _) ⟨rfl, .nil⟩
            case turn2 =>
              intro j v2 zs nw2 I2 oI2 C2 oC2 D2 m₂ h2 tk2 E2 hj hP2 hJ2 hC2 hx2 F2 N2 off2 ne2
              obtain ⟨rfl, hz⟩ := hJ2
              obtain ⟨a, d, ta, ua, na, rfl, hd, hm⟩ := hP.get j v2 (by simpa using hP2)
              have hdb := dsF_bounds mm (by omega) d (List.mem_of_getElem? hd)
              have hm' : (a, ({ cls := .type "tuple", data := .seq #[.int d ta, .int 1 ua] na } : Obj)) ∈ tl2 ++ tl := List.mem_append_right _ hm
              k_steps
              refine TurnEnd.intro F2 N2 ((I, oI) :: (C, oC) :: (D1, LCg.lst ys) :: (P, oP) :: ((L' + 1 + 1 + 1 + 1 + 1, o1) :: (L' + 1 + 1 + 1 + 1, o2) :: (L' + 1 + 1 + 1, o3) :: (L' + 1 + 1, o4) :: (L' + 1, o5) :: (tl2 ++ tl))) (fun p hp => hp) off2 ⟨.inr ⟨LCg.lst dvs, by simp [hD], rfl, _, rfl⟩, rfl, ?_⟩
              rw [rowF_snoc hd]
              exact IntsAre.append hz (.cons _ _ .nil)
            case fin2 =>
              rintro zs nw2 ⟨rfl, hz⟩
              intro D2 h2 tk2 F2 N2 o1'
              have ho := off1_mem o1'
              rw [List.size_toArray, show dvs.length = (rowF (comF (dsF mm seats.toNat)) (dsF mm seats.toNat) p).length by simp [rowF, hlen], List.take_length] at hz
              refine TurnEnd.intro F2 N2 ((L' + 1 + 1 + 1 + 1 + 1, o1) :: (L' + 1 + 1 + 1 + 1, o2) :: (L' + 1 + 1 + 1, o3) :: (L' + 1 + 1, o4) :: (L' + 1, o5) :: ((D2, LCg.lst zs) :: tl2 ++ tl)) ?_ ?_ ⟨(D2, LCg.lst zs) :: tl2, rfl, ?_, Apart.cons (apart_new (o1 := o1) (o2 := o2) (o3 := o3) (o4 := o4) (o5 := o5) (tl := tl2 ++ tl) (fun p hp => ho p (List.mem_cons_of_mem _ (List.mem_cons_of_mem _ (List.mem_cons_of_mem _ (List.mem_cons_of_mem _ hp))))) _) hT2⟩
              · simp only [List.cons_append, List.nil_append]
                kcf_all
              · intro p hp
                simp only [List.cons_append, List.mem_cons] at hp
                have h1 := ho (I, oI) (by simp)
                have h2 := ho (C, oC) (by simp)
                have h3 := ho (D1, LCg.lst ys) (by simp)
                have h4 := ho (P, oP) (by simp)
                rcases hp with rfl | rfl | rfl | rfl | rfl | rfl | hp
                · exact off _ (by simp)
                · exact off _ (by simp)
                · exact off _ (by simp)
                · exact off _ (by simp)
                · exact off _ (by simp)
                · exact ⟨Ne.symm h1, Ne.symm h2, Ne.symm h3, Ne.symm h4⟩
                · exact off _ (List.mem_cons_of_mem _ (List.mem_cons_of_mem _ (List.mem_cons_of_mem _ (List.mem_cons_of_mem _ (List.mem_cons_of_mem _ hp)))))
              · rw [show (rowsF mm ns seats.toNat).take (i + 1) = (rowsF mm ns seats.toNat).take i ++ [rowF (comF (dsF mm seats.toNat)) (dsF mm seats.toNat) p] from rows_snoc hp]
                exact RowsIn.snoc (RowsIn.mono hR2 fun p hp => List.mem_cons_of_mem _ hp) List.mem_cons_self hz
          case fin =>
            rintro D3 h3 tk3 ys nw F3 N3 ho ⟨tl2, rfl, hR2, hT2⟩
            rw [List.size_toArray, show vs.length = (rowsF mm ns seats.toNat).length by simp [rowsF, hle1], List.take_length] at hR2
            have hTN : Apart L' ((D3, LCg.lst ys) :: (tl2 ++ tl)) := Apart.cons (apart_new ho _) (hT2.append hT)
            replace N3 : News s.heap L' h3 ((L' + 1 + 1 + 1 + 1 + 1, o1) :: (L' + 1 + 1 + 1 + 1, o2) :: (L' + 1 + 1 + 1, o3) :: (L' + 1 + 1, o4) :: (L' + 1, o5) :: ((D3, LCg.lst ys) :: (tl2 ++ tl))) := nsub N3 (by kcf_all)
            k_steps
            rename_i h9 o9 F9 N9 d9
            exact ⟨h9, _, o1, o9, o3, o4, o5, R, rvs, kR, D3, ys, (D3, LCg.lst ys) :: (tl2 ++ tl), rfl, F9, N9, hTN, d1, d9, d5, List.mem_cons_of_mem _ (List.mem_append_right _ hR), hr0, List.mem_cons_self, RowsIn.mono hR2 fun p hp => List.mem_cons_of_mem _ (List.mem_append_left _ hp)⟩
        clear F N d1 d2 d3 d4 d5 hR hr0 hD hP hT hlen
        rintro s' ⟨h', tk', o1, o2, o3, o4, o5, R, rvs, kR, W, wys, tl, rfl, F1, N1, hT, d1, d2, d5, hR, hr0, hW, hRow⟩
        refine seq_cut (JF s L' (fun y => if y = Str.ofString "d" then u y else dvM l seats t mm.str t2 y) mm ns seats.toNat) ?_ ?_
        · skip
          (try k_fold)
          k_steps
          refine Stop.out ?_
          rename Fr _ _ _ _ => FA
          rename News _ _ _ _ => NA
          k_dflt (refine ListComp_F FA (by with_unfolding_all rfl) (by decide) (by rfl) (by decide) (by rfl) (by rfl) (by decide) (by decide) ?_)
          k_steps
          obtain ⟨vals, hv1, hv2, hv3⟩ := hRow.vals
          have hv4 := hv2.length
          have hv5 : ns.length * seats.toNat ≤ 5 * 14 := Nat.mul_le_mul hn.2 (by omega)
          have hv6 := rowsF_flat_len mm ns seats.toNat
          refine SrcF.intro (vals := vals) (by rfl) FA NA (by rw [List.size_toArray, hv1]) (by rw [PySem.sizeLine_eq]; omega) ?_ ?_
          · intro h hh
            refine ⟨⟨_, hh _ (List.mem_cons_of_mem _ (List.mem_cons_of_mem _ (List.mem_cons_of_mem _ (List.mem_cons_of_mem _ (List.mem_cons_of_mem _ hW))))), rfl, _, rfl⟩, fun i hi => ?_⟩
            obtain ⟨a, ha, hm⟩ := hv3 i hi
            exact ⟨a, by simpa using ha, _, hh _ (List.mem_cons_of_mem _ (List.mem_cons_of_mem _ (List.mem_cons_of_mem _ (List.mem_cons_of_mem _ (List.mem_cons_of_mem _ hm))))), rfl, _, rfl⟩
          · intro D h tk F N lD
            k_steps
            rename_i D8 vs8 ns8 c8 h8 l8 i8 p8 o8 h9 F9 N9
            refine ⟨h9, _, o1, o2, o3, o4, o5, R, rvs, kR, W, wys, D8, vs8, c8, ns8, (D8, _) :: tl, rfl, F9, nsub N9 ?_, Apart.cons (apart_big ?_) hT, d1, d2, d5, List.mem_cons_of_mem _ hR, hr0, List.mem_cons_of_mem _ hW, RowsIn.mono hRow fun p hp => List.mem_cons_of_mem _ hp, List.mem_cons_self, i8, p8, o8⟩
            · kcf_all
            · have := l8 (L' + 1 + 1 + 1 + 1 + 1, o1) (by simp)
              exact this
        clear F1 N1 d1 d2 d5 hR hr0 hW hRow hT
        rintro s' ⟨h', tk', o1, o2, o3, o4, o5, R, rvs, kR, W, wys, FW, fvs, kF, srt, tl, rfl, F1, N1, hT, d1, d2, d5, hR, hr0, hW, hRow, hFW, hfi, hfp, hfo⟩
        have hlenF : srt.length = ns.length * seats.toNat := by rw [hfp.length_eq, rowsF_flat_len]
        have hlenG : seats ≤ (srt.length : Int) := by
          rw [hlenF]
          have h1 : 1 * seats.toNat ≤ ns.length * seats.toNat := Nat.mul_le_mul (by omega) (Nat.le_refl _)
          omega
        have hlenH : srt.length ≤ 70 := by
          rw [hlenF]
          exact Nat.mul_le_mul hn.2 (show seats.toNat ≤ 14 by omega)
        have hsum0 := r0F_sum_nonneg mm ns
        refine seq_cut (JM s L' (fun y => if y = Str.ofString "flatweights" then some (.ref FW) else if y = Str.ofString "d" then u y else dvM l seats t mm.str t2 y) mm ns seats) ?_ ?_
        · skip
          (try k_fold)
          k_steps
          rename_i h9 o9 F9 N9 d9
          exact ⟨h9, _, o9, o2, o3, o4, o5, R, rvs, kR, W, wys, _, _, tl, rfl, F9, N9, hT, d9, d2, d5, hR, hr0, hW, hRow, srt, hfp, hfo, rfl⟩
        clear F1 N1 d1 d2 d5 hR hr0 hW hRow hT hFW hfi hfp hfo hlenF hlenG hlenH
        rintro s' ⟨h', tk', o1, o2, o3, o4, o5, R, rvs, kR, W, wys, mw, tw, tl, rfl, F1, N1, hT, d1, d2, d5, hR, hr0, hW, hRow, hmin⟩
        (try k_fold)
        k_steps
        refine Stop.out ?_
        rename Fr _ _ _ _ => FA
        k_dflt (refine LCg.ListComp_U FA (by with_unfolding_all rfl) (by decide) (by rfl) (by decide) (by rfl) ?_)
        k_steps
        refine Stop.out ?_
        rename Fr _ _ _ _ => FB
        rename News _ _ _ _ => NB
        rename IsRange _ _ _ _ _ _ _ _ => hR1
        refine LCg.CompSrc.range (by rfl) FB NB hR1 (small_one (by omega) (by omega) (by omega) (by omega)) (rangeSize_nat _ _) (by rw [PySem.sizeLine_eq]; omega) ?_
        intro g
        have hnn : ((ns.length : Int) - 0).toNat = ns.length := by omega
        rw [hnn]
        refine crest_inv (fun i ys nw => nw = ((L' + 1 + 1 + 1 + 1 + 1, o1) :: (L' + 1 + 1 + 1 + 1, o2) :: (L' + 1 + 1 + 1, o3) :: (L' + 1 + 1, o4) :: (L' + 1, o5) :: tl) ∧ IntsAre ys ((r1F mm ns seats mw).take i)) ?turn ?fin ns.length 0 [] _ (Nat.zero_add _) ⟨rfl, .nil⟩
        case turn =>
          intro i v ys nw I oI C oC D1 m₂ h tk E' hi' hP' hJ hC hx F N off ne
          obtain ⟨tv, rfl⟩ := hP'
          obtain ⟨rfl, hys⟩ := hJ
          rw [Int.zero_add] at hx
          have hwl : wys.length = ns.length := by rw [hRow.length]; simp [rowsF]
          obtain ⟨v1, hv1⟩ : ∃ v1, wys[i]? = some v1 := ⟨wys[i]'(by omega), List.getElem?_eq_getElem (by omega)⟩
          obtain ⟨a1, rv1, r1, rfl, hr1, hm1, hi1⟩ := hRow.get i v1 hv1
          have hw1 : wys[((i : Nat) : Int).toNat]? = some (.ref a1) := hv1
          have hidx : ((i : Nat) : Int) < (r0F mm ns).length := by simp only [r0F, List.length_replicate]; omega
          k_steps
          refine Stop.out ?_
          k_dflt (refine LCt.ListComp_T F (by with_unfolding_all rfl) (by decide) (by rfl) (by decide) (by rfl) ?_)
          k_steps
          refine Stop.out ?_
          have hrl : r1.length = seats.toNat := row_len hr1
          have hrv : rv1.length = r1.length := hi1.length
          rename Fr _ _ _ _ => FC
          rename News _ _ _ _ => NC
          refine LCt.CompSrcT.ledger (k := rv1.length) (by rfl) FC NC (its := rv1.toArray) (by simp [hm1]) (by rw [List.size_toArray, PySem.sizeLine_eq, hrv, hrl]; omega) ?_
          intro g2
          refine crestT_inv (fun j zs nw2 => nw2 = ((I, oI) :: (C, oC) :: (D1, LCg.lst ys) :: ((L' + 1 + 1 + 1 + 1 + 1, o1) :: (L' + 1 + 1 + 1 + 1, o2) :: (L' + 1 + 1 + 1, o3) :: (L' + 1 + 1, o4) :: (L' + 1, o5) :: tl)) ∧ IntsAre zs ((r1.take j).filter (fun w => decide (mw < w)))) ?turn2 ?fin2 _ 0 [] _ (Nat.zero_add _) ⟨rfl, .nil⟩
          case turn2 =>
            intro j v2 zs nw2 I2 oI2 C2 oC2 D2 m₂' h2 tk2 E2 hj hP2 hJ2 hC2 hx2 F2 N2 off2 ne2
            obtain ⟨rfl, hz⟩ := hJ2
            obtain ⟨x, tx, rfl, hxr⟩ := hi1.at j v2 (by simpa using hP2)
            k_steps
            · rename_i hlt
              refine TurnEnd.intro F2 N2 _ (fun p hp => hp) off2 ⟨.inr ⟨LCg.lst rv1, by simp [hm1], rfl, _, rfl⟩, rfl, ?_⟩
              rw [filt_snoc hxr, if_pos hlt]
              exact IntsAre.append hz (.cons _ _ .nil)
            · rename_i hlt
              refine TurnEnd.intro F2 N2 _ (fun p hp => hp) off2 ⟨.inr ⟨LCg.lst rv1, by simp [hm1], rfl, _, rfl⟩, rfl, ?_⟩
              rw [filt_snoc hxr, if_neg (by omega), List.append_nil]
              exact hz
          case fin2 =>
            rintro zs nw2 ⟨rfl, hz⟩
            intro D2 h2 tk2 F2 N2 o1'
            have ho := off1_mem o1'
            rw [List.size_toArray, hrv, List.take_length] at hz
            have hfl : (r1.filter (fun w => decide (mw < w))).length ≤ 14 := Nat.le_trans (List.length_filter_le _ _) (by omega)
            k_steps
            refine TurnEnd.intro F2 N2 ((L' + 1 + 1 + 1 + 1 + 1, o1) :: (L' + 1 + 1 + 1 + 1, o2) :: (L' + 1 + 1 + 1, o3) :: (L' + 1 + 1, o4) :: (L' + 1, o5) :: tl) ?_ off ⟨trivial, rfl, ?_⟩
            · simp only [List.cons_append, List.nil_append]
              kcf_all
            · rw [r1F_snoc hi' hr1, r0F_getD hi']
              exact IntsAre.append hys (.cons _ _ .nil)
        case fin =>
          rintro ys nw ⟨rfl, hys⟩
          rw [← r1F_length mm ns seats mw, List.take_length] at hys
          intro D h tk F N o1'
          have ho := off1_mem o1'
          have hTN : Apart L' ((D, LCg.lst ys) :: tl) := Apart.cons (apart_new ho _) hT
          replace N : News s.heap L' h ((L' + 1 + 1 + 1 + 1 + 1, o1) :: (L' + 1 + 1 + 1 + 1, o2) :: (L' + 1 + 1 + 1, o3) :: (L' + 1 + 1, o4) :: (L' + 1, o5) :: ((D, LCg.lst ys) :: tl)) := nsub N (by kcf_all)
          k_steps
          rename_i h9 o9 F9 N9 d9
          exact ⟨h9, _, o1, o2, o3, o4, o9, D, ys, ys.length, tl, _, u, rfl, F9, N9, hTN, fun p hp e => ho p (by simp [hp]) e, d9, .inl ⟨mw, tw, W, wys, hys, d1, d2, hW, hRow, hmin, by assumption⟩⟩
    · rename Fr _ _ _ _ => F9
      rename News _ _ _ _ => N9
      have em : (fun y => if y = Str.ofString "flatweights" then dvM l seats t mm.str t2 y else if y = Str.ofString "d" then dvM l seats t mm.str t2 y else dvM l seats t mm.str t2 y) = dvM l seats t mm.str t2 := by
        funext y
        simp only [ite_self]
      refine ⟨_, _, o1, o2, o3, o4, o5, R, rvs, kR, [], dvM l seats t mm.str t2, dvM l seats t mm.str t2, rfl, by rw [em]; exact F9, nsub N9 ?_, hT.sub ?_, (fun _ hp => nomatch hp), d5, .inr ⟨hr0, by omega⟩⟩
      · kcf_all
      · kcf_all
  clear F1 N1 hT d1 d2 d3 d4 d5 hR hr0 hD hP
  rintro s' ⟨h', tk', o1, o2, o3, o4, o5, R, rvs, kR, tl, u1, u, rfl, F1, N1, hT, hoR, d5, hc⟩
  have hRA := hT (R, listOf rvs.toArray kR) List.mem_cons_self
  obtain ⟨hRa, hRb, hRc, hRd, hRe⟩ := hRA
  dsimp only at hRa hRb hRc hRd hRe
  have hTt : Apart L' tl := hT.sub (by kcf_all)
  rcases hc with ⟨mw, tw, W, wys, hr1, d1, d2, hW, hRow, hmin, hlt0⟩ | ⟨hr0, hge⟩
  · (try k_fold)
    k_steps
    · refine Stop.out ?_
      rename Fr _ _ _ _ => FA
      (with_unfolding_all refine' For_invVF FA ?q1 ?q2 ?q3)
      case q1 => exact rfl
      case q2 => exact rfl
      k_steps
      refine Stop.out ?_
      rename Fr _ _ _ _ => FB
      rename News _ _ _ _ => NB
      rename IsRange _ _ _ _ _ _ _ _ => hR1
      refine range_loop (n := ns.length) (fun i m nw => ∃ (b : Bool) (u2 : Str → Option Value) (rvs : List Value) (kR : Nat), m = (fun y => if y = Str.ofString "i" then u2 y else if y = Str.ofString "ties" then some (.bool b) else if y = Str.ofString "flatweights" then u1 y else if y = Str.ofString "d" then u y else dvM l seats t mm.str t2 y) ∧ nw = ((L' + 1 + 1 + 1 + 1 + 1, o1) :: (L' + 1 + 1 + 1 + 1, o2) :: (L' + 1 + 1 + 1, o3) :: (L' + 1 + 1, o4) :: (L' + 1, o5) :: ((R, listOf rvs.toArray kR) :: tl)) ∧ IntsAre rvs (tieF (rowsF mm ns seats.toNat) mw seats (r1F mm ns seats mw) i)) (by rfl) hR1 (small_one (by omega) (by omega) (by omega) (by omega)) ((rangeSize_nat _ _).trans (by congr 1)) FB NB ?hjT ?turnT ?doneT
      case hjT =>
        refine ⟨false, (fun y => if y = Str.ofString "ties" then some (.bool false) else if y = Str.ofString "flatweights" then u1 y else if y = Str.ofString "d" then u y else dvM l seats t mm.str t2 y), rvs, kR, ?_, rfl, hr1⟩
        · funext y
          simp only [ite_self]
      case turnT =>
        rintro i m₁ nx h tk own ti hin hoff ⟨b, u2, rvs, kR, rfl, rfl, hI⟩ F N
        have hwl : wys.length = ns.length := by rw [hRow.length]; simp [rowsF]
        obtain ⟨v1, hv1⟩ : ∃ v1, wys[i]? = some v1 := ⟨wys[i]'(by omega), List.getElem?_eq_getElem (by omega)⟩
        obtain ⟨a1, rv1, rr1, rfl, hrr, hm1, hi1⟩ := hRow.get i v1 hv1
        have hw1 : wys[((i : Nat) : Int).toNat]? = some (.ref a1) := hv1
        have hlen1 : (tieF (rowsF mm ns seats.toNat) mw seats (r1F mm ns seats mw) i).length = ns.length := by rw [tieF_length, r1F_length]
        have hTo : Apart L' ((R, listOf rvs.toArray kR) :: (tl ++ own)) := Apart.cons ⟨hRa, hRb, hRc, hRd, hRe⟩ (hTt.append (own_apart hoff))
        have hoR2 : ∀ p ∈ tl ++ own, p.1 ≠ R := fun p hp => by
          rcases List.mem_append.mp hp with hp | hp
          · exact hoR p hp
          · exact hoff p hp _ (by simp)
        have hW2 : (W, LCg.lst wys) ∈ tl ++ own := List.mem_append_left _ hW
        have hm2 : (a1, LCg.lst rv1) ∈ tl ++ own := List.mem_append_left _ hm1
        simp only [List.cons_append] at N
        have hrd : (rowsF mm ns seats.toNat).getD i [] = rr1 := by simp [List.getD, hrr]
        have hin : mw ∈ rr1 ↔ (rr1.any fun x => x == mw) = true := by simp
        k_steps
        · rename Fr _ _ _ _ => F9
          rename News _ _ _ _ => N9
          refine ⟨_, _, _, _, ((L' + 1 + 1 + 1 + 1 + 1, o1) :: (L' + 1 + 1 + 1 + 1, o2) :: (L' + 1 + 1 + 1, o3) :: (L' + 1 + 1, o4) :: (L' + 1, o5) :: ((R, listOf _ kR) :: tl)), rfl, F9, N9, ?_, ?_, hoff, b, fun _ => some (.int i ti), _, kR, ?_, rfl, ?_⟩
          · kcf_all
          · kcf_all
          · funext y
            by_cases e1 : y = Str.ofString "i"
            · subst e1; rfl
            · by_cases e2 : y = Str.ofString "ties"
              · subst e2; rfl
              · simp only [e1, e2, if_false]
          · rw [tieF_succ, tieStep, hrd]
            rw [if_neg]
            · exact hI
            · rintro ⟨h1, h2⟩
              omega
        · rename Fr _ _ _ _ => F9
          rename News _ _ _ _ => N9
          refine ⟨_, _, _, _, ((L' + 1 + 1 + 1 + 1 + 1, o1) :: (L' + 1 + 1 + 1 + 1, o2) :: (L' + 1 + 1 + 1, o3) :: (L' + 1 + 1, o4) :: (L' + 1, o5) :: ((R, listOf _ kR) :: tl)), rfl, F9, N9, ?_, ?_, hoff, true, fun _ => some (.int i ti), _, kR, ?_, rfl, ?_⟩
          · kcf_all
          · kcf_all
          · funext y
            by_cases e1 : y = Str.ofString "i"
            · subst e1; rfl
            · by_cases e2 : y = Str.ofString "ties"
              · subst e2; rfl
              · simp only [e1, e2, if_false]
          · rw [tieF_succ, tieStep, hrd]
            rw [if_neg]
            · exact hI
            · rintro ⟨h1, h2⟩
              omega
        · rename Fr _ _ _ _ => F9
          rename News _ _ _ _ => N9
          refine ⟨_, _, _, _, ((L' + 1 + 1 + 1 + 1 + 1, o1) :: (L' + 1 + 1 + 1 + 1, o2) :: (L' + 1 + 1 + 1, o3) :: (L' + 1 + 1, o4) :: (L' + 1, o5) :: ((R, listOf _ kR) :: tl)), rfl, F9, N9, ?_, ?_, hoff, b, fun _ => some (.int i ti), _, kR, ?_, rfl, ?_⟩
          · kcf_all
          · kcf_all
          · funext y
            by_cases e1 : y = Str.ofString "i"
            · subst e1; rfl
            · by_cases e2 : y = Str.ofString "ties"
              · subst e2; rfl
              · simp only [e1, e2, if_false]
          · rw [tieF_succ, tieStep, hrd]
            rw [if_neg]
            · exact hI
            · rintro ⟨h1, h2⟩
              omega
        · rename Fr _ _ _ _ => F9
          rename News _ _ _ _ => N9
          rename IntsAre _ _ => hI9
          obtain ⟨rv9, N9, hI9⟩ : ∃ (rv9 : List Value), News s.heap _ _ ((L' + 1 + 1 + 1 + 1 + 1, o1) :: (L' + 1 + 1 + 1 + 1, o2) :: (L' + 1 + 1 + 1, o3) :: (L' + 1 + 1, o4) :: (L' + 1, o5) :: ((R, listOf rv9.toArray kR) :: (tl ++ own))) ∧ IntsAre rv9 _ := ⟨_, N9, hI9⟩
          refine ⟨_, _, _, _, ((L' + 1 + 1 + 1 + 1 + 1, o1) :: (L' + 1 + 1 + 1 + 1, o2) :: (L' + 1 + 1 + 1, o3) :: (L' + 1 + 1, o4) :: (L' + 1, o5) :: ((R, listOf rv9.toArray kR) :: tl)), rfl, F9, N9, ?_, ?_, hoff, b, fun _ => some (.int i ti), _, kR, ?_, rfl, ?_⟩
          · kcf_all
          · kcf_all
          · funext y
            by_cases e1 : y = Str.ofString "i"
            · subst e1; rfl
            · by_cases e2 : y = Str.ofString "ties"
              · subst e2; rfl
              · simp only [e1, e2, if_false]
          · rw [tieF_succ, tieStep, hrd]
            rw [if_pos ⟨by assumption, hin.mpr (by assumption)⟩]
            exact hI9
        · rename Fr _ _ _ _ => F9
          rename News _ _ _ _ => N9
          refine ⟨_, _, _, _, ((L' + 1 + 1 + 1 + 1 + 1, o1) :: (L' + 1 + 1 + 1 + 1, o2) :: (L' + 1 + 1 + 1, o3) :: (L' + 1 + 1, o4) :: (L' + 1, o5) :: ((R, listOf _ kR) :: tl)), rfl, F9, N9, ?_, ?_, hoff, b, fun _ => some (.int i ti), _, kR, ?_, rfl, ?_⟩
          · kcf_all
          · kcf_all
          · funext y
            by_cases e1 : y = Str.ofString "i"
            · subst e1; rfl
            · by_cases e2 : y = Str.ofString "ties"
              · subst e2; rfl
              · simp only [e1, e2, if_false]
          · rw [tieF_succ, tieStep, hrd]
            rw [if_neg]
            · exact hI
            · rintro ⟨h1, h2⟩
              have hq : ¬ (rr1.any fun x => x == mw) = true := by first | assumption | simp_all
              exact hq (hin.mp h2)
        · rename Fr _ _ _ _ => F9
          rename News _ _ _ _ => N9
          refine ⟨_, _, _, _, ((L' + 1 + 1 + 1 + 1 + 1, o1) :: (L' + 1 + 1 + 1 + 1, o2) :: (L' + 1 + 1 + 1, o3) :: (L' + 1 + 1, o4) :: (L' + 1, o5) :: ((R, listOf _ kR) :: tl)), rfl, F9, N9, ?_, ?_, hoff, b, fun _ => some (.int i ti), _, kR, ?_, rfl, ?_⟩
          · kcf_all
          · kcf_all
          · funext y
            by_cases e1 : y = Str.ofString "i"
            · subst e1; rfl
            · by_cases e2 : y = Str.ofString "ties"
              · subst e2; rfl
              · simp only [e1, e2, if_false]
          · rw [tieF_succ, tieStep, hrd]
            rw [if_neg]
            · exact hI
            · rintro ⟨h1, h2⟩
              omega
      case doneT =>
        rintro m₁ nx h tk ⟨b, u2, rvs, kR, rfl, rfl, hI⟩ F N
        k_steps
        all_goals (
          dsimp only
          rename Fr _ _ _ _ => F9
          rename News _ _ _ _ => N9
          have hN := N9 (R, listOf rvs.toArray kR) (by simp)
          exact back_intro F9.keep (ret R rvs kR _ _ _ F9.keep hN.1 hN.2.2 hI (.inl ⟨mw, hmin, hlt0, rfl⟩)))
    · dsimp only
      rename Fr _ _ _ _ => F9
      rename News _ _ _ _ => N9
      have hN := N9 (R, listOf rvs.toArray kR) (by simp)
      refine back_intro F9.keep (ret R rvs kR _ _ _ F9.keep hN.1 hN.2.2 hr1 (.inl ⟨mw, hmin, hlt0, ?_⟩))
      rw [tieF_id (by omega)]
  · (try k_fold)
    k_steps
    dsimp only
    rename Fr _ _ _ _ => F9
    rename News _ _ _ _ => N9
    have hN := N9 (R, listOf rvs.toArray kR) (by simp)
    exact back_intro F9.keep (ret R rvs kR _ _ _ F9.keep hN.1 hN.2.2 hr0 (.inr ⟨rfl, hge⟩))
end Ab
end

section
open PySem PySem.W PyProof.Rows PySem.Spec PySem.Calls
namespace Ab
set_option maxRecDepth 100000
set_option maxHeartbeats 8000000
local macro_rules | `(tactic| k_room) => `(tactic| ktr_room)

section
variable {prog : Program} {w : World} {A : Around} {E : Value → Shared → Prop} {s : Shared} {a b : Int} {t u : Tok} {Q : Value → Shared → Prop}
theorem fdiv_mid (hb : 0 < b) (hu : b < 2 ^ 62) (h : Q (.int (a.fdiv b) s.toks) { s with toks := s.toks + 1 }) : wpAny (model prog w) A (binaryOp .FloorDiv (.int a t) (.int b u)) Q E s := by
  refine floordiv_int (by omega) h (Or.inl (PyProof.noPylong_of_log2 ?_))
  have h1 : b.natAbs < 2 ^ 62 := by omega
  have h2 : b.natAbs ≠ 0 := by omega
  have := (Nat.log2_lt h2).mpr h1
  omega
end

/-- one place of within_quota -/
def wqAt (ns rs : List Int) (i : Nat) : Bool :=
  !decide (-((-(ns.getD i 0) * rs.sum).fdiv ns.sum) < rs.getD i 0) && !decide (rs.getD i 0 < (ns.getD i 0 * rs.sum).fdiv ns.sum)
def wqF (ns rs : List Int) : Nat → Bool
  | 0 => true
  | k + 1 => wqF ns rs k && wqAt ns rs k

theorem wq_step {ns rs pre : List Int} {k : Int} (h : k = 0 + (pre.length : Int)) : wqF ns rs (pre ++ [k]).length = (wqF ns rs pre.length &&
    (!decide (-((-(ns.getD k.toNat 0) * rs.sum).fdiv ns.sum) < rs.getD k.toNat 0) && !decide (rs.getD k.toNat 0 < (ns.getD k.toNat 0 * rs.sum).fdiv ns.sum))) := by
  have e : k.toNat = pre.length := by omega
  rw [e, List.length_append, List.length_singleton]
  rfl
theorem wq_a {ns rs pre : List Int} {k : Int} (h : k = 0 + (pre.length : Int)) (a : -((-(ns.getD k.toNat 0) * rs.sum).fdiv ns.sum) < rs.getD k.toNat 0) : false = wqF ns rs (pre ++ [k]).length := by
  rw [wq_step h, decide_eq_true a]; simp
theorem wq_b {ns rs pre : List Int} {k : Int} (h : k = 0 + (pre.length : Int)) (a : rs.getD k.toNat 0 < (ns.getD k.toNat 0 * rs.sum).fdiv ns.sum) : false = wqF ns rs (pre ++ [k]).length := by
  rw [wq_step h, decide_eq_true a]; simp
theorem wq_c {ns rs pre : List Int} {k : Int} {c : Bool} (h : k = 0 + (pre.length : Int)) (a : ¬ -((-(ns.getD k.toNat 0) * rs.sum).fdiv ns.sum) < rs.getD k.toNat 0) (b : ¬ rs.getD k.toNat 0 < (ns.getD k.toNat 0 * rs.sum).fdiv ns.sum)
    (hc : c = wqF ns rs pre.length) : c = wqF ns rs (pre ++ [k]).length := by
  rw [wq_step h, hc, decide_eq_false a, decide_eq_false b]; simp

local macro_rules | `(tactic| walk_at "binaryOp FloorDiv int int") => `(tactic| ((with_reducible refine fdiv_mid ?h0 ?h1 ?_); (case h0 => omega); (case h1 => omega)))

theorem wq_con {w : World} {p : Program} {loose : List Str} {mean : ExcName → Option Value} {mg mb : Str → Option Value}
   (dp un : Nat) (gd : Option (List Code)) (cn : Str) (cs : Scope) (a : Addr) (ccd : Value) (cl : List (Str × Addr)) (outer : List Env) (A₀ : Around) (base h₀ : Heap) (L : Addr) (m : Str → Option Value) (s : Shared) 
   (l1 : Addr) (vs1 : List Value) (ns1 : List Int) 
   (l2 : Addr) (vs2 : List Value) (ns2 : List Int) 
    (Q E : Value → Shared → Prop)
    (B : Below A₀ base outer h₀) (F : Fr h₀ L s.heap m) (X : (hd.heap_39 w.params).In h₀) (T : Top p loose mean mg mb h₀) (hk : cs.kind = .function)
    (hl1 : s.heap.IsList l1 vs1.toArray) (hi1 : IntsAre vs1 ns1) (hl2 : s.heap.IsList l2 vs2.toArray) (hi2 : IntsAre vs2 ns2) (hd : dp + 1 < recursionLimit) (hqu : un + 8 < cLine)
    (hn1 : ns1.length ≤ 5) (hn2 : ns2.length = ns1.length) (hpos : 0 < ns1.sum) (hpos2 : ns1.sum < 10 ^ 13) (hb2 : 0 ≤ ns2.sum ∧ ns2.sum ≤ 100)
    (ret : ∀ h' tk', Kept s.heap h' → Q (.bool (wqF ns1 ns2 ns1.length)) { s with heap := h', toks := tk' }) :
    wpAny (model PySem.Challenge.rw_ab5004_01.row.prog w) (ktrTop dp un gd cn cs L a ccd cl outer) (call (.ref 34) [.ref l1, .ref l2]) Q E s := by
  revert X; k_fill; intro X
  k_dflt (refine' enterP ?k1 ?k2 ?k3 ?k5 ?kA ?kF ?kK ?k6 ?k7 ?k8 ?k9 ?kB ?kW ?c2 ?c3 ?c4 ?c5; (case kA => exact rfl); (case kF => exact rfl); (case kK => assumption); (case k1 => k_asm); (case k2 => k_asm); (case k3 => k_asm); (case k5 => k_asm); (case k6 => k_is); (case k7 => k_is); (case k8 => ktr_room); (case k9 => exact BindsTo.of_eq rfl); (case c5 => decide); (case kB => exact locs rfl); (case c2 => exact rfl); (case c3 => exact rfl); (case c4 => exact rfl))
  clear B F X T
  intro L' h' tk' F' N' B' X' T'
  (try dsimp only)
  (try k_lift B')
  (try k_fold)
  have hle1 := hi1.length
  have hle2 := hi2.length
  k_with "state" => (first | rfl | exact wq_a (by assumption) (by assumption) | exact wq_b (by assumption) (by assumption) | exact wq_c (by assumption) (by assumption) (by assumption) (by assumption))
  k_with "pyIter ref" => k_state (fun (pre : List Int) (b : Bool) => b = wqF ns1 ns2 pre.length) "within"
  k_steps
  dsimp only
  k_steps
  rename_i hInv hF _ _ _ _
  rename Fr _ _ _ _ => F9
  rename _ = wqF _ _ _ => hI9
  have hl9 : (rangeKs 0 ((ns1.length : Int) - 0).toNat).length = ns1.length := by rw [rangeKs_length]; omega
  rw [hl9] at hI9
  subst hI9
  exact back_intro F9.keep (ret _ _ F9.keep)
end Ab
end

section
open PySem PySem.W PyProof.Rows PySem.Spec PySem.Calls
namespace Ab
set_option maxRecDepth 100000
set_option maxHeartbeats 8000000
local macro_rules | `(tactic| k_room) => `(tactic| ktr_room)
local macro_rules | `(tactic| walk_at "exec For Name Call cons nil") => `(tactic| (refine Stop.intro ?_))
local macro_rules | `(tactic| walk_at "pyIter ref") => `(tactic| ((with_reducible show wpAny _ _ (pyIter (Value.ref _)) (fun it s₂ => LoopAtV _ _ _ _ _ _ _ _ _ it s₂) _ _); refine Stop.intro ?_))

def abAt (ns rs : List Int) (i : Nat) : Bool := decide (ns.getD i 0 * rs.sum ≤ (rs.getD i 0 - 1) * ns.sum)
def beAt (ns rs : List Int) (i : Nat) : Bool := decide ((rs.getD i 0 + 1) * ns.sum ≤ ns.getD i 0 * rs.sum)
def wiF (ns rs : List Int) : Nat → Bool
  | 0 => true
  | k + 1 => wiF ns rs k && (!abAt ns rs k && !beAt ns rs k)
theorem wiF_false {ns rs : List Int} {i : Nat} (h : (abAt ns rs i || beAt ns rs i) = true) : ∀ {n : Nat}, i < n → wiF ns rs n = false
  | 0, h0 => absurd h0 (Nat.not_lt_zero _)
  | n + 1, h0 => by
    rw [wiF]
    by_cases e : i = n
    · subst e
      cases ha : abAt ns rs i <;> cases hb : beAt ns rs i <;> simp_all
    · rw [wiF_false h (by omega)]; rfl

section
variable {w : World} {p : Program} {loose : List Str} {mean : ExcName → Option Value} {mg mb : Str → Option Value}
   {dp un : Nat} {gd : Option (List Code)} {cn : Str} {cs : Scope} {a : Addr} {ccd : Value} {cl : List (Str × Addr)} {outer : List Env} {A₀ : Around} {base h₀ : Heap} {L : Addr} {m : Str → Option Value} {s : Shared}
   {l1 : Addr} {vs1 : List Value} {ns1 : List Int} 
   {l2 : Addr} {vs2 : List Value} {ns2 : List Int} 
    {Q E : Value → Shared → Prop}

theorem ab_con {k : Int} {t : Tok}
    (B : Below A₀ base outer h₀) (F : Fr h₀ L s.heap m) (X : (hd.heap_39 w.params).In h₀) (T : Top p loose mean mg mb h₀) (hk : cs.kind = .function)
    (hl1 : s.heap.IsList l1 vs1.toArray) (hi1 : IntsAre vs1 ns1) (hl2 : s.heap.IsList l2 vs2.toArray) (hi2 : IntsAre vs2 ns2) (hd : dp + 1 < recursionLimit) 
    (hqn1 : ns1.length < 1000) (hn2 : ns2.length = ns1.length) (hpos : 0 < ns1.sum) (hpos2 : ns1.sum < 10 ^ 13) (hb2 : 0 ≤ ns2.sum ∧ ns2.sum ≤ 100) (hk0 : 0 ≤ k) (hk1 : k < ns1.length)
    (ret : ∀ h' tk', Kept s.heap h' → Q (.bool (abAt ns1 ns2 k.toNat)) { s with heap := h', toks := tk' }) :
    wpAny (model PySem.Challenge.rw_ab5004_01.row.prog w) (ktrTop dp un gd cn cs L a ccd cl outer) (call (.ref 66) [.ref l1, .ref l2, .int k t]) Q E s := by
  revert X; k_fill; intro X
  k_dflt (refine' enterP ?k1 ?k2 ?k3 ?k5 ?kA ?kF ?kK ?k6 ?k7 ?k8 ?k9 ?kB ?kW ?c2 ?c3 ?c4 ?c5; (case kA => exact rfl); (case kF => exact rfl); (case kK => assumption); (case k1 => k_asm); (case k2 => k_asm); (case k3 => k_asm); (case k5 => k_asm); (case k6 => k_is); (case k7 => k_is); (case k8 => ktr_room); (case k9 => exact BindsTo.of_eq rfl); (case c5 => decide); (case kB => exact locs rfl); (case c2 => exact rfl); (case c3 => exact rfl); (case c4 => exact rfl))
  clear B F X T
  intro L' h' tk' F' N' B' X' T'
  (try dsimp only)
  (try k_lift B')
  (try k_fold)
  have hle1 := hi1.length
  have hle2 := hi2.length
  k_steps
  rename Fr _ _ _ _ => F9
  exact back_intro F9.keep (ret _ _ F9.keep)
theorem be_con {k : Int} {t : Tok}
    (B : Below A₀ base outer h₀) (F : Fr h₀ L s.heap m) (X : (hd.heap_39 w.params).In h₀) (T : Top p loose mean mg mb h₀) (hk : cs.kind = .function)
    (hl1 : s.heap.IsList l1 vs1.toArray) (hi1 : IntsAre vs1 ns1) (hl2 : s.heap.IsList l2 vs2.toArray) (hi2 : IntsAre vs2 ns2) (hd : dp + 1 < recursionLimit) 
    (hqn1 : ns1.length < 1000) (hn2 : ns2.length = ns1.length) (hpos : 0 < ns1.sum) (hpos2 : ns1.sum < 10 ^ 13) (hb2 : 0 ≤ ns2.sum ∧ ns2.sum ≤ 100) (hk0 : 0 ≤ k) (hk1 : k < ns1.length)
    (ret : ∀ h' tk', Kept s.heap h' → Q (.bool (beAt ns1 ns2 k.toNat)) { s with heap := h', toks := tk' }) :
    wpAny (model PySem.Challenge.rw_ab5004_01.row.prog w) (ktrTop dp un gd cn cs L a ccd cl outer) (call (.ref 73) [.ref l1, .ref l2, .int k t]) Q E s := by
  revert X; k_fill; intro X
  k_dflt (refine' enterP ?k1 ?k2 ?k3 ?k5 ?kA ?kF ?kK ?k6 ?k7 ?k8 ?k9 ?kB ?kW ?c2 ?c3 ?c4 ?c5; (case kA => exact rfl); (case kF => exact rfl); (case kK => assumption); (case k1 => k_asm); (case k2 => k_asm); (case k3 => k_asm); (case k5 => k_asm); (case k6 => k_is); (case k7 => k_is); (case k8 => ktr_room); (case k9 => exact BindsTo.of_eq rfl); (case c5 => decide); (case kB => exact locs rfl); (case c2 => exact rfl); (case c3 => exact rfl); (case c4 => exact rfl))
  clear B F X T
  intro L' h' tk' F' N' B' X' T'
  (try dsimp only)
  (try k_lift B')
  (try k_fold)
  have hle1 := hi1.length
  have hle2 := hi2.length
  k_steps
  rename Fr _ _ _ _ => F9
  exact back_intro F9.keep (ret _ _ F9.keep)
end

local macro_rules | `(tactic| walk_at "call ref") => `(tactic| (refine Stop.intro ?_))
section
variable {w : World} {p : Program} {loose : List Str} {mean : ExcName → Option Value} {mg mb : Str → Option Value}
   {dp un : Nat} {gd : Option (List Code)} {cn : Str} {cs : Scope} {a : Addr} {ccd : Value} {cl : List (Str × Addr)} {outer : List Env} {A₀ : Around} {base h₀ : Heap} {L : Addr} {m : Str → Option Value} {s : Shared}
   {l1 : Addr} {vs1 : List Value} {ns1 : List Int} 
   {l2 : Addr} {vs2 : List Value} {ns2 : List Int} 
    {Q E : Value → Shared → Prop}
theorem lookup2 (y x1 x2 : Str) (v1 v2 : Value) : List.lookup y [(x1, v1), (x2, v2)] = if y = x1 then some v1 else if y = x2 then some v2 else none := by
  by_cases h1 : y = x1
  · simp [List.lookup, h1]
  · by_cases h2 : y = x2
    · subst h2; simp [List.lookup, h1, beq_eq_false_iff_ne.mpr h1]
    · simp [List.lookup, h1, h2, beq_eq_false_iff_ne.mpr h1, beq_eq_false_iff_ne.mpr h2]
theorem wi_con
    (B : Below A₀ base outer h₀) (F : Fr h₀ L s.heap m) (X : (hd.heap_39 w.params).In h₀) (T : Top p loose mean mg mb h₀) (hk : cs.kind = .function)
    (hl1 : s.heap.IsList l1 vs1.toArray) (hi1 : IntsAre vs1 ns1) (hl2 : s.heap.IsList l2 vs2.toArray) (hi2 : IntsAre vs2 ns2) (hd : dp + 2 < recursionLimit)
    (hn1 : ns1.length ≤ 5) (hn2 : ns2.length = ns1.length) (hpos : 0 < ns1.sum) (hpos2 : ns1.sum < 10 ^ 13) (hb2 : 0 ≤ ns2.sum ∧ ns2.sum ≤ 100)
    (ret : ∀ h' tk', Kept s.heap h' → Q (.bool (wiF ns1 ns2 ns1.length)) { s with heap := h', toks := tk' }) :
    wpAny (model PySem.Challenge.rw_ab5004_01.row.prog w) (ktrTop dp un gd cn cs L a ccd cl outer) (call (.ref 80) [.ref l1, .ref l2]) Q E s := by
  revert X; k_fill; intro X
  k_dflt (refine' enterP ?k1 ?k2 ?k3 ?k5 ?kA ?kF ?kK ?k6 ?k7 ?k8 ?k9 ?kB ?kW ?c2 ?c3 ?c4 ?c5; (case kA => exact rfl); (case kF => exact rfl); (case kK => assumption); (case k1 => k_asm); (case k2 => k_asm); (case k3 => k_asm); (case k5 => k_asm); (case k6 => k_is); (case k7 => k_is); (case k8 => ktr_room); (case k9 => exact BindsTo.of_eq rfl); (case c5 => decide); (case kB => exact locs rfl); (case c2 => exact rfl); (case c3 => exact rfl); (case c4 => exact rfl))
  clear B F X T
  intro L' h' tk' F' N' B' X' T'
  (try dsimp only)
  (try k_lift B')
  (try k_fold)
  have hle1 := hi1.length
  have hle2 := hi2.length
  have hn5 := hn1
  clear hn1
  have hn1 : ns1.length < 1000 := by omega
  have hn6 : PySem.Flt.Hid (ns1.length ≤ 5) := PySem.Flt.Hid.mk hn5
  clear hn5
  k_steps
  refine Stop.out ?_
  rename Fr _ _ _ _ => FA
  (with_unfolding_all refine' For_invVF FA ?q1 ?q2 ?q3)
  case q1 => exact rfl
  case q2 => exact rfl
  k_steps
  refine Stop.out ?_
  rename Fr _ _ _ _ => FB
  rename News _ _ _ _ => NB
  rename IsRange _ _ _ _ _ _ _ _ => hR1
  refine range_loop (n := ns1.length) (fun i m nw => (∃ (u2 : Str → Option Value), m = (fun y => if y = Str.ofString "k" then u2 y else if y = Str.ofString "told" then some (.ref l2) else if y = Str.ofString "votes" then some (.ref l1) else none)) ∧ nw = [] ∧ wiF ns1 ns2 i = true) (by rfl) hR1 (small_one (by omega) (by omega) (by omega) (by omega)) ((rangeSize_nat _ _).trans (by congr 1)) FB NB ?hjT ?turnT ?doneT
  case hjT =>
    refine ⟨⟨fun y => if y = Str.ofString "told" then some (.ref l2) else if y = Str.ofString "votes" then some (.ref l1) else none, ?_⟩, rfl, rfl⟩
    funext y
    simp only [ite_self]
    show List.lookup y [(Str.ofString "told", Value.ref l2), (Str.ofString "votes", Value.ref l1)] = _
    exact lookup2 _ _ _ _ _
  case turnT =>
    rintro i m₁ nx h tk own ti hin hoff ⟨⟨u2, rfl⟩, rfl, hI⟩ F N
    have hia : ((i : Nat) : Int) < ns1.length := by omega
    have hib : 0 ≤ ((i : Nat) : Int) := by omega
    k_steps
    refine Stop.out ?_
    (with_unfolding_all refine' ab_con ?cBa ?cFa ?cXa ?cTa ?cKa ?cl1a ?ci1a ?cl2a ?ci2a ?cda ?c1a ?c2a ?c3a ?c4a ?c5a ?c6a ?c7a ?cRa); (case cBa => k_asm); (case cFa => k_asm); (case cXa => k_asm); (case cTa => k_asm); (case cKa => exact rfl); (case cl1a => is_list); (case ci1a => assumption); (case cl2a => is_list); (case ci2a => assumption); (case cda => ktr_room); (case c1a => first | assumption | omega | ktr_room); (case c2a => first | assumption | omega | ktr_room); (case c3a => first | assumption | omega | ktr_room); (case c4a => first | assumption | omega | ktr_room); (case c5a => first | assumption | omega | ktr_room); (case c6a => first | assumption | omega | ktr_room); (case c7a => first | assumption | omega | ktr_room); intro h9 tk9 kk9; (rename Fr _ _ _ _ => lF'); (rename News _ _ _ _ => lN'); (have F9 := Fr.keeps lF' kk9); (have N9 := News.grown lN' kk9); clear lF' lN' kk9; (try k_sweep)
    k_steps
    · rename abAt _ _ _ = true => a1
      rw [Int.toNat_natCast] at a1
      rw [wiF_false (i := i) (by rw [a1]; rfl) hin] at ret
      exact back_intro F9.keep (ret _ _ F9.keep)
    · refine Stop.out ?_
      (with_unfolding_all refine' be_con ?cBb ?cFb ?cXb ?cTb ?cKb ?cl1b ?ci1b ?cl2b ?ci2b ?cdb ?c1b ?c2b ?c3b ?c4b ?c5b ?c6b ?c7b ?cRb); (case cBb => k_asm); (case cFb => k_asm); (case cXb => k_asm); (case cTb => k_asm); (case cKb => exact rfl); (case cl1b => is_list); (case ci1b => assumption); (case cl2b => is_list); (case ci2b => assumption); (case cdb => ktr_room); (case c1b => first | assumption | omega | ktr_room); (case c2b => first | assumption | omega | ktr_room); (case c3b => first | assumption | omega | ktr_room); (case c4b => first | assumption | omega | ktr_room); (case c5b => first | assumption | omega | ktr_room); (case c6b => first | assumption | omega | ktr_room); (case c7b => first | assumption | omega | ktr_room); intro h9 tk9 kk9; (rename Fr _ _ _ _ => lF'); (rename News _ _ _ _ => lN'); (have F9 := Fr.keeps lF' kk9); (have N9 := News.grown lN' kk9); clear lF' lN' kk9; (try k_sweep)
      k_steps
      · rename beAt _ _ _ = true => a1
        rw [Int.toNat_natCast] at a1
        rw [wiF_false (i := i) (by rw [a1]; simp) hin] at ret
        exact back_intro F9.keep (ret _ _ F9.keep)
      · rename beAt _ _ _ = false => a1
        rename abAt _ _ _ = false => a2
        rw [Int.toNat_natCast] at a1 a2
        refine ⟨_, _, _, _, [], rfl, F9, N9, ?_, ?_, hoff, ⟨fun _ => some (.int i ti), ?_⟩, rfl, ?_⟩
        · kcf_all
        · kcf_all
        · exact ite_same
        · rw [wiF, hI, a1, a2]; rfl
  case doneT =>
    rintro m₁ nx h tk ⟨⟨u2, rfl⟩, rfl, hI⟩ F N
    (try dsimp only)
    k_steps
    rename Fr _ _ _ _ => F9
    rw [hI] at ret
    exact back_intro F9.keep (ret _ _ F9.keep)
end
end Ab
end

section
open PySem PySem.W PyProof.Rows PySem.Spec PySem.Calls
namespace Ab
set_option maxRecDepth 100000
set_option maxHeartbeats 8000000
section
variable {prog : Program} {w : World} {A : Around} {s : Shared} {args : List Value} {Q E : Value → Shared → Prop}
theorem stop54 (h : Stop (wpAny (model prog w) A (call (.ref 54) args) Q E s)) : wpAny (model prog w) A (call (.ref 54) args) Q E s := Stop.intro h
end

def cellF (sc : List Int) (k : Int) : Int := if k < sc.length then (if sc.getD k.toNat 0 < 0 then -sc.getD k.toNat 0 else sc.getD k.toNat 0) else 37 * k + 11
theorem cellF_nonneg {sc : List Int} {k : Int} (h : 0 ≤ k) : 0 ≤ cellF sc k := by
  unfold cellF
  split
  · split <;> omega
  · omega

section
local macro_rules | `(tactic| k_room) => `(tactic| ktr_room)
variable {w : World} {p : Program} {loose : List Str} {mean : ExcName → Option Value} {mg mb : Str → Option Value}
   {dp un : Nat} {gd : Option (List Code)} {cn : Str} {cs : Scope} {a : Addr} {ccd : Value} {cl : List (Str × Addr)} {outer : List Env} {A₀ : Around} {base h₀ : Heap} {L : Addr} {m : Str → Option Value} {s : Shared}
   {l1 : Addr} {vs1 : List Value} {sc : List Int} 
    {Q E : Value → Shared → Prop}

theorem cell_con {k : Int} {t : Tok}
    (B : Below A₀ base outer h₀) (F : Fr h₀ L s.heap m) (X : (hd.heap_39 w.params).In h₀) (T : Top p loose mean mg mb h₀) (hk : cs.kind = .function)
    (hl1 : s.heap.IsList l1 vs1.toArray) (hi1 : IntsAre vs1 sc) (hd : dp + 1 < recursionLimit) 
    (hn1 : sc.length < 1000) (hk0 : 0 ≤ k) (hk1 : k < 1000)
    (ret : ∀ h' tk' t', Kept s.heap h' → Q (.int (cellF sc k) t') { s with heap := h', toks := tk' }) :
    wpAny (model PySem.Challenge.rw_ab5004_01.row.prog w) (ktrTop dp un gd cn cs L a ccd cl outer) (call (.ref 54) [.ref l1, .int k t]) Q E s := by
  revert X; k_fill; intro X
  k_dflt (refine' enterP ?k1 ?k2 ?k3 ?k5 ?kA ?kF ?kK ?k6 ?k7 ?k8 ?k9 ?kB ?kW ?c2 ?c3 ?c4 ?c5; (case kA => exact rfl); (case kF => exact rfl); (case kK => assumption); (case k1 => k_asm); (case k2 => k_asm); (case k3 => k_asm); (case k5 => k_asm); (case k6 => k_is); (case k7 => k_is); (case k8 => ktr_room); (case k9 => exact BindsTo.of_eq rfl); (case c5 => decide); (case kB => exact locs rfl); (case c2 => exact rfl); (case c3 => exact rfl); (case c4 => exact rfl))
  clear B F X T
  intro L' h' tk' F' N' B' X' T'
  (try dsimp only)
  (try k_lift B')
  (try k_fold)
  have hle1 := hi1.length
  k_steps
  · rename Fr _ _ _ _ => F9
    rename k < _ => a9
    have e : cellF sc k = if sc.getD k.toNat 0 < 0 then -sc.getD k.toNat 0 else sc.getD k.toNat 0 := by rw [cellF, if_pos a9]
    rw [e] at ret
    exact back_intro F9.keep (ret _ _ _ F9.keep)
  · rename Fr _ _ _ _ => F9
    rename ¬ (k < _) => a9
    have e : cellF sc k = 37 * k + 11 := by rw [cellF, if_neg a9]
    rw [e] at ret
    exact back_intro F9.keep (ret _ _ _ F9.keep)
end
/-- how many votes at most -/
def topF (x : Int) : Int := [4, 30, 1000, 10 ^ 12].getD (x.fmod 4).toNat 1
def votesF (sc : List Int) (n : Nat) : List Int := (rangeKs 0 n).map fun k => 1 + (cellF sc (3 + k)).fmod (topF (cellF sc 1))
section
local macro_rules | `(tactic| k_room) => `(tactic| ktr_room)
local macro_rules | `(tactic| walk_at "call ref") => `(tactic| (with_reducible refine stop54 ?_))
local macro_rules | `(tactic| walk_at "CompSrc") => `(tactic| (refine Stop.intro ?_))
local macro_rules | `(tactic| walk_at "KCfEl") => `(tactic| (refine Stop.intro ?_))
variable {w : World} {p : Program} {loose : List Str} {mean : ExcName → Option Value} {mg mb : Str → Option Value}
   {dp un : Nat} {gd : Option (List Code)} {cn : Str} {cs : Scope} {a : Addr} {ccd : Value} {cl : List (Str × Addr)} {outer : List Env} {A₀ : Around} {base h₀ : Heap} {L : Addr} {m : Str → Option Value} {s : Shared}
   {l1 : Addr} {vs1 : List Value} {sc : List Int} 
    {Q E : Value → Shared → Prop}
theorem votes_con {par : Int} {t t1 : Tok}
    (B : Below A₀ base outer h₀) (F : Fr h₀ L s.heap m) (X : (hd.heap_39 w.params).In h₀) (T : Top p loose mean mg mb h₀) (hk : cs.kind = .function)
    (hl1 : s.heap.IsList l1 vs1.toArray) (hi1 : IntsAre vs1 sc) (hd : dp + 2 < recursionLimit) 
    (hn1 : sc.length < 1000) (hk0 : 2 ≤ par) (hk1 : par ≤ 5)
    (ret : ∀ r ys h' tk', Kept s.heap h' → h'.get? r = some (LCg.lst ys) → s.heap.get? r = none → IntsAre ys (votesF sc par.toNat) → Q (.ref r) { s with heap := h', toks := tk' }) :
    wpAny (model PySem.Challenge.rw_ab5004_01.row.prog w) (ktrTop dp un gd cn cs L a ccd cl outer) (call (.ref 59) [.ref l1, .int par t, .int 1 t1]) Q E s := by
  revert X; k_fill; intro X
  k_dflt (refine' enterC ?k1 ?k2 ?k3 ?k5 ?kA ?kF ?kK ?k6 ?k7 ?k8 ?k9 ?kB ?kN ?kW ?c2 ?c3 ?c4; (case kA => exact rfl); (case kF => exact rfl); (case kK => assumption); (case k1 => k_asm); (case k2 => k_asm); (case k3 => k_asm); (case k5 => k_asm); (case k6 => k_is); (case k7 => k_is); (case k8 => ktr_room); (case k9 => exact BindsTo.of_eq rfl); (case kB => exact rfl); (case kN => decide +kernel); (case c2 => exact rfl); (case c3 => exact rfl); (case c4 => exact rfl))
  clear B F X T
  intro L' h' tk' cells' F' N' Y' B' X' T'
  have F1 : Fr s.heap L' h' (fun y => if y = Str.ofString "parties" then some (.int par t) else none) := F'
  clear F'
  obtain ⟨o1, o2, o3, hE, d1, d2, d3⟩ := PyProof.Rows.CellsAre.three Y'
  clear Y'
  subst hE
  first | (replace d1 : o1.data = .cell none := d1) | (replace d1 : o1.data = .cell (some (.ref l1)) := d1) | (replace d1 : o1.data = .cell (some (.int 1 t1)) := d1) 
  first | (replace d2 : o2.data = .cell none := d2) | (replace d2 : o2.data = .cell (some (.ref l1)) := d2) | (replace d2 : o2.data = .cell (some (.int 1 t1)) := d2) 
  first | (replace d3 : o3.data = .cell none := d3) | (replace d3 : o3.data = .cell (some (.ref l1)) := d3) | (replace d3 : o3.data = .cell (some (.int 1 t1)) := d3) 
  (try dsimp only)
  (try k_lift B')
  (try k_fold)
  have hle1 := hi1.length
  k_steps
  refine Stop.out ?_
  (with_unfolding_all refine' cell_con (sc := sc) ?cBa ?cFa ?cXa ?cTa ?cKa ?cl1a ?ci1a ?cda ?c1a ?c2a ?c3a ?cRa); (case cBa => k_asm); (case cFa => k_asm); (case cXa => k_asm); (case cTa => k_asm); (case cKa => exact rfl); (case cl1a => is_list); (case ci1a => assumption); (case cda => ktr_room); (case c1a => first | assumption | omega); (case c2a => first | assumption | omega); (case c3a => first | assumption | omega); intro h9 tk9 tc9 kk9; (rename Fr _ _ _ _ => lF'); (rename News _ _ _ _ => lN'); (have F9 := Fr.keeps lF' kk9); (have N9 := News.grown lN' kk9); clear lF' lN' kk9; (try k_sweep)
  have hc1 : 0 ≤ cellF sc 1 := cellF_nonneg (by decide)
  k_steps
  all_goals refine Stop.out ?_
  · rename Fr _ _ _ _ => FB
    rename News _ _ _ _ => NB
    rename IsRange _ _ _ _ _ _ _ _ => hR1
    refine LCg.CompSrc.range (by rfl) FB NB hR1 (small_one (by omega) (by omega) (by omega) (by omega)) (rangeSize_nat _ _) (by rw [PySem.sizeLine_eq]; omega) ?_
    intro g'
    refine kcf_range (fun k => 1 + (cellF sc (3 + k)).fmod (topF (cellF sc 1))) (fun k' t' I' oI' C' oC' D' m' ys' h' tk' E' hlo' hhi' hC' hx' F' N' off' ne' hMark' => ?_) ?_
    · (try (simp only [LCg.Off3, and_true] at off'))
      k_steps
      refine Stop.out ?_
      (with_unfolding_all refine' cell_con (sc := sc) ?cBb1 ?cFb1 ?cXb1 ?cTb1 ?cKb1 ?cl1b1 ?ci1b1 ?cdb1 ?c1b1 ?c2b1 ?c3b1 ?cRb1); (case cBb1 => k_asm); (case cFb1 => k_asm); (case cXb1 => k_asm); (case cTb1 => k_asm); (case cKb1 => exact rfl); (case cl1b1 => is_list); (case ci1b1 => assumption); (case cdb1 => ktr_room); (case c1b1 => first | assumption | omega); (case c2b1 => first | assumption | omega); (case c3b1 => first | assumption | omega); intro h9 tk9 tc9 kk9; (rename Fr _ _ _ _ => lF'); (rename News _ _ _ _ => lN'); (have F9 := Fr.keeps lF' kk9); (have N9 := News.grown lN' kk9); clear lF' lN' kk9; (try k_sweep)
      k_steps
      refine Stop.out ?_
      rename Int.fmod _ _ = _ => kq
      refine kcf_el ?kce1 (by with_unfolding_all rfl) (by with_unfolding_all rfl)
      case kce1 =>
        simp only [topF, kq]
        rfl
    · k_steps
      rename Fr _ _ _ _ => F9
      rename News _ _ _ _ => N9
      rename IntsAre _ (List.map _ _) => hI9
      have hN := N9 _ List.mem_cons_self
      rw [Int.sub_zero] at hI9
      exact back_intro F9.keep (ret _ _ _ _ F9.keep hN.1 hN.2.2 hI9)
  · rename Fr _ _ _ _ => FB
    rename News _ _ _ _ => NB
    rename IsRange _ _ _ _ _ _ _ _ => hR1
    refine LCg.CompSrc.range (by rfl) FB NB hR1 (small_one (by omega) (by omega) (by omega) (by omega)) (rangeSize_nat _ _) (by rw [PySem.sizeLine_eq]; omega) ?_
    intro g'
    refine kcf_range (fun k => 1 + (cellF sc (3 + k)).fmod (topF (cellF sc 1))) (fun k' t' I' oI' C' oC' D' m' ys' h' tk' E' hlo' hhi' hC' hx' F' N' off' ne' hMark' => ?_) ?_
    · (try (simp only [LCg.Off3, and_true] at off'))
      k_steps
      refine Stop.out ?_
      (with_unfolding_all refine' cell_con (sc := sc) ?cBb2 ?cFb2 ?cXb2 ?cTb2 ?cKb2 ?cl1b2 ?ci1b2 ?cdb2 ?c1b2 ?c2b2 ?c3b2 ?cRb2); (case cBb2 => k_asm); (case cFb2 => k_asm); (case cXb2 => k_asm); (case cTb2 => k_asm); (case cKb2 => exact rfl); (case cl1b2 => is_list); (case ci1b2 => assumption); (case cdb2 => ktr_room); (case c1b2 => first | assumption | omega); (case c2b2 => first | assumption | omega); (case c3b2 => first | assumption | omega); intro h9 tk9 tc9 kk9; (rename Fr _ _ _ _ => lF'); (rename News _ _ _ _ => lN'); (have F9 := Fr.keeps lF' kk9); (have N9 := News.grown lN' kk9); clear lF' lN' kk9; (try k_sweep)
      k_steps
      refine Stop.out ?_
      rename Int.fmod _ _ = _ => kq
      refine kcf_el ?kce2 (by with_unfolding_all rfl) (by with_unfolding_all rfl)
      case kce2 =>
        simp only [topF, kq]
        rfl
    · k_steps
      rename Fr _ _ _ _ => F9
      rename News _ _ _ _ => N9
      rename IntsAre _ (List.map _ _) => hI9
      have hN := N9 _ List.mem_cons_self
      rw [Int.sub_zero] at hI9
      exact back_intro F9.keep (ret _ _ _ _ F9.keep hN.1 hN.2.2 hI9)
  · rename Fr _ _ _ _ => FB
    rename News _ _ _ _ => NB
    rename IsRange _ _ _ _ _ _ _ _ => hR1
    refine LCg.CompSrc.range (by rfl) FB NB hR1 (small_one (by omega) (by omega) (by omega) (by omega)) (rangeSize_nat _ _) (by rw [PySem.sizeLine_eq]; omega) ?_
    intro g'
    refine kcf_range (fun k => 1 + (cellF sc (3 + k)).fmod (topF (cellF sc 1))) (fun k' t' I' oI' C' oC' D' m' ys' h' tk' E' hlo' hhi' hC' hx' F' N' off' ne' hMark' => ?_) ?_
    · (try (simp only [LCg.Off3, and_true] at off'))
      k_steps
      refine Stop.out ?_
      (with_unfolding_all refine' cell_con (sc := sc) ?cBb3 ?cFb3 ?cXb3 ?cTb3 ?cKb3 ?cl1b3 ?ci1b3 ?cdb3 ?c1b3 ?c2b3 ?c3b3 ?cRb3); (case cBb3 => k_asm); (case cFb3 => k_asm); (case cXb3 => k_asm); (case cTb3 => k_asm); (case cKb3 => exact rfl); (case cl1b3 => is_list); (case ci1b3 => assumption); (case cdb3 => ktr_room); (case c1b3 => first | assumption | omega); (case c2b3 => first | assumption | omega); (case c3b3 => first | assumption | omega); intro h9 tk9 tc9 kk9; (rename Fr _ _ _ _ => lF'); (rename News _ _ _ _ => lN'); (have F9 := Fr.keeps lF' kk9); (have N9 := News.grown lN' kk9); clear lF' lN' kk9; (try k_sweep)
      k_steps
      refine Stop.out ?_
      rename Int.fmod _ _ = _ => kq
      refine kcf_el ?kce3 (by with_unfolding_all rfl) (by with_unfolding_all rfl)
      case kce3 =>
        simp only [topF, kq]
        rfl
    · k_steps
      rename Fr _ _ _ _ => F9
      rename News _ _ _ _ => N9
      rename IntsAre _ (List.map _ _) => hI9
      have hN := N9 _ List.mem_cons_self
      rw [Int.sub_zero] at hI9
      exact back_intro F9.keep (ret _ _ _ _ F9.keep hN.1 hN.2.2 hI9)
  · rename Fr _ _ _ _ => FB
    rename News _ _ _ _ => NB
    rename IsRange _ _ _ _ _ _ _ _ => hR1
    refine LCg.CompSrc.range (by rfl) FB NB hR1 (small_one (by omega) (by omega) (by omega) (by omega)) (rangeSize_nat _ _) (by rw [PySem.sizeLine_eq]; omega) ?_
    intro g'
    refine kcf_range (fun k => 1 + (cellF sc (3 + k)).fmod (topF (cellF sc 1))) (fun k' t' I' oI' C' oC' D' m' ys' h' tk' E' hlo' hhi' hC' hx' F' N' off' ne' hMark' => ?_) ?_
    · (try (simp only [LCg.Off3, and_true] at off'))
      k_steps
      refine Stop.out ?_
      (with_unfolding_all refine' cell_con (sc := sc) ?cBb4 ?cFb4 ?cXb4 ?cTb4 ?cKb4 ?cl1b4 ?ci1b4 ?cdb4 ?c1b4 ?c2b4 ?c3b4 ?cRb4); (case cBb4 => k_asm); (case cFb4 => k_asm); (case cXb4 => k_asm); (case cTb4 => k_asm); (case cKb4 => exact rfl); (case cl1b4 => is_list); (case ci1b4 => assumption); (case cdb4 => ktr_room); (case c1b4 => first | assumption | omega); (case c2b4 => first | assumption | omega); (case c3b4 => first | assumption | omega); intro h9 tk9 tc9 kk9; (rename Fr _ _ _ _ => lF'); (rename News _ _ _ _ => lN'); (have F9 := Fr.keeps lF' kk9); (have N9 := News.grown lN' kk9); clear lF' lN' kk9; (try k_sweep)
      k_steps
      refine Stop.out ?_
      rename Int.fmod _ _ = _ => kq
      refine kcf_el ?kce4 (by with_unfolding_all rfl) (by with_unfolding_all rfl)
      case kce4 =>
        simp only [topF, kq]
        rfl
    · k_steps
      rename Fr _ _ _ _ => F9
      rename News _ _ _ _ => N9
      rename IntsAre _ (List.map _ _) => hI9
      have hN := N9 _ List.mem_cons_self
      rw [Int.sub_zero] at hI9
      exact back_intro F9.keep (ret _ _ _ _ F9.keep hN.1 hN.2.2 hI9)
end
end Ab
end

section
open PySem PySem.W PyProof.Rows
namespace Ab
/-! sums -/
def Sg (f : Nat → Int) : Nat → Int
  | 0 => 0
  | n + 1 => Sg f n + f n
theorem Sg_le {f g : Nat → Int} : ∀ {n : Nat}, (∀ i, i < n → f i ≤ g i) → Sg f n ≤ Sg g n
  | 0, _ => Int.le_refl _
  | n + 1, h => by
    have h1 := Sg_le (n := n) fun i hi => h i (by omega)
    have h2 := h n (by omega)
    simp only [Sg]; omega
theorem Sg_congr {f g : Nat → Int} {n : Nat} (h : ∀ i, i < n → f i = g i) : Sg f n = Sg g n := by
  have h1 := Sg_le (n := n) fun i hi => Int.le_of_eq (h i hi)
  have h2 := Sg_le (n := n) fun i hi => Int.le_of_eq (h i hi).symm
  omega
theorem Sg_add (f g : Nat → Int) : ∀ n, Sg (fun i => f i + g i) n = Sg f n + Sg g n
  | 0 => rfl
  | n + 1 => by simp only [Sg, Sg_add f g n]; omega
theorem Sg_sub (f g : Nat → Int) : ∀ n, Sg (fun i => f i - g i) n = Sg f n - Sg g n
  | 0 => rfl
  | n + 1 => by simp only [Sg, Sg_sub f g n]; omega
theorem Sg_mul (c : Int) (f : Nat → Int) : ∀ n, Sg (fun i => c * f i) n = c * Sg f n
  | 0 => by simp [Sg]
  | n + 1 => by simp only [Sg, Sg_mul c f n, Int.mul_add]
theorem Sg_const (c : Int) : ∀ n : Nat, Sg (fun _ => c) n = n * c
  | 0 => by simp [Sg]
  | n + 1 => by
    simp only [Sg, Sg_const c n, Int.natCast_add, Int.add_mul]
    omega
theorem Sg_nonneg {f : Nat → Int} {n : Nat} (h : ∀ i, i < n → 0 ≤ f i) : 0 ≤ Sg f n := by
  have h1 := Sg_le (f := fun _ => 0) (n := n) h
  rw [Sg_const] at h1
  omega
theorem Sg_term {f : Nat → Int} : ∀ {n k : Nat}, (∀ i, i < n → 0 ≤ f i) → k < n → f k ≤ Sg f n
  | n + 1, k, h, hk => by
    have h0 := Sg_nonneg (f := f) (n := n) fun i hi => h i (by omega)
    have h1 := h n (by omega)
    simp only [Sg]
    by_cases e : k = n
    · subst e; omega
    · have h2 := Sg_term (n := n) (k := k) (fun i hi => h i (by omega)) (by omega)
      omega
theorem Sg_shift (f : Nat → Int) : ∀ n, Sg f (n + 1) = f 0 + Sg (fun i => f (i + 1)) n
  | 0 => by simp [Sg]
  | n + 1 => by
    rw [Sg, Sg_shift f n, Sg]
    omega
theorem sum_Sg : ∀ l : List Int, l.sum = Sg (fun i => l.getD i 0) l.length
  | [] => rfl
  | x :: l => by
    rw [List.sum_cons, sum_Sg l, List.length_cons, Sg_shift]
    rfl
theorem sum_set : ∀ (l : List Int) (i : Nat), i < l.length → (l.set i (l.getD i 0 + 1)).sum = l.sum + 1
  | x :: l, 0, _ => by simp [List.sum_cons]; omega
  | x :: l, i + 1, h => by
    have h' : i < l.length := by simpa using h
    have := sum_set l i h'
    simp only [List.getD_cons_succ, List.set_cons_succ, List.sum_cons, this]
    omega
theorem getD_set (l : List Int) (i j : Nat) (v : Int) (hi : i < l.length) : (l.set i v).getD j 0 = if i = j then v else l.getD j 0 := by
  simp only [List.getD, List.getElem?_set]
  by_cases e : i = j
  · subst e; simp [hi]
  · simp [e]
/-! counts -/
def cgt (mw : Int) (r : List Int) : Nat := (r.filter fun w => decide (mw < w)).length
def cge (mw : Int) (r : List Int) : Nat := (r.filter fun w => decide (mw ≤ w)).length
theorem cge_cgt {mw : Int} : ∀ {r : List Int}, r.Pairwise (· > ·) → cge mw r = cgt mw r + (if mw ∈ r then 1 else 0)
  | [], _ => rfl
  | x :: r, h => by
    have h1 := (List.pairwise_cons.mp h).1
    have ih := cge_cgt (mw := mw) (List.pairwise_cons.mp h).2
    have low : x ≤ mw → cge mw r = 0 ∧ cgt mw r = 0 ∧ mw ∉ r := fun hx => by
      refine ⟨?_, ?_, ?_⟩
      · simp only [cge, List.length_eq_zero_iff, List.filter_eq_nil_iff, decide_eq_true_eq]
        intro a ha
        have := h1 a ha
        omega
      · simp only [cgt, List.length_eq_zero_iff, List.filter_eq_nil_iff, decide_eq_true_eq]
        intro a ha
        have := h1 a ha
        omega
      · intro hm
        have := h1 mw hm
        omega
    by_cases a : mw < x
    · have e : mw ≠ x := by omega
      have c1 : cge mw (x :: r) = cge mw r + 1 := by simp [cge, show mw ≤ x by omega]
      have c2 : cgt mw (x :: r) = cgt mw r + 1 := by simp [cgt, a]
      rw [c1, c2, ih]
      simp only [List.mem_cons, e, false_or]
      omega
    · obtain ⟨z1, z2, z3⟩ := low (by omega)
      by_cases e : mw = x
      · have c1 : cge mw (x :: r) = cge mw r + 1 := by simp [cge, e]
        have c2 : cgt mw (x :: r) = cgt mw r := by simp [cgt, a]
        rw [c1, c2, z1, z2]
        simp [e]
      · have c1 : cge mw (x :: r) = cge mw r := by
          simp only [cge]; rw [List.filter_cons_of_neg]; simp; omega
        have c2 : cgt mw (x :: r) = cgt mw r := by simp [cgt, a]
        rw [c1, c2, z1, z2]
        simp [e, z3]
theorem cgt_spec {mw : Int} : ∀ {r : List Int}, r.Pairwise (· > ·) → ∀ {j : Nat} {x : Int}, r[j]? = some x → (j < cgt mw r ↔ mw < x)
  | y :: r, h, j, x, hx => by
    have h1 := (List.pairwise_cons.mp h).1
    by_cases a : mw < y
    · have c2 : cgt mw (y :: r) = cgt mw r + 1 := by simp [cgt, a]
      cases j with
      | zero =>
        simp only [List.getElem?_cons_zero, Option.some.injEq] at hx
        subst hx
        rw [c2]
        constructor
        · intro _; exact a
        · intro _; omega
      | succ j =>
        have := cgt_spec (mw := mw) (List.pairwise_cons.mp h).2 (j := j) (x := x) (by simpa using hx)
        rw [c2, ← this]
        omega
    · have z : cgt mw (y :: r) = 0 := by
        simp only [cgt, List.length_eq_zero_iff, List.filter_eq_nil_iff, decide_eq_true_eq]
        intro b hb
        rcases List.mem_cons.mp hb with rfl | hb
        · exact a
        · have := h1 b hb
          omega
      rw [z]
      have hm : x ∈ y :: r := List.mem_of_getElem? hx
      constructor
      · intro h; omega
      · intro h
        rcases List.mem_cons.mp hm with e | hb
        · omega
        · have := h1 x hb
          omega
theorem cgt_le (mw : Int) (r : List Int) : cgt mw r ≤ r.length := List.length_filter_le _ _
theorem cgt_at {mw : Int} {r : List Int} (h : r.Pairwise (· > ·)) (hm : mw ∈ r) : r[cgt mw r]? = some mw := by
  obtain ⟨j, hj⟩ := List.mem_iff_getElem?.mp hm
  have h1 : ¬ j < cgt mw r := fun hc => by
    have := (cgt_spec h hj).mp hc
    omega
  by_cases e : j = cgt mw r
  · rw [← e]; exact hj
  · have hlt : cgt mw r < j := by omega
    have hjl : j < r.length := (List.getElem?_eq_some_iff.mp hj).1
    have hc : r[cgt mw r]? = some (r[cgt mw r]'(by omega)) := List.getElem?_eq_getElem (by omega)
    have h2 : ¬ mw < r[cgt mw r]'(by omega) := fun q => Nat.lt_irrefl _ ((cgt_spec h hc).mpr q)
    have h3 := (List.pairwise_iff_getElem.mp h) (cgt mw r) j (by omega) hjl hlt
    have h4 : r[j] = mw := by
      have := List.getElem?_eq_getElem hjl
      rw [hj] at this
      exact (Option.some.inj this).symm
    rw [h4] at h3
    exact absurd h3 h2
/-! the sorted list -/
theorem sorted_cgt {mw : Int} {srt : List Int} {p : Nat} (h : srt.Pairwise (· ≤ ·)) (hp : srt[p]? = some mw) : cgt mw srt + p + 1 ≤ srt.length := by
  have hpl : p < srt.length := (List.getElem?_eq_some_iff.mp hp).1
  have hv : srt[p] = mw := (List.getElem?_eq_some_iff.mp hp).2
  have e : srt = srt.take (p + 1) ++ srt.drop (p + 1) := (List.take_append_drop _ _).symm
  have z : (srt.take (p + 1)).filter (fun w => decide (mw < w)) = [] := by
    rw [List.filter_eq_nil_iff]
    intro a ha
    obtain ⟨i, hi⟩ := List.mem_iff_getElem?.mp ha
    rw [List.getElem?_take] at hi
    split at hi
    · rename_i hip
      have hil : i < srt.length := (List.getElem?_eq_some_iff.mp hi).1
      have hiv : srt[i] = a := (List.getElem?_eq_some_iff.mp hi).2
      by_cases q : i = p
      · subst q
        simp only [decide_eq_true_eq]
        omega
      · have := (List.pairwise_iff_getElem.mp h) i p hil hpl (by omega)
        simp only [decide_eq_true_eq]
        omega
    · cases hi
  have hc : cgt mw srt = ((srt.drop (p + 1)).filter (fun w => decide (mw < w))).length := by
    unfold cgt
    conv => lhs; rw [e]
    rw [List.filter_append, z, List.nil_append]
  have hl : ((srt.drop (p + 1)).filter (fun w => decide (mw < w))).length ≤ (srt.drop (p + 1)).length := List.length_filter_le _ _
  rw [List.length_drop] at hl
  omega
theorem sorted_cge {mw : Int} {srt : List Int} {p : Nat} (h : srt.Pairwise (· ≤ ·)) (hp : srt[p]? = some mw) : srt.length ≤ cge mw srt + p := by
  have hpl : p < srt.length := (List.getElem?_eq_some_iff.mp hp).1
  have hv : srt[p] = mw := (List.getElem?_eq_some_iff.mp hp).2
  have e : srt = srt.take p ++ srt.drop p := (List.take_append_drop _ _).symm
  have z : (srt.drop p).filter (fun w => decide (mw ≤ w)) = srt.drop p := by
    rw [List.filter_eq_self]
    intro a ha
    obtain ⟨i, hi⟩ := List.mem_iff_getElem?.mp ha
    rw [List.getElem?_drop] at hi
    have hil : p + i < srt.length := (List.getElem?_eq_some_iff.mp hi).1
    have hiv : srt[p + i] = a := (List.getElem?_eq_some_iff.mp hi).2
    by_cases q : i = 0
    · subst q
      simp only [decide_eq_true_eq]
      simp only [Nat.add_zero] at hiv
      omega
    · have := (List.pairwise_iff_getElem.mp h) p (p + i) hpl hil (by omega)
      simp only [decide_eq_true_eq]
      omega
  have hc : cge mw srt = ((srt.take p).filter (fun w => decide (mw ≤ w))).length + (srt.drop p).length := by
    unfold cge
    conv => lhs; rw [e]
    rw [List.filter_append, z, List.length_append]
  rw [List.length_drop] at hc
  omega
theorem cnt_flat (p : Int → Bool) : ∀ rows : List (List Int), ((rows.flatten.filter p).length : Int) = Sg (fun i => (((rows.getD i []).filter p).length : Int)) rows.length
  | [] => rfl
  | r :: rows => by
    rw [List.flatten_cons, List.filter_append, List.length_append, Int.natCast_add, cnt_flat p rows, List.length_cons, Sg_shift]
    rfl
end Ab
end

section
open PySem PySem.W PyProof.Rows
namespace Ab
theorem ilt_or (a b : Int) : a < b ∨ b ≤ a := by omega
/-! divisors and rows -/
theorem d_pos (mm : Meth) (j : Nat) : 1 ≤ mm.d j := by cases mm <;> simp only [Meth.d] <;> omega
theorem d_lt (mm : Meth) {i j : Nat} (h : i < j) : mm.d i < mm.d j := by cases mm <;> simp only [Meth.d] <;> omega
theorem foldl_mul (l : List Int) (a : Int) : l.foldl (fun c d => c * d) a = a * l.foldl (fun c d => c * d) 1 := by
  induction l generalizing a with
  | nil => simp
  | cons x l ih => rw [List.foldl_cons, List.foldl_cons, ih, ih (1 * x), Int.one_mul, Int.mul_assoc]
theorem comF_cons (x : Int) (l : List Int) : comF (x :: l) = x * comF l := by
  unfold comF
  rw [List.foldl_cons, foldl_mul, Int.one_mul]
theorem comF_pos : ∀ {l : List Int}, (∀ d ∈ l, 1 ≤ d) → 1 ≤ comF l
  | [], _ => by simp [comF]
  | x :: l, h => by
    rw [comF_cons]
    have h1 := h x List.mem_cons_self
    have h2 := comF_pos (l := l) fun d hd => h d (List.mem_cons_of_mem _ hd)
    have := Int.mul_pos (show 0 < x by omega) (show 0 < comF l by omega)
    omega
theorem comF_dvd : ∀ {l : List Int} {d : Int}, d ∈ l → d ∣ comF l
  | x :: l, d, h => by
    rw [comF_cons]
    rcases List.mem_cons.mp h with rfl | h
    · exact Int.dvd_mul_right _ _
    · exact Int.dvd_trans (comF_dvd h) (Int.dvd_mul_left _ _)
theorem dsF_get (mm : Meth) {k j : Nat} (h : j < k) : (dsF mm k)[j]? = some (mm.d j) := by
  simp [dsF, h]
theorem row_get {mm : Meth} {k : Nat} {p : Int} {j : Nat} {x : Int} (h : (rowF (comF (dsF mm k)) (dsF mm k) p)[j]? = some x) : j < k ∧ x * mm.d j = p * comF (dsF mm k) := by
  simp only [rowF, List.getElem?_map] at h
  obtain ⟨d, hd, hx⟩ := Option.map_eq_some_iff.mp h
  have hj : j < k := by
    have := (List.getElem?_eq_some_iff.mp hd).1
    rwa [dsF_length] at this
  rw [dsF_get mm hj] at hd
  have e : mm.d j = d := Option.some.inj hd
  subst e
  refine ⟨hj, ?_⟩
  have hdv : mm.d j ∣ p * 1 * comF (dsF mm k) := Int.dvd_trans (comF_dvd (List.mem_of_getElem? (dsF_get mm hj))) (Int.dvd_mul_left _ _)
  have hp := d_pos mm j
  rw [← hx, Int.fdiv_eq_ediv_of_nonneg _ (by omega), Int.ediv_mul_cancel hdv, Int.mul_one]
theorem row_length (C : Int) (ds : List Int) (p : Int) : (rowF C ds p).length = ds.length := by simp [rowF]
theorem row_anti {mm : Meth} {k : Nat} {p : Int} (hp : 1 ≤ p) : (rowF (comF (dsF mm k)) (dsF mm k) p).Pairwise (· > ·) := by
  rw [List.pairwise_iff_getElem]
  intro i j hi hj hij
  have h1 := (row_get (List.getElem?_eq_getElem hi)).2
  have h2 := (row_get (List.getElem?_eq_getElem hj)).2
  generalize (rowF (comF (dsF mm k)) (dsF mm k) p)[i] = a at *
  generalize (rowF (comF (dsF mm k)) (dsF mm k) p)[j] = b at *
  have hC : 1 ≤ comF (dsF mm k) := comF_pos fun d hd => by
    simp only [dsF, List.mem_map] at hd
    obtain ⟨q, _, rfl⟩ := hd
    exact d_pos mm q
  have hpC := Int.mul_pos (show 0 < p by omega) (show 0 < comF (dsF mm k) by omega)
  have hd := d_lt mm hij
  have hd0 := d_pos mm i
  have hb : 0 < b := by
    rcases ilt_or 0 b with q | q
    · exact q
    · have := Int.mul_nonneg (show 0 ≤ -b by omega) (show 0 ≤ mm.d j by omega)
      rw [Int.neg_mul] at this
      omega
  show b < a
  rcases ilt_or b a with q | q
  · exact q
  · exfalso
    have h3 : a * mm.d i ≤ b * mm.d i := Int.mul_le_mul_of_nonneg_right q (by omega)
    have h4 : b * mm.d i < b * mm.d j := Int.mul_lt_mul_of_pos_left hd hb
    omega
theorem com_pos (mm : Meth) (k : Nat) : 1 ≤ comF (dsF mm k) := comF_pos fun d hd => by
  simp only [dsF, List.mem_map] at hd
  obtain ⟨q, _, rfl⟩ := hd
  exact d_pos mm q
theorem row_pos {mm : Meth} {k : Nat} {p x : Int} (hp : 1 ≤ p) (h : x ∈ rowF (comF (dsF mm k)) (dsF mm k) p) : 0 < x := by
  obtain ⟨j, hj⟩ := List.mem_iff_getElem?.mp h
  have h1 := (row_get hj).2
  have hC := com_pos mm k
  have hpC := Int.mul_pos (show 0 < p by omega) (show 0 < comF (dsF mm k) by omega)
  have hd := d_pos mm j
  rcases ilt_or 0 x with q | q
  · exact q
  · have := Int.mul_nonneg (show 0 ≤ -x by omega) (show 0 ≤ mm.d j by omega)
    rw [Int.neg_mul] at this
    omega
theorem rowsF_getD {mm : Meth} {ns : List Int} {k i : Nat} (h : i < ns.length) : (rowsF mm ns k).getD i [] = rowF (comF (dsF mm k)) (dsF mm k) (ns.getD i 0) := by
  simp [rowsF, List.getD, h]
theorem r0F_sum' (mm : Meth) (ns : List Int) : (r0F mm ns).sum = (ns.length : Int) * mm.start := r0F_sum mm ns
/-! the tie loop -/
theorem tie_inv {rows : List (List Int)} {mw seats : Int} {r1 : List Int} (h1 : r1.sum ≤ seats) : ∀ {k : Nat}, k ≤ r1.length →
    (tieF rows mw seats r1 k).sum ≤ seats ∧ (∀ i, k ≤ i → (tieF rows mw seats r1 k).getD i 0 = r1.getD i 0) ∧
    (∀ i, i < k → (tieF rows mw seats r1 k).getD i 0 = r1.getD i 0 ∨ ((tieF rows mw seats r1 k).getD i 0 = r1.getD i 0 + 1 ∧ mw ∈ rows.getD i [])) ∧
    ((tieF rows mw seats r1 k).sum < seats → ∀ i, i < k → mw ∈ rows.getD i [] → (tieF rows mw seats r1 k).getD i 0 = r1.getD i 0 + 1)
  | 0, _ => ⟨h1, fun _ _ => rfl, fun i hi => absurd hi (Nat.not_lt_zero _), fun _ i hi => absurd hi (Nat.not_lt_zero _)⟩
  | k + 1, hk => by
    obtain ⟨a, b, c, d⟩ := tie_inv (rows := rows) (mw := mw) h1 (k := k) (by omega)
    have hlen := tieF_length rows mw seats r1 k
    rw [tieF_succ]
    generalize hT : tieF rows mw seats r1 k = T at *
    unfold tieStep
    split
    · rename_i hc
      have hs := sum_set T k (by omega)
      refine ⟨by rw [hs]; omega, ?_, ?_, ?_⟩
      · intro i hi
        rw [getD_set _ _ _ _ (by omega), if_neg (by omega)]
        exact b i (by omega)
      · intro i hi
        rw [getD_set _ _ _ _ (by omega)]
        by_cases e : k = i
        · subst e
          rw [if_pos rfl, b k (Nat.le_refl _)]
          exact .inr ⟨rfl, hc.2⟩
        · rw [if_neg e]
          exact c i (by omega)
      · intro hlt i hi hm
        rw [getD_set _ _ _ _ (by omega)]
        by_cases e : k = i
        · subst e
          rw [if_pos rfl, b k (Nat.le_refl _)]
        · rw [if_neg e]
          exact d (by omega) i (by omega) hm
    · rename_i hc
      refine ⟨a, fun i hi => b i (by omega), ?_, ?_⟩
      · intro i hi
        by_cases e : k = i
        · subst e
          exact .inl (b k (Nat.le_refl _))
        · exact c i (by omega)
      · intro hlt i hi hm
        by_cases e : k = i
        · subst e
          exact absurd ⟨hlt, hm⟩ hc
        · exact d hlt i (by omega) hm
/-- what the divisor method says of the seats -/
def Drawn (mm : Meth) (ns rs : List Int) (C mw : Int) : Prop :=
  ∀ i, i < ns.length → ∃ c : Nat, rs.getD i 0 = mm.start + c ∧ ns.getD i 0 * C ≤ mw * mm.d c ∧ (1 ≤ c → mw * mm.d (c - 1) ≤ ns.getD i 0 * C)
theorem getD_mem {ns : List Int} {i : Nat} (h : i < ns.length) : ns.getD i 0 ∈ ns := by
  simp only [List.getD, List.getElem?_eq_getElem h, Option.getD_some]
  exact List.getElem_mem h
theorem div_main {mm : Meth} {ns : List Int} {seats mw : Int} (hb : ∀ x ∈ ns, 1 ≤ x) (hn : 1 ≤ ns.length) (hmin : IsMin mm ns seats mw) (hlt : (r0F mm ns).sum < seats) :
    ∃ C, 0 < C ∧ 0 < mw ∧ (tieF (rowsF mm ns seats.toNat) mw seats (r1F mm ns seats mw) ns.length).sum = seats ∧
      Drawn mm ns (tieF (rowsF mm ns seats.toNat) mw seats (r1F mm ns seats mw) ns.length) C mw := by
  obtain ⟨srt, hperm, hsrt, hmw⟩ := hmin
  have hr0 := r0F_sum_nonneg mm ns
  have hr0e := r0F_sum' mm ns
  generalize hk : seats.toNat = k at *
  have hks : (k : Int) = seats := by omega
  have hC := com_pos mm k
  have hrl : (rowsF mm ns k).length = ns.length := by simp [rowsF]
  have hrow : ∀ i, i < ns.length → (rowsF mm ns k).getD i [] = rowF (comF (dsF mm k)) (dsF mm k) (ns.getD i 0) := fun i hi => rowsF_getD hi
  have hone : ∀ i, i < ns.length → 1 ≤ ns.getD i 0 := fun i hi => hb _ (getD_mem hi)
  have hanti : ∀ i, i < ns.length → ((rowsF mm ns k).getD i []).Pairwise (· > ·) := fun i hi => by rw [hrow i hi]; exact row_anti (hone i hi)
  have hrlen : ∀ i, i < ns.length → ((rowsF mm ns k).getD i []).length = k := fun i hi => by rw [hrow i hi, row_length, dsF_length]
  -- the sorted list's length
  have hsl : (srt.length : Int) = ns.length * k := by
    rw [hperm.length_eq]
    have h := cnt_flat (fun _ => true) (rowsF mm ns k)
    rw [List.filter_eq_self.mpr (fun _ _ => rfl), hrl] at h
    rw [h, ← Sg_const]
    refine Sg_congr fun i hi => ?_
    rw [List.filter_eq_self.mpr (fun _ _ => rfl), hrlen i hi]
  have hnk : (k : Int) ≤ ns.length * k := by
    have := Int.mul_le_mul_of_nonneg_right (show (1 : Int) ≤ ns.length by omega) (show (0 : Int) ≤ k by omega)
    omega
  have hp : srt[(-seats + (r0F mm ns).sum + srt.length).toNat]? = some mw := by
    rw [List.getElem?_eq_getElem (by omega)]
    rw [hmw, List.getD, List.getElem?_eq_getElem (by omega)]
    rfl
  generalize hpe : (-seats + (r0F mm ns).sum + srt.length).toNat = p at *
  have hpi : (p : Int) = -seats + (r0F mm ns).sum + srt.length := by omega
  have g1 := sorted_cgt hsrt hp
  have g2 := sorted_cge hsrt hp
  have e1 : (cgt mw srt : Int) = Sg (fun i => (cgt mw ((rowsF mm ns k).getD i []) : Int)) ns.length := by
    have h := cnt_flat (fun w => decide (mw < w)) (rowsF mm ns k)
    rw [hrl] at h
    unfold cgt
    rw [(hperm.filter _).length_eq]
    exact h
  have e2 : (cge mw srt : Int) = Sg (fun i => (cge mw ((rowsF mm ns k).getD i []) : Int)) ns.length := by
    have h := cnt_flat (fun w => decide (mw ≤ w)) (rowsF mm ns k)
    rw [hrl] at h
    unfold cge
    rw [(hperm.filter _).length_eq]
    exact h
  have hmwpos : 0 < mw := by
    have hm : mw ∈ (rowsF mm ns k).flatten := (hperm.mem_iff).mp (List.mem_of_getElem? hp)
    obtain ⟨r, hr, hx⟩ := List.mem_flatten.mp hm
    obtain ⟨i, hi⟩ := List.mem_iff_getElem?.mp hr
    have hil : i < ns.length := by have := (List.getElem?_eq_some_iff.mp hi).1; omega
    have : (rowsF mm ns k).getD i [] = r := by rw [List.getD, hi]; rfl
    rw [hrow i hil] at this
    rw [← this] at hx
    exact row_pos (hone i hil) hx
  -- the first round
  have hr1l : (r1F mm ns seats mw).length = ns.length := r1F_length mm ns seats mw
  have hr1 : ∀ i, i < ns.length → (r1F mm ns seats mw).getD i 0 = mm.start + cgt mw ((rowsF mm ns k).getD i []) := fun i hi => by
    unfold r1F cgt
    rw [hk]
    simp [List.getD, hi]
  have hr1s : (r1F mm ns seats mw).sum = (r0F mm ns).sum + cgt mw srt := by
    rw [sum_Sg, hr1l, hr0e, e1, ← Sg_const mm.start, ← Sg_add]
    exact Sg_congr hr1
  obtain ⟨t1, t2, t3, t4⟩ := tie_inv (rows := rowsF mm ns k) (mw := mw) (seats := seats) (r1 := r1F mm ns seats mw) (by omega) (k := ns.length) (by omega)
  have htl := tieF_length (rowsF mm ns k) mw seats (r1F mm ns seats mw) ns.length
  generalize tieF (rowsF mm ns k) mw seats (r1F mm ns seats mw) ns.length = T at *
  refine ⟨comF (dsF mm k), by omega, hmwpos, ?_, ?_⟩
  · rcases ilt_or T.sum seats with q | q
    · exfalso
      have h4 := t4 q
      have : T.sum = (r0F mm ns).sum + cge mw srt := by
        rw [sum_Sg, htl, hr1l, hr0e, e2, ← Sg_const mm.start, ← Sg_add]
        refine Sg_congr fun i hi => ?_
        have hc := cge_cgt (mw := mw) (hanti i hi)
        rcases t3 i hi with h | ⟨h, hm⟩
        · by_cases hm : mw ∈ (rowsF mm ns k).getD i []
          · have := h4 i hi hm
            omega
          · rw [if_neg hm] at hc
            rw [h, hr1 i hi]
            omega
        · rw [if_pos hm] at hc
          rw [h, hr1 i hi]
          omega
      omega
    · omega
  · intro i hi
    have hA := hanti i hi
    have hL := hrlen i hi
    have hr1i := hr1 i hi
    have hci : cgt mw ((rowsF mm ns k).getD i []) < k := by
      have h0 : (cgt mw ((rowsF mm ns k).getD i []) : Int) ≤ cgt mw srt := by
        rw [e1]
        exact Sg_term (f := fun i => (cgt mw ((rowsF mm ns k).getD i []) : Int)) (fun j _ => by omega) hi
      omega
    have hcl : cgt mw ((rowsF mm ns k).getD i []) < ((rowsF mm ns k).getD i []).length := by omega
    generalize hc : cgt mw ((rowsF mm ns k).getD i []) = c at *
    -- the values in the row
    have hval : ∀ j x, ((rowsF mm ns k).getD i [])[j]? = some x → x * mm.d j = ns.getD i 0 * comF (dsF mm k) := fun j x hx => by
      rw [hrow i hi] at hx
      exact (row_get hx).2
    have low : 1 ≤ c → mw * mm.d (c - 1) ≤ ns.getD i 0 * comF (dsF mm k) := fun h1 => by
      have hx := List.getElem?_eq_getElem (l := (rowsF mm ns k).getD i []) (i := c - 1) (by omega)
      have h2 := (cgt_spec (mw := mw) hA hx).mp (by omega)
      rw [← hval _ _ hx]
      exact Int.mul_le_mul_of_nonneg_right (by omega) (by have := d_pos mm (c - 1); omega)
    have hx := List.getElem?_eq_getElem (l := (rowsF mm ns k).getD i []) (i := c) (by omega)
    have h2 : ¬ mw < ((rowsF mm ns k).getD i [])[c] := fun q => by
      have := (cgt_spec (mw := mw) hA hx).mpr q
      omega
    have hup : ns.getD i 0 * comF (dsF mm k) ≤ mw * mm.d c := by
      rw [← hval _ _ hx]
      exact Int.mul_le_mul_of_nonneg_right (by omega) (by have := d_pos mm c; omega)
    rcases t3 i hi with h | ⟨h, hm⟩
    · exact ⟨c, by rw [h, hr1i], hup, low⟩
    · have hat := cgt_at hA hm
      rw [hc] at hat
      have hv := hval _ _ hat
      refine ⟨c + 1, by rw [h, hr1i, Int.natCast_add]; omega, ?_, fun _ => ?_⟩
      · rw [← hv]
        exact Int.mul_le_mul_of_nonneg_left (by have := d_lt mm (show c < c + 1 by omega); omega) (by omega)
      · rw [Nat.add_sub_cancel, hv]
        exact Int.le_refl _
end Ab
end

section
open PySem PySem.W PyProof.Rows
namespace Ab
/-- the seats, all in one -/
theorem div_res {mm : Meth} {ns rs : List Int} {seats : Int} (h : DivRes mm ns seats rs) (hb : ∀ x ∈ ns, 1 ≤ x) (hn : 1 ≤ ns.length) (hs : 1 ≤ seats) (had : mm = .ad → (ns.length : Int) ≤ seats) :
    rs.length = ns.length ∧ rs.sum = seats ∧ (∀ i, i < ns.length → mm.start ≤ rs.getD i 0) ∧ ((∃ C mw, 0 < C ∧ 0 < mw ∧ Drawn mm ns rs C mw) ∨ (mm = .ad ∧ ∀ i, i < ns.length → rs.getD i 0 = 1)) := by
  rcases h with ⟨mw, hmin, hlt, rfl⟩ | ⟨rfl, hge⟩
  · obtain ⟨C, hC, hmw, hsum, hD⟩ := div_main hb hn hmin hlt
    refine ⟨by rw [tieF_length, r1F_length], hsum, fun i hi => ?_, .inl ⟨C, mw, hC, hmw, hD⟩⟩
    obtain ⟨c, hc, _⟩ := hD i hi
    omega
  · have hs0 := r0F_sum mm ns
    have hl : (r0F mm ns).length = ns.length := by simp [r0F]
    cases mm with
    | dh => simp only [Meth.start] at hs0; omega
    | sl => simp only [Meth.start] at hs0; omega
    | ad =>
      simp only [Meth.start] at hs0
      have h1 := had rfl
      refine ⟨hl, by omega, fun i hi => ?_, .inr ⟨rfl, fun i hi => ?_⟩⟩
      · simp [r0F, Meth.start, List.getD, hi]
      · simp [r0F, Meth.start, List.getD, hi]
theorem start_nonneg (mm : Meth) : 0 ≤ mm.start := by cases mm <;> simp [Meth.start]
theorem div_nonneg {mm : Meth} {ns rs : List Int} (hl : rs.length = ns.length) (h : ∀ i, i < ns.length → mm.start ≤ rs.getD i 0) : ∀ x ∈ rs, 0 ≤ x := fun x hx => by
  obtain ⟨i, hi⟩ := List.mem_iff_getElem?.mp hx
  have hil := (List.getElem?_eq_some_iff.mp hi).1
  have h1 := h i (by omega)
  have h2 := start_nonneg mm
  have : rs.getD i 0 = x := by rw [List.getD, hi]; rfl
  omega
theorem sum_at {ns : List Int} (n : Nat) (h : ns.length = n) : ns.sum = Sg (fun i => ns.getD i 0) n := by rw [← h]; exact sum_Sg ns
theorem dh_below {ns rs : List Int} {C mw : Int} (hb : ∀ x ∈ ns, 1 ≤ x) (hl : rs.length = ns.length) (hC : 0 < C) (hmw : 0 < mw) (hs : 0 < rs.sum) (hD : Drawn .dh ns rs C mw) :
    ∀ i, i < ns.length → beAt ns rs i = false := fun k hk => by
  have term : ∀ i, i < ns.length → 0 ≤ rs.getD i 0 ∧ mw * rs.getD i 0 ≤ C * ns.getD i 0 ∧ C * ns.getD i 0 ≤ mw * (rs.getD i 0 + 1) := fun i hi => by
    obtain ⟨c, h1, h2, h3⟩ := hD i hi
    simp only [Meth.start, Meth.d, Int.zero_add] at h1 h2 h3
    rw [h1, Int.mul_comm C]
    refine ⟨by omega, ?_, h2⟩
    by_cases e : 1 ≤ c
    · have := h3 e
      rw [show (((c - 1 : Nat) : Int) + 1) = c by omega] at this
      exact this
    · have : c = 0 := by omega
      subst this
      have h4 := hb _ (getD_mem hi)
      have := Int.mul_nonneg (show 0 ≤ ns.getD i 0 by omega) (show 0 ≤ C by omega)
      simpa using this
  have hdiff : C * ns.getD k 0 - mw * rs.getD k 0 ≤ C * ns.sum - mw * rs.sum := by
    rw [sum_at ns.length rfl, sum_at (ns := rs) ns.length hl, ← Sg_mul, ← Sg_mul, ← Sg_sub]
    exact Sg_term (f := fun i => C * ns.getD i 0 - mw * rs.getD i 0) (fun i hi => by have := term i hi; omega) hk
  obtain ⟨r0, h1, h2⟩ := term k hk
  unfold beAt
  rw [decide_eq_false_iff_not]
  intro hc
  generalize hr : rs.getD k 0 = r at *
  generalize hv : ns.getD k 0 = v at *
  generalize hV : ns.sum = V at *
  generalize hS : rs.sum = S at *
  -- C V ≤ mw S
  have a1 : C * ((r + 1) * V) ≤ C * (v * S) := Int.mul_le_mul_of_nonneg_left hc (by omega)
  have a2 : C * v * S ≤ mw * (r + 1) * S := Int.mul_le_mul_of_nonneg_right h2 (by omega)
  have a3 : (r + 1) * (C * V) ≤ (r + 1) * (mw * S) := by
    have e1 : C * ((r + 1) * V) = (r + 1) * (C * V) := by rw [← Int.mul_assoc, ← Int.mul_assoc, Int.mul_comm C (r + 1)]
    have e2 : C * (v * S) = C * v * S := by rw [Int.mul_assoc]
    have e3 : mw * (r + 1) * S = (r + 1) * (mw * S) := by rw [Int.mul_comm mw (r + 1), Int.mul_assoc]
    omega
  have a4 : C * V ≤ mw * S := Int.le_of_mul_le_mul_left a3 (by omega)
  have a5 : C * v ≤ mw * r := by omega
  have a6 : C * v * S ≤ mw * r * S := Int.mul_le_mul_of_nonneg_right a5 (by omega)
  have a7 : mw * S ≤ C * V := by omega
  have a8 : r * (mw * S) ≤ r * (C * V) := Int.mul_le_mul_of_nonneg_left a7 r0
  have a9 : C * (v * S) ≤ C * (r * V) := by
    have e2 : C * (v * S) = C * v * S := by rw [Int.mul_assoc]
    have e3 : mw * r * S = r * (mw * S) := by rw [Int.mul_comm mw r, Int.mul_assoc]
    have e4 : C * (r * V) = r * (C * V) := by rw [← Int.mul_assoc, ← Int.mul_assoc, Int.mul_comm C r]
    omega
  have b1 : v * S ≤ r * V := Int.le_of_mul_le_mul_left a9 hC
  rw [Int.add_mul, Int.one_mul] at hc
  have b2 : 0 < mw * S := Int.mul_pos hmw hs
  have b3 : 0 < C * V := by omega
  have b4 : 0 < V := by
    rcases ilt_or 0 V with q | q
    · exact q
    · have := Int.mul_nonneg (show 0 ≤ C by omega) (show 0 ≤ -V by omega)
      rw [Int.mul_neg] at this
      omega
  omega
theorem ad_above {ns rs : List Int} {C mw : Int} (hb : ∀ x ∈ ns, 1 ≤ x) (hl : rs.length = ns.length) (hC : 0 < C) (hmw : 0 < mw) (hs : 0 < rs.sum) (hqv0 : 0 < ns.sum) (hD : Drawn .ad ns rs C mw) :
    ∀ i, i < ns.length → abAt ns rs i = false := fun k hk => by
  have term : ∀ i, i < ns.length → 1 ≤ rs.getD i 0 ∧ C * ns.getD i 0 ≤ mw * rs.getD i 0 ∧ mw * (rs.getD i 0 - 1) ≤ C * ns.getD i 0 := fun i hi => by
    obtain ⟨c, h1, h2, h3⟩ := hD i hi
    simp only [Meth.start, Meth.d] at h1 h2 h3
    rw [h1, Int.mul_comm C]
    rw [Int.add_comm (c : Int) 1] at h2
    refine ⟨by omega, h2, ?_⟩
    rw [show (1 : Int) + c - 1 = c by omega]
    by_cases e : 1 ≤ c
    · have := h3 e
      rw [show (((c - 1 : Nat) : Int) + 1) = c by omega] at this
      exact this
    · have : c = 0 := by omega
      subst this
      have h4 := hb _ (getD_mem hi)
      have := Int.mul_nonneg (show 0 ≤ ns.getD i 0 by omega) (show 0 ≤ C by omega)
      simpa using this
  have hdiff : mw * rs.getD k 0 - C * ns.getD k 0 ≤ mw * rs.sum - C * ns.sum := by
    rw [sum_at ns.length rfl, sum_at (ns := rs) ns.length hl, ← Sg_mul, ← Sg_mul, ← Sg_sub]
    exact Sg_term (f := fun i => mw * rs.getD i 0 - C * ns.getD i 0) (fun i hi => by have := term i hi; omega) hk
  obtain ⟨r0, h1, h2⟩ := term k hk
  have hv1 := hb _ (getD_mem hk)
  unfold abAt
  rw [decide_eq_false_iff_not]
  intro hc
  generalize hr : rs.getD k 0 = r at *
  generalize hv : ns.getD k 0 = v at *
  generalize hV : ns.sum = V at *
  generalize hS : rs.sum = S at *
  have hvS : 0 < v * S := Int.mul_pos (by omega) hs
  by_cases e : r = 1
  · subst e
    simp only [Int.sub_self, Int.zero_mul] at hc
    omega
  have a1 : C * (v * S) ≤ C * ((r - 1) * V) := Int.mul_le_mul_of_nonneg_left hc (by omega)
  have a2 : mw * (r - 1) * S ≤ C * v * S := Int.mul_le_mul_of_nonneg_right h2 (by omega)
  have e1 : C * ((r - 1) * V) = (r - 1) * (C * V) := by rw [← Int.mul_assoc, ← Int.mul_assoc, Int.mul_comm C (r - 1)]
  have e2 : C * (v * S) = C * v * S := by rw [Int.mul_assoc]
  have e3 : mw * (r - 1) * S = (r - 1) * (mw * S) := by rw [Int.mul_comm mw (r - 1), Int.mul_assoc]
  have a3 : (r - 1) * (mw * S) ≤ (r - 1) * (C * V) := by omega
  have a4 : mw * S ≤ C * V := Int.le_of_mul_le_mul_left a3 (by omega)
  have a5 : mw * r ≤ C * v := by omega
  have a6 : mw * r * S ≤ C * v * S := Int.mul_le_mul_of_nonneg_right a5 (by omega)
  have e4 : mw * r * S = r * (mw * S) := by rw [Int.mul_comm mw r, Int.mul_assoc]
  have a7 : C * V ≤ mw * S := by
    have : C * v ≤ mw * r := h1
    omega
  have a8 : (r - 1) * (C * V) ≤ (r - 1) * (mw * S) := Int.mul_le_mul_of_nonneg_left a7 (by omega)
  have e5 : (r - 1) * (mw * S) = r * (mw * S) - mw * S := by rw [Int.sub_mul, Int.one_mul]
  have b1 := Int.mul_pos hmw hs
  omega
theorem ones_above {ns rs : List Int} (hb : ∀ x ∈ ns, 1 ≤ x) (hs : 0 < rs.sum) (h : ∀ i, i < ns.length → rs.getD i 0 = 1) : ∀ i, i < ns.length → abAt ns rs i = false := fun k hk => by
  unfold abAt
  rw [decide_eq_false_iff_not, h k hk]
  intro hc
  have h1 := hb _ (getD_mem hk)
  have h2 := Int.mul_pos (show 0 < ns.getD k 0 by omega) hs
  simp only [Int.sub_self, Int.zero_mul] at hc
  omega
theorem wiF_true {ns rs : List Int} : ∀ {n : Nat}, (∀ i, i < n → abAt ns rs i = false ∧ beAt ns rs i = false) → wiF ns rs n = true
  | 0, _ => rfl
  | n + 1, h => by
    have h1 := h n (by omega)
    rw [wiF, wiF_true fun i hi => h i (by omega), h1.1, h1.2]
    rfl
/-- the others -/
theorem Sg_others {f : Nat → Int} {lo : Int} : ∀ {n k : Nat}, (∀ i, i < n → lo ≤ f i) → k < n → f k + ((n : Int) - 1) * lo ≤ Sg f n
  | n + 1, k, h, hk => by
    simp only [Sg]
    have h1 := h n (by omega)
    rw [show ((n + 1 : Nat) : Int) - 1 = n by omega]
    by_cases e : k = n
    · subst e
      have h2 := Sg_le (f := fun _ => lo) (g := f) (n := k) fun i hi => h i (by omega)
      rw [Sg_const] at h2
      omega
    · have h2 := Sg_others (n := n) (k := k) (fun i hi => h i (by omega)) (by omega)
      have h3 : ((n : Int) - 1) * lo = n * lo - lo := by rw [Int.sub_mul, Int.one_mul]
      omega
theorem sl_within {ns rs : List Int} {C mw : Int} (hb : ∀ x ∈ ns, 1 ≤ x) (hl : rs.length = ns.length) (hn : 2 ≤ ns.length ∧ ns.length ≤ 3) (hC : 0 < C) (hmw : 0 < mw) (hD : Drawn .sl ns rs C mw) :
    ∀ k, k < ns.length → abAt ns rs k = false ∧ beAt ns rs k = false := fun k hk => by
  have term : ∀ i, i < ns.length → 0 ≤ rs.getD i 0 ∧ C * ns.getD i 0 ≤ mw * (2 * rs.getD i 0 + 1) ∧ mw * (2 * rs.getD i 0 - 1) ≤ C * ns.getD i 0 := fun i hi => by
    obtain ⟨c, h1, h2, h3⟩ := hD i hi
    simp only [Meth.start, Meth.d, Int.zero_add] at h1 h2 h3
    rw [h1, Int.mul_comm C]
    refine ⟨by omega, h2, ?_⟩
    by_cases e : 1 ≤ c
    · have := h3 e
      rw [show (2 * ((c - 1 : Nat) : Int) + 1) = 2 * (c : Int) - 1 by omega] at this
      exact this
    · have : c = 0 := by omega
      subst this
      have h4 := hb _ (getD_mem hi)
      have := Int.mul_nonneg (show 0 ≤ ns.getD i 0 by omega) (show 0 ≤ C by omega)
      rw [show (2 * ((0 : Nat) : Int) - 1) = -1 by decide, Int.mul_neg, Int.mul_one]
      omega
  have hpos : ∀ i, i < ns.length → C ≤ C * ns.getD i 0 := fun i hi => by
    have h4 := hb _ (getD_mem hi)
    have := Int.mul_le_mul_of_nonneg_left h4 (show 0 ≤ C by omega)
    omega
  have ex : ∀ i, mw * (2 * rs.getD i 0 + 1) = 2 * mw * rs.getD i 0 + mw := fun i => by rw [Int.mul_add, Int.mul_one, ← Int.mul_assoc, Int.mul_comm mw 2]
  have ex' : ∀ i, mw * (2 * rs.getD i 0 - 1) = 2 * mw * rs.getD i 0 - mw := fun i => by rw [Int.mul_sub, Int.mul_one, ← Int.mul_assoc, Int.mul_comm mw 2]
  have hsC : C * ns.sum = Sg (fun i => C * ns.getD i 0) ns.length := by rw [sum_at ns.length rfl, Sg_mul]
  -- the others, from below and from above
  have o1 : C * ns.getD k 0 + C ≤ C * ns.sum := by
    have := Sg_others (f := fun i => C * ns.getD i 0) (lo := C) (n := ns.length) (k := k) hpos hk
    rw [hsC]
    have h5 : C ≤ ((ns.length : Int) - 1) * C := by
      have := Int.mul_le_mul_of_nonneg_right (show (1 : Int) ≤ (ns.length : Int) - 1 by omega) (show 0 ≤ C by omega)
      omega
    omega
  have h6 : ((ns.length : Int) - 1) * mw ≤ 2 * mw := Int.mul_le_mul_of_nonneg_right (by omega) (by omega)
  have hlo : ∀ (x : Int), x * (-mw) = -(x * mw) := fun x => by rw [Int.mul_neg]
  have o2 : (C * ns.getD k 0 - 2 * mw * rs.getD k 0) - 2 * mw ≤ C * ns.sum - 2 * mw * rs.sum := by
    have := Sg_others (f := fun i => C * ns.getD i 0 - 2 * mw * rs.getD i 0) (lo := -mw) (n := ns.length) (k := k) (fun i hi => by have := term i hi; rw [ex, ex'] at this; omega) hk
    rw [Sg_sub, Sg_mul, Sg_mul, ← sum_at ns.length rfl, ← sum_at (ns := rs) ns.length hl, hlo] at this
    omega
  have o3 : (2 * mw * rs.getD k 0 - C * ns.getD k 0) - 2 * mw ≤ 2 * mw * rs.sum - C * ns.sum := by
    have := Sg_others (f := fun i => 2 * mw * rs.getD i 0 - C * ns.getD i 0) (lo := -mw) (n := ns.length) (k := k) (fun i hi => by have := term i hi; rw [ex, ex'] at this; omega) hk
    rw [Sg_sub, Sg_mul, Sg_mul, ← sum_at ns.length rfl, ← sum_at (ns := rs) ns.length hl, hlo] at this
    omega
  have hS : rs.getD k 0 ≤ rs.sum := by
    rw [sum_at (ns := rs) ns.length hl]
    exact Sg_term (f := fun i => rs.getD i 0) (fun i hi => (term i hi).1) hk
  obtain ⟨r0, h1, h2⟩ := term k hk
  have hx := hpos k hk
  rw [ex] at h1
  rw [ex'] at h2
  generalize hr : rs.getD k 0 = r at *
  generalize hv : ns.getD k 0 = v at *
  generalize hV : ns.sum = V at *
  generalize hS' : rs.sum = S at *
  -- the products
  have m1 : C * (v * S) = C * v * S := by rw [Int.mul_assoc]
  have m2 : ∀ q : Int, C * (q * V) = q * (C * V) := fun q => by rw [← Int.mul_assoc, ← Int.mul_assoc, Int.mul_comm C q]
  generalize hX : C * v = x at *
  generalize hY : C * V = y at *
  have n1 : 2 * mw * (S - r) = 2 * mw * S - 2 * mw * r := by rw [Int.mul_sub]
  constructor
  · unfold abAt
    rw [decide_eq_false_iff_not, hr, hv, hV, hS']
    intro hc
    have a1 : C * (v * S) ≤ C * ((r - 1) * V) := Int.mul_le_mul_of_nonneg_left hc (by omega)
    rw [m1, m2] at a1
    -- x S ≤ (r-1) y
    have a2 : x * (S - r + 1) ≤ (r - 1) * (y - x) := by
      have e1 : x * (S - r + 1) = x * S - x * (r - 1) := by rw [← Int.mul_sub]; congr 1; omega
      have e2 : (r - 1) * (y - x) = (r - 1) * y - x * (r - 1) := by rw [Int.mul_sub, Int.mul_comm x]
      omega
    have hq : 1 ≤ S - r + 1 := by omega
    by_cases e : r = 0
    · subst e
      have := Int.mul_pos (show 0 < x by omega) (show 0 < S - 0 + 1 by omega)
      rw [Int.zero_sub, Int.neg_mul, Int.one_mul] at a2
      omega
    · have hy : y - x ≤ 2 * mw * (S - r + 1) := by rw [Int.mul_add, Int.mul_one]; omega
      have a3 : (r - 1) * (y - x) ≤ (r - 1) * (2 * mw * (S - r + 1)) := Int.mul_le_mul_of_nonneg_left hy (by omega)
      have e3 : (r - 1) * (2 * mw * (S - r + 1)) = (2 * mw * (r - 1)) * (S - r + 1) := by rw [← Int.mul_assoc, Int.mul_comm (r - 1)]
      have a4 : x * (S - r + 1) ≤ (2 * mw * (r - 1)) * (S - r + 1) := by omega
      have a5 : x ≤ 2 * mw * (r - 1) := Int.le_of_mul_le_mul_right a4 (by omega)
      rw [Int.mul_sub, Int.mul_one] at a5
      omega
  · unfold beAt
    rw [decide_eq_false_iff_not, hr, hv, hV, hS']
    intro hc
    have a1 : C * ((r + 1) * V) ≤ C * (v * S) := Int.mul_le_mul_of_nonneg_left hc (by omega)
    rw [m1, m2] at a1
    have a2 : (r + 1) * (y - x) ≤ x * (S - r - 1) := by
      have e1 : x * (S - r - 1) = x * S - x * (r + 1) := by rw [← Int.mul_sub]; congr 1; omega
      have e2 : (r + 1) * (y - x) = (r + 1) * y - x * (r + 1) := by rw [Int.mul_sub, Int.mul_comm x]
      omega
    by_cases e : 1 ≤ S - r - 1
    · have hy : 2 * mw * (S - r - 1) ≤ y - x := by rw [Int.mul_sub, Int.mul_one]; omega
      have a3 : (r + 1) * (2 * mw * (S - r - 1)) ≤ (r + 1) * (y - x) := Int.mul_le_mul_of_nonneg_left hy (by omega)
      have e3 : (r + 1) * (2 * mw * (S - r - 1)) = (2 * mw * (r + 1)) * (S - r - 1) := by rw [← Int.mul_assoc, Int.mul_comm (r + 1)]
      have a4 : (2 * mw * (r + 1)) * (S - r - 1) ≤ x * (S - r - 1) := by omega
      have a5 : 2 * mw * (r + 1) ≤ x := Int.le_of_mul_le_mul_right a4 (by omega)
      rw [Int.mul_add, Int.mul_one] at a5
      omega
    · have b1 := Int.mul_pos (show 0 < r + 1 by omega) (show 0 < y - x by omega)
      have b2 := Int.mul_nonneg (show 0 ≤ x by omega) (show 0 ≤ -(S - r - 1) by omega)
      rw [Int.mul_neg] at b2
      omega
/-! within_quota is the same test -/
theorem lt_fdiv {a V r : Int} (hV : 0 < V) : (r < a.fdiv V) ↔ (r + 1) * V ≤ a := by
  rw [Int.fdiv_eq_ediv_of_nonneg _ (by omega), ← Int.le_ediv_iff_mul_le hV]
  omega
theorem wqAt_eq {ns rs : List Int} (h : 0 < ns.sum) (i : Nat) : wqAt ns rs i = (!abAt ns rs i && !beAt ns rs i) := by
  unfold wqAt abAt beAt
  have e1 : decide (-((-(ns.getD i 0) * rs.sum).fdiv ns.sum) < rs.getD i 0) = decide (ns.getD i 0 * rs.sum ≤ (rs.getD i 0 - 1) * ns.sum) := by
    apply decide_eq_decide.mpr
    have q := lt_fdiv (a := -(ns.getD i 0) * rs.sum) (V := ns.sum) (r := -rs.getD i 0) h
    have e : (-rs.getD i 0 + 1) * ns.sum = -((rs.getD i 0 - 1) * ns.sum) := by rw [← Int.neg_mul]; congr 1; omega
    rw [e, Int.neg_mul] at q
    rw [Int.neg_mul]
    constructor
    · intro hh; have := q.mp (by omega); omega
    · intro hh; have := q.mpr (by omega); omega
  rw [e1, decide_eq_decide.mpr (lt_fdiv (a := ns.getD i 0 * rs.sum) (V := ns.sum) (r := rs.getD i 0) h)]
theorem wq_eqn {ns rs : List Int} (h : 0 < ns.sum) : ∀ n, wqF ns rs n = wiF ns rs n
  | 0 => rfl
  | n + 1 => by rw [wqF, wiF, wq_eqn h n, wqAt_eq h]
theorem wq_eq {ns rs : List Int} (h : 0 < ns.sum) (hql : rs.length = ns.length) : wqF ns rs ns.length = wiF ns rs ns.length := wq_eqn h _
/-! what is drawn -/
theorem votesF_length (sc : List Int) (n : Nat) : (votesF sc n).length = n := by rw [votesF, List.length_map, rangeKs_length]
theorem topF_bounds (x : Int) : 1 ≤ topF x ∧ topF x ≤ 10 ^ 12 := by
  unfold topF
  have h1 := fmod_lo x (n := 4) (by decide)
  have h2 := fmod_hi x (n := 4) (by decide)
  generalize x.fmod 4 = y at *
  have : y = 0 ∨ y = 1 ∨ y = 2 ∨ y = 3 := by omega
  rcases this with rfl | rfl | rfl | rfl <;> decide
theorem votesF_bounds (sc : List Int) (n : Nat) : ∀ x ∈ votesF sc n, 1 ≤ x ∧ x ≤ 10 ^ 12 := fun x hx => by
  simp only [votesF, List.mem_map] at hx
  obtain ⟨k, _, rfl⟩ := hx
  obtain ⟨t1, t2⟩ := topF_bounds (cellF sc 1)
  have h1 := fmod_lo (cellF sc (3 + k)) (n := topF (cellF sc 1)) (by omega)
  have h2 := fmod_hi (cellF sc (3 + k)) (n := topF (cellF sc 1)) (by omega)
  omega
theorem sum_bounds {a b : Int} : ∀ {l : List Int}, (∀ x ∈ l, a ≤ x ∧ x ≤ b) → l.length * a ≤ l.sum ∧ l.sum ≤ l.length * b
  | [], _ => by simp
  | x :: l, h => by
    have h1 := h x List.mem_cons_self
    have h2 := sum_bounds (l := l) fun y hy => h y (List.mem_cons_of_mem _ hy)
    simp only [List.sum_cons, List.length_cons, Int.natCast_add, Int.add_mul]
    omega
theorem votes_sum {ns : List Int} (h : ∀ x ∈ ns, 1 ≤ x ∧ x ≤ 10 ^ 12) (h1 : 1 ≤ ns.length) (h2 : ns.length ≤ 5) : 0 < ns.sum ∧ ns.sum < 10 ^ 13 := by
  obtain ⟨a, b⟩ := sum_bounds h
  have : (ns.length : Int) * 10 ^ 12 ≤ 5 * 10 ^ 12 := Int.mul_le_mul_of_nonneg_right (by omega) (by decide)
  omega
theorem drawn_sum (sc : List Int) (n : Nat) (hn : n ≤ 5) : ((rangeKs 0 n).map fun k => (cellF sc (10 + k)).fmod 6).length = n ∧
    (0 ≤ ((rangeKs 0 n).map fun k => (cellF sc (10 + k)).fmod 6).sum ∧ ((rangeKs 0 n).map fun k => (cellF sc (10 + k)).fmod 6).sum ≤ 100) := by
  have hl : ((rangeKs 0 n).map fun k => (cellF sc (10 + k)).fmod 6).length = n := by rw [List.length_map, rangeKs_length]
  obtain ⟨a, b⟩ := sum_bounds (a := 0) (b := 5) (l := (rangeKs 0 n).map fun k => (cellF sc (10 + k)).fmod 6) fun x hx => by
    simp only [List.mem_map] at hx
    obtain ⟨k, _, rfl⟩ := hx
    have h1 := fmod_lo (cellF sc (10 + k)) (n := 6) (by decide)
    have h2 := fmod_hi (cellF sc (10 + k)) (n := 6) (by decide)
    omega
  refine ⟨hl, ?_, ?_⟩ <;> omega
/-! the three methods, as the law asks -/
theorem law_dh {ns rs : List Int} {seats : Int} (h : DivRes .dh ns seats rs) (hb : ∀ x ∈ ns, 1 ≤ x ∧ x ≤ 10 ^ 12) (hn : 2 ≤ ns.length) (hs : 1 ≤ seats) :
    rs.length = ns.length ∧ rs.sum = seats ∧ (∀ x ∈ rs, 0 ≤ x) ∧ (∀ i, i < ns.length → beAt ns rs i = false) := by
  obtain ⟨a, b, c, d⟩ := div_res h (fun x hx => (hb x hx).1) (by omega) hs (fun e => nomatch e)
  refine ⟨a, b, div_nonneg a c, ?_⟩
  rcases d with ⟨C, mw, hC, hmw, hD⟩ | ⟨e, _⟩
  · exact dh_below (fun x hx => (hb x hx).1) a hC hmw (by omega) hD
  · cases e
theorem law_ad {ns rs : List Int} {seats : Int} (h : DivRes .ad ns seats rs) (hb : ∀ x ∈ ns, 1 ≤ x ∧ x ≤ 10 ^ 12) (hn : 2 ≤ ns.length) (hn5 : ns.length ≤ 5) (hs : 1 ≤ seats) (had : (ns.length : Int) ≤ seats) :
    rs.length = ns.length ∧ rs.sum = seats ∧ (∀ x ∈ rs, 0 ≤ x) ∧ (∀ i, i < ns.length → abAt ns rs i = false) := by
  obtain ⟨a, b, c, d⟩ := div_res h (fun x hx => (hb x hx).1) (by omega) hs (fun _ => had)
  have hv := votes_sum hb (by omega) hn5
  refine ⟨a, b, div_nonneg a c, ?_⟩
  rcases d with ⟨C, mw, hC, hmw, hD⟩ | ⟨_, h1⟩
  · exact ad_above (fun x hx => (hb x hx).1) a hC hmw (by omega) hv.1 hD
  · exact ones_above (fun x hx => (hb x hx).1) (by omega) h1
theorem law_sl {ns rs : List Int} {seats : Int} (h : DivRes .sl ns seats rs) (hb : ∀ x ∈ ns, 1 ≤ x ∧ x ≤ 10 ^ 12) (hn : 2 ≤ ns.length ∧ ns.length ≤ 3) (hs : 1 ≤ seats) :
    rs.length = ns.length ∧ rs.sum = seats ∧ (∀ x ∈ rs, 0 ≤ x) ∧ wiF ns rs ns.length = true := by
  obtain ⟨a, b, c, d⟩ := div_res h (fun x hx => (hb x hx).1) (by omega) hs (fun e => nomatch e)
  refine ⟨a, b, div_nonneg a c, ?_⟩
  rcases d with ⟨C, mw, hC, hmw, hD⟩ | ⟨e, _⟩
  · exact wiF_true (sl_within (fun x hx => (hb x hx).1) a hn hC hmw hD)
  · cases e
end Ab
end

section
open PySem PySem.W PyProof.Rows PySem.Spec PySem.Calls
namespace Ab
set_option maxRecDepth 100000
set_option maxHeartbeats 16000000
section
variable {prog : Program} {w : World} {A : Around} {s : Shared} {args : List Value} {Q E : Value → Shared → Prop}
theorem stop40 (h : Stop (wpAny (model prog w) A (call (.ref 40) args) Q E s)) : wpAny (model prog w) A (call (.ref 40) args) Q E s := Stop.intro h
theorem stop34 (h : Stop (wpAny (model prog w) A (call (.ref 34) args) Q E s)) : wpAny (model prog w) A (call (.ref 34) args) Q E s := Stop.intro h
theorem stop66 (h : Stop (wpAny (model prog w) A (call (.ref 66) args) Q E s)) : wpAny (model prog w) A (call (.ref 66) args) Q E s := Stop.intro h
theorem stop73 (h : Stop (wpAny (model prog w) A (call (.ref 73) args) Q E s)) : wpAny (model prog w) A (call (.ref 73) args) Q E s := Stop.intro h
theorem stop59 (h : Stop (wpAny (model prog w) A (call (.ref 59) args) Q E s)) : wpAny (model prog w) A (call (.ref 59) args) Q E s := Stop.intro h
theorem stop80 (h : Stop (wpAny (model prog w) A (call (.ref 80) args) Q E s)) : wpAny (model prog w) A (call (.ref 80) args) Q E s := Stop.intro h
end
local macro_rules | `(tactic| walk_at "call ref") => `(tactic| ((with_reducible first | refine stop40 ?_ | refine stop34 ?_ | refine stop66 ?_ | refine stop73 ?_ | refine stop80 ?_ | refine stop54 ?_ | refine stop59 ?_)))

theorem news_less {h₀ h : Heap} {L r : Addr} {l : List (Addr × Obj)} (N : News h₀ L h l) (hn : h.get? r = none) : ∀ p ∈ l, @Ne Nat p.1 r := fun p hp e => by
  have h1 := (N p hp).1
  rw [show p.1 = r from e, hn] at h1
  cases h1
theorem news_add {h₀ h h' : Heap} {L r : Addr} {o : Obj} {m : Str → Option Value} {l : List (Addr × Obj)} (F : Fr h₀ L h m) (kk : Kept h h') (N : News h₀ L h l) (hg : h'.get? r = some o) (hn : h.get? r = none) : News h₀ L h' ((r, o) :: l) := fun p hp => by
  rcases List.mem_cons.mp hp with e | hp
  · subst e
    refine ⟨hg, ?_, ?_⟩
    · intro e
      obtain ⟨o', es, ep, h1, h2⟩ := F.ns
      rw [← show r = L from e, hn] at h1
      cases h1
    · cases e : h₀.get? r with
      | none => rfl
      | some o' => rw [F.keep _ _ e] at hn; cases hn
  · exact ⟨kk _ _ (N p hp).1, (N p hp).2⟩

local macro_rules | `(tactic| walk_at "exec For Name Call cons nil") => `(tactic| (refine Stop.intro ?_))
local macro_rules | `(tactic| walk_at "pyIter ref") => `(tactic| ((with_reducible show wpAny _ _ (pyIter (Value.ref _)) (fun it s₂ => LoopAtV _ _ _ _ _ _ _ _ _ it s₂) _ _); refine Stop.intro ?_))
local macro_rules | `(tactic| walk_at "CompSrc") => `(tactic| (refine Stop.intro ?_))
local macro_rules | `(tactic| walk_at "KCfEl") => `(tactic| (refine Stop.intro ?_))
theorem law_holds : PySem.Challenge.rw_ab5004_01.Holds := hd (by
  k_go0
  (all_goals try k_fold)
  rename CellsAre _ _ _ => w0
  rename Fr _ _ _ _ => FF
  rename Obj.data _ = _ => DD
  rename IntsAre _ _ => II
  rename List Int => sc
  clear w0
  have F1 : Fr _ _ _ (fun _ => none) := FF
  clear FF
  rename Heap.IsList _ _ _ => HL
  replace DD : Obj.data _ = .cell (some (.ref _)) := DD
  have hsl : sc.length < 1000 := by omega
  k_steps
  refine Stop.out ?_
  (with_unfolding_all refine' cell_con (sc := sc) ?cBa ?cFa ?cXa ?cTa ?cKa ?cl1a ?ci1a ?cda ?c1a ?c2a ?c3a ?cRa); (case cBa => k_asm); (case cFa => k_asm); (case cXa => k_asm); (case cTa => k_asm); (case cKa => exact rfl); (case cl1a => is_list); (case ci1a => assumption); (case cda => ktr_room); (case c1a => first | assumption | omega); (case c2a => first | assumption | omega); (case c3a => first | assumption | omega); intro h9 tk9 tc9 kk9; (rename Fr _ _ _ _ => lF'); (rename News _ _ _ _ => lN'); (have F9 := Fr.keeps lF' kk9); (have N9 := News.grown lN' kk9); clear lF' lN' kk9; (try k_sweep)
  k_steps
  refine Stop.out ?_
  have hpa : 0 ≤ (cellF sc 0).fmod 4 := fmod_lo _ (by decide)
  have hpb : (cellF sc 0).fmod 4 < 4 := fmod_hi _ (by decide)
  rename Fr _ _ _ _ => FB
  obtain ⟨par, hpar, hp1, hp2⟩ : ∃ par, 2 + (cellF sc 0).fmod 4 = par ∧ 2 ≤ par ∧ par ≤ 5 := ⟨_, rfl, by omega, by omega⟩
  rw [hpar] at FB
  rw [hpar]
  clear hpa hpb
  (with_unfolding_all refine' votes_con (sc := sc) ?cBb ?cFb ?cXb ?cTb ?cKb ?cl1b ?ci1b ?cdb ?c1b ?c2b ?c3b ?cRb); (case cBb => k_asm); (case cFb => k_asm); (case cXb => k_asm); (case cTb => k_asm); (case cKb => exact rfl); (case cl1b => is_list); (case ci1b => assumption); (case cdb => ktr_room); (case c1b => first | assumption | omega); (case c2b => first | assumption | omega); (case c3b => first | assumption | omega); intro rb ysb h9 tk9 kk9 hg9 hn9 hI9; (rename Fr _ _ _ _ => lF'); (rename News _ _ _ _ => lN'); (have F9 := Fr.keeps lF' kk9); (have N9 := news_add lF' kk9 lN' hg9 hn9); clear lF' lN' kk9 hg9 hn9; (try k_sweep)
  obtain ⟨ns, hns, hlen, hbnd⟩ : ∃ ns, IntsAre ysb ns ∧ (ns.length : Int) = par ∧ ∀ x ∈ ns, 1 ≤ x ∧ x ≤ 10 ^ 12 := ⟨_, hI9, by rw [votesF_length]; omega, votesF_bounds _ _⟩
  obtain ⟨hs0, hs1⟩ := votes_sum hbnd (by omega) (by omega)
  clear hI9
  k_steps
  refine Stop.out ?_
  (with_unfolding_all refine' cell_con (sc := sc) ?cBc ?cFc ?cXc ?cTc ?cKc ?cl1c ?ci1c ?cdc ?c1c ?c2c ?c3c ?cRc); (case cBc => k_asm); (case cFc => k_asm); (case cXc => k_asm); (case cTc => k_asm); (case cKc => exact rfl); (case cl1c => is_list); (case ci1c => assumption); (case cdc => ktr_room); (case c1c => first | assumption | omega); (case c2c => first | assumption | omega); (case c3c => first | assumption | omega); intro h9 tk9 tc9 kk9; (rename Fr _ _ _ _ => lF'); (rename News _ _ _ _ => lN'); (have F9 := Fr.keeps lF' kk9); (have N9 := News.grown lN' kk9); clear lF' lN' kk9; (try k_sweep)
  have h2a : 0 ≤ (cellF sc 2).fmod 10 := fmod_lo _ (by decide)
  have h2b : (cellF sc 2).fmod 10 < 10 := fmod_hi _ (by decide)
  k_steps
  refine Stop.out ?_
  (with_unfolding_all refine' div_con _ _ _ _ _ _ _ _ _ _ _ _ _ _ _ _ _ ns (par + (cellF sc 2).fmod 10) .dh _ _ _ _ ?cBd ?cFd ?cXd ?cTd ?cKd ?cl1d ?ci1d ?cdd ?cud ?c1d ?c2d ?c3d ?c4d ?cRd); (case cBd => k_asm); (case cFd => k_asm); (case cXd => k_asm); (case cTd => k_asm); (case cKd => exact rfl); (case cl1d => is_list); (case ci1d => assumption); (case cdd => ktr_room); (case cud => ktr_room); (case c1d => first | assumption | omega | (intro hx; first | omega | cases hx)); (case c2d => first | assumption | omega | (intro hx; first | omega | cases hx)); (case c3d => first | assumption | omega | (intro hx; first | omega | cases hx)); (case c4d => first | assumption | omega | (intro hx; first | omega | cases hx)); intro rd ysd kqd rs9 h9 tk9 kk9 hg9 hn9 hI9 hDR9; (rename Fr _ _ _ _ => lF'); (rename News _ _ _ _ => lN'); (have F9 := Fr.keeps lF' kk9); (have N9 := news_add lF' kk9 lN' hg9 hn9); clear lF' lN' kk9 hg9 hn9; (try k_sweep)
  obtain ⟨lo, hlo, hlo1, hlo2, hlo3, hlo4⟩ : ∃ lo, IntsAre ysd lo ∧ lo.length = ns.length ∧ lo.sum = par + (cellF sc 2).fmod 10 ∧ (∀ x ∈ lo, 0 ≤ x) ∧ (∀ i, i < ns.length → beAt ns lo i = false) := ⟨_, hI9, law_dh hDR9 hbnd (by omega) (by omega)⟩
  clear hI9 hDR9
  k_steps
  refine Stop.out ?_
  (with_unfolding_all refine' div_con _ _ _ _ _ _ _ _ _ _ _ _ _ _ _ _ _ ns (par + (cellF sc 2).fmod 10) .ad _ _ _ _ ?cBe ?cFe ?cXe ?cTe ?cKe ?cl1e ?ci1e ?cde ?cue ?c1e ?c2e ?c3e ?c4e ?cRe); (case cBe => k_asm); (case cFe => k_asm); (case cXe => k_asm); (case cTe => k_asm); (case cKe => exact rfl); (case cl1e => is_list); (case ci1e => assumption); (case cde => ktr_room); (case cue => ktr_room); (case c1e => first | assumption | omega | (intro hx; first | omega | cases hx)); (case c2e => first | assumption | omega | (intro hx; first | omega | cases hx)); (case c3e => first | assumption | omega | (intro hx; first | omega | cases hx)); (case c4e => first | assumption | omega | (intro hx; first | omega | cases hx)); intro re yse kqe rs9 h9 tk9 kk9 hg9 hn9 hI9 hDR9; (rename Fr _ _ _ _ => lF'); (rename News _ _ _ _ => lN'); (have F9 := Fr.keeps lF' kk9); (have N9 := news_add lF' kk9 lN' hg9 hn9); clear lF' lN' kk9 hg9 hn9; (try k_sweep)
  obtain ⟨hig, hhi, hhi1, hhi2, hhi3, hhi4⟩ : ∃ lo, IntsAre yse lo ∧ lo.length = ns.length ∧ lo.sum = par + (cellF sc 2).fmod 10 ∧ (∀ x ∈ lo, 0 ≤ x) ∧ (∀ i, i < ns.length → abAt ns lo i = false) := ⟨_, hI9, law_ad hDR9 hbnd (by omega) (by omega) (by omega) (by omega)⟩
  clear hI9 hDR9
  have hp5 : PySem.Flt.Hid (par ≤ 5) := PySem.Flt.Hid.mk hp2
  have hq : par ≤ 1000 := by omega
  clear hp2
  k_steps
  refine Stop.out ?_
  rename Fr _ _ _ _ => FA
  (with_unfolding_all refine' For_invVF FA ?q1 ?q2 ?q3)
  case q1 => exact rfl
  case q2 => exact rfl
  k_steps
  refine Stop.out ?_
  rename Shared => S1
  rename Obj => wC
  rename Heap => hC
  rename Fr _ _ _ _ => FB
  rename News _ _ _ _ => NB
  rename IsRange _ _ _ _ _ _ _ _ => hR1
  obtain ⟨ta, tb, FC⟩ : ∃ ta tb, Fr S1.heap S1.heap.objs.size hC (fun y => if y = Str.ofString "high" then some (.ref re) else if y = Str.ofString "low" then some (.ref rd) else if y = Str.ofString "seats" then some (.int (par + (cellF sc 2).fmod 10) ta) else if y = Str.ofString "votes" then some (.ref rb) else if y = Str.ofString "parties" then some (.int par tb) else none) := ⟨_, _, FB⟩
  have NC : News S1.heap S1.heap.objs.size hC [(re, listOf yse.toArray kqe), (rd, listOf ysd.toArray kqd), (rb, LCg.lst ysb), (S1.heap.objs.size + 1, wC)] := nsub NB (by kcf_all)
  clear FB NB
  refine range_loop (n := par.toNat) (fun i m nw => (∃ u2 : Str → Option Value, m = (fun y => if y = Str.ofString "k" then u2 y else if y = Str.ofString "high" then some (.ref re) else if y = Str.ofString "low" then some (.ref rd) else if y = Str.ofString "seats" then some (.int (par + (cellF sc 2).fmod 10) ta) else if y = Str.ofString "votes" then some (.ref rb) else if y = Str.ofString "parties" then some (.int par tb) else none)) ∧ nw = [(re, listOf yse.toArray kqe), (rd, listOf ysd.toArray kqd), (rb, LCg.lst ysb), (S1.heap.objs.size + 1, wC)]) (by rfl) hR1 (small_one (by omega) (by omega) (by omega) (by omega)) ((rangeSize_nat _ _).trans (by rw [Int.sub_zero])) FC NC ?hjT ?turnT ?doneT
  case hjT =>
    refine ⟨⟨fun y => if y = Str.ofString "high" then some (.ref re) else if y = Str.ofString "low" then some (.ref rd) else if y = Str.ofString "seats" then some (.int (par + (cellF sc 2).fmod 10) ta) else if y = Str.ofString "votes" then some (.ref rb) else if y = Str.ofString "parties" then some (.int par tb) else none, ?_⟩, rfl⟩
    funext y
    simp only [ite_self]
  case turnT =>
    rintro i m₁ nx h tk own ti hin hoff ⟨⟨u2, rfl⟩, rfl⟩ F N
    have hia : ((i : Nat) : Int) < ns.length := by omega
    have hib : 0 ≤ ((i : Nat) : Int) := by omega
    have hp2 := hp5.out
    k_steps
    refine Stop.out ?_
    (with_unfolding_all refine' be_con ?cBf ?cFf ?cXf ?cTf ?cKf ?cl1f ?ci1f ?cl2f ?ci2f ?cdf ?c1f ?c2f ?c3f ?c4f ?c5f ?c6f ?c7f ?cRf); (case cBf => k_asm); (case cFf => k_asm); (case cXf => k_asm); (case cTf => k_asm); (case cKf => exact rfl); (case cl1f => is_list); (case ci1f => assumption); (case cl2f => is_list); (case ci2f => assumption); (case cdf => ktr_room); (case c1f => first | assumption | omega | ktr_room); (case c2f => first | assumption | omega | ktr_room); (case c3f => first | assumption | omega | ktr_room); (case c4f => first | assumption | omega | ktr_room); (case c5f => first | assumption | omega | ktr_room); (case c6f => first | assumption | omega | ktr_room); (case c7f => first | assumption | omega | ktr_room); intro h9 tk9 kk9; (rename Fr _ _ _ _ => lF'); (rename News _ _ _ _ => lN'); (have F9 := Fr.keeps lF' kk9); (have N9 := News.grown lN' kk9); clear lF' lN' kk9; (try k_sweep)
    rw [Int.toNat_natCast, hlo4 i (by omega)]
    k_steps
    refine Stop.out ?_
    (with_unfolding_all refine' ab_con ?cBg ?cFg ?cXg ?cTg ?cKg ?cl1g ?ci1g ?cl2g ?ci2g ?cdg ?c1g ?c2g ?c3g ?c4g ?c5g ?c6g ?c7g ?cRg); (case cBg => k_asm); (case cFg => k_asm); (case cXg => k_asm); (case cTg => k_asm); (case cKg => exact rfl); (case cl1g => is_list); (case ci1g => assumption); (case cl2g => is_list); (case ci2g => assumption); (case cdg => ktr_room); (case c1g => first | assumption | omega | ktr_room); (case c2g => first | assumption | omega | ktr_room); (case c3g => first | assumption | omega | ktr_room); (case c4g => first | assumption | omega | ktr_room); (case c5g => first | assumption | omega | ktr_room); (case c6g => first | assumption | omega | ktr_room); (case c7g => first | assumption | omega | ktr_room); intro h9 tk9 kk9; (rename Fr _ _ _ _ => lF'); (rename News _ _ _ _ => lN'); (have F9 := Fr.keeps lF' kk9); (have N9 := News.grown lN' kk9); clear lF' lN' kk9; (try k_sweep)
    rw [Int.toNat_natCast, hhi4 i (by omega)]
    k_steps
    refine ⟨_, _, _, _, [(re, listOf yse.toArray kqe), (rd, listOf ysd.toArray kqd), (rb, LCg.lst ysb), (S1.heap.objs.size + 1, wC)], rfl, F9, N9, ?_, ?_, hoff, ⟨fun _ => some (.int i ti), ?_⟩, rfl⟩
    · kcf_all
    · kcf_all
    · exact ite_same
  case doneT =>
    rintro m₁ nx h tk ⟨⟨u2, rfl⟩, rfl⟩ F N
    dsimp only
    have hp2 := hp5.out
    have hml : (List.take 3 ns).length = min 3 ns.length := List.length_take
    k_steps
    refine Stop.out ?_
    rename IntsAre _ (List.take 3 ns) => hT3
    rename List Value => ws3
    replace hT3 : IntsAre ws3 (List.take 3 ns) := hT3
    obtain ⟨n3, hi3, h3a, h3c, h3e, h3d⟩ : ∃ n3, IntsAre _ n3 ∧ (2 ≤ n3.length ∧ n3.length ≤ 3) ∧ (∀ x ∈ n3, 1 ≤ x ∧ x ≤ 10 ^ 12) ∧ 0 < n3.sum ∧ n3.sum < 10 ^ 13 := ⟨_, hT3, by omega, fun x hx => hbnd x (List.mem_of_mem_take hx), votes_sum (fun x hx => hbnd x (List.mem_of_mem_take hx)) (by omega) (by omega)⟩
    clear hT3
    (with_unfolding_all refine' cell_con (sc := sc) ?cBh ?cFh ?cXh ?cTh ?cKh ?cl1h ?ci1h ?cdh ?c1h ?c2h ?c3h ?cRh); (case cBh => k_asm); (case cFh => k_asm); (case cXh => k_asm); (case cTh => k_asm); (case cKh => exact rfl); (case cl1h => is_list); (case ci1h => assumption); (case cdh => ktr_room); (case c1h => first | assumption | omega); (case c2h => first | assumption | omega); (case c3h => first | assumption | omega); intro h9 tk9 tc9 kk9; (rename Fr _ _ _ _ => lF'); (rename News _ _ _ _ => lN'); (have F9 := Fr.keeps lF' kk9); (have N9 := News.grown lN' kk9); clear lF' lN' kk9; (try k_sweep)
    have h2c : 0 ≤ ((cellF sc 2).fdiv 10).fmod 10 := fmod_lo _ (by decide)
    have h2d : ((cellF sc 2).fdiv 10).fmod 10 < 10 := fmod_hi _ (by decide)
    k_steps
    refine Stop.out ?_
    (with_unfolding_all refine' div_con _ _ _ _ _ _ _ _ _ _ _ _ _ _ _ _ _ n3 (1 + ((cellF sc 2).fdiv 10).fmod 10) .sl _ _ _ _ ?cBj ?cFj ?cXj ?cTj ?cKj ?cl1j ?ci1j ?cdj ?cuj ?c1j ?c2j ?c3j ?c4j ?cRj); (case cBj => k_asm); (case cFj => k_asm); (case cXj => k_asm); (case cTj => k_asm); (case cKj => exact rfl); (case cl1j => is_list); (case ci1j => assumption); (case cdj => ktr_room); (case cuj => ktr_room); (case c1j => first | assumption | omega | (intro hx; first | omega | cases hx)); (case c2j => first | assumption | omega | (intro hx; first | omega | cases hx)); (case c3j => first | assumption | omega | (intro hx; first | omega | cases hx)); (case c4j => first | assumption | omega | (intro hx; first | omega | cases hx)); intro rj ysj kqj rs9 h9 tk9 kk9 hg9 hn9 hI9 hDR9; (rename Fr _ _ _ _ => lF'); (rename News _ _ _ _ => lN'); (have F9 := Fr.keeps lF' kk9); (have N9 := news_add lF' kk9 lN' hg9 hn9); clear lF' lN' kk9 hg9 hn9; (try k_sweep)
    obtain ⟨mid, hmi, hmi1, hmi2, hmi3, hmi4⟩ : ∃ lo, IntsAre ysj lo ∧ lo.length = n3.length ∧ lo.sum = 1 + ((cellF sc 2).fdiv 10).fmod 10 ∧ (∀ x ∈ lo, 0 ≤ x) ∧ wiF n3 lo n3.length = true := ⟨_, hI9, law_sl hDR9 h3c h3a (by omega)⟩
    clear hI9 hDR9
    k_steps
    refine Stop.out ?_
    (with_unfolding_all refine' cell_con (sc := sc) ?cBk ?cFk ?cXk ?cTk ?cKk ?cl1k ?ci1k ?cdk ?c1k ?c2k ?c3k ?cRk); (case cBk => k_asm); (case cFk => k_asm); (case cXk => k_asm); (case cTk => k_asm); (case cKk => exact rfl); (case cl1k => is_list); (case ci1k => assumption); (case cdk => ktr_room); (case c1k => first | assumption | omega); (case c2k => first | assumption | omega); (case c3k => first | assumption | omega); intro h9 tk9 tc9 kk9; (rename Fr _ _ _ _ => lF'); (rename News _ _ _ _ => lN'); (have F9 := Fr.keeps lF' kk9); (have N9 := News.grown lN' kk9); clear lF' lN' kk9; (try k_sweep)
    k_steps
    refine Stop.out ?_
    (with_unfolding_all refine' wi_con ?cBl ?cFl ?cXl ?cTl ?cKl ?cl1l ?ci1l ?cl2l ?ci2l ?cdl ?c1l ?c2l ?c3l ?c4l ?c5l ?cRl); (case cBl => k_asm); (case cFl => k_asm); (case cXl => k_asm); (case cTl => k_asm); (case cKl => exact rfl); (case cl1l => is_list); (case ci1l => assumption); (case cl2l => is_list); (case ci2l => assumption); (case cdl => ktr_room); (case c1l => first | assumption | omega | ktr_room); (case c2l => first | assumption | omega | ktr_room); (case c3l => first | assumption | omega | ktr_room); (case c4l => first | assumption | omega | ktr_room); (case c5l => first | assumption | omega | ktr_room); intro h9 tk9 kk9; (rename Fr _ _ _ _ => lF'); (rename News _ _ _ _ => lN'); (have F9 := Fr.keeps lF' kk9); (have N9 := News.grown lN' kk9); clear lF' lN' kk9; (try k_sweep)
    rw [hmi4]
    k_steps
    refine Stop.out ?_
    rename Fr _ _ _ _ => FB
    rename News _ _ _ _ => NB
    rename IsRange _ _ _ _ _ _ _ _ => hR1
    refine LCg.CompSrc.range (by rfl) FB NB hR1 (small_one (by omega) (by omega) (by omega) (by omega)) (rangeSize_nat _ _) (by rw [PySem.sizeLine_eq]; omega) ?_
    intro g'
    refine kcf_range (fun k => (cellF sc (10 + k)).fmod 6) (fun k' t' I' oI' C' oC' D' m' ys' h' tk' E' hlo' hhi' hC' hx' F' N' off' ne' hMark' => ?_) ?_
    · (try (simp only [LCg.Off3, and_true] at off'))
      k_steps
      refine Stop.out ?_
      have hkm0 : 0 ≤ 10 + k' := by clear off' ne'; omega
      have hkm1 : 10 + k' < 1000 := by clear off' ne'; omega
      (with_unfolding_all refine' cell_con (sc := sc) ?cBm ?cFm ?cXm ?cTm ?cKm ?cl1m ?ci1m ?cdm ?c1m ?c2m ?c3m ?cRm); (case cBm => k_asm); (case cFm => k_asm); (case cXm => k_asm); (case cTm => k_asm); (case cKm => exact rfl); (case cl1m => is_list); (case ci1m => assumption); (case cdm => ktr_room); (case c1m => first | assumption | omega); (case c2m => first | assumption | omega); (case c3m => first | assumption | omega); intro h9 tk9 tc9 kk9; (rename Fr _ _ _ _ => lF'); (rename News _ _ _ _ => lN'); (have F9 := Fr.keeps lF' kk9); (have N9 := News.grown lN' kk9); clear lF' lN' kk9; (try k_sweep)
      k_steps
      refine Stop.out ?_
      refine kcf_el ?kce (by with_unfolding_all rfl) (by with_unfolding_all rfl)
      case kce =>
        rfl
    · intro ys hI8
      rename IntsAre _ (List.map _ _) => hI7
      obtain ⟨dr, hdr, hdr1, hdr2⟩ : ∃ dr, IntsAre ys dr ∧ dr.length = ns.length ∧ (0 ≤ dr.sum ∧ dr.sum ≤ 100) := by
        have hz := drawn_sum sc (par - 0).toNat (by omega)
        exact ⟨_, hI7, by rw [hz.1]; omega, hz.2⟩
      clear hI7
      k_steps
      refine Stop.out ?_
      (with_unfolding_all refine' wq_con _ _ _ _ _ _ _ _ _ _ _ _ _ _ _ _ ws3 n3 _ ysj mid _ _ ?cBq1 ?cFq1 ?cXq1 ?cTq1 ?cKq1 ?cl1q1 ?ci1q1 ?cl2q1 ?ci2q1 ?cdq1 ?cuq1 ?c1q1 ?c2q1 ?c3q1 ?c4q1 ?c5q1 ?cRq1); (case cBq1 => k_asm); (case cFq1 => k_asm); (case cXq1 => k_asm); (case cTq1 => k_asm); (case cKq1 => exact rfl); (case cl1q1 => is_list); (case ci1q1 => assumption); (case cl2q1 => is_list); (case ci2q1 => assumption); (case cdq1 => ktr_room); (case cuq1 => ktr_room); (case c1q1 => first | assumption | omega | ktr_room); (case c2q1 => first | assumption | omega | ktr_room); (case c3q1 => first | assumption | omega | ktr_room); (case c4q1 => first | assumption | omega | ktr_room); (case c5q1 => first | assumption | omega | ktr_room); intro h9 tk9 kk9; (rename Fr _ _ _ _ => lF'); (rename News _ _ _ _ => lN'); (have F9 := Fr.keeps lF' kk9); (have N9 := News.grown lN' kk9); clear lF' lN' kk9; (try k_sweep)
      rw [wq_eq (by omega) (by omega)]
      k_steps
      refine Stop.out ?_
      (with_unfolding_all refine' wi_con (ns1 := n3) (ns2 := mid) ?cBt1 ?cFt1 ?cXt1 ?cTt1 ?cKt1 ?cl1t1 ?ci1t1 ?cl2t1 ?ci2t1 ?cdt1 ?c1t1 ?c2t1 ?c3t1 ?c4t1 ?c5t1 ?cRt1); (case cBt1 => k_asm); (case cFt1 => k_asm); (case cXt1 => k_asm); (case cTt1 => k_asm); (case cKt1 => exact rfl); (case cl1t1 => is_list); (case ci1t1 => assumption); (case cl2t1 => is_list); (case ci2t1 => assumption); (case cdt1 => ktr_room); (case c1t1 => first | assumption | omega | ktr_room); (case c2t1 => first | assumption | omega | ktr_room); (case c3t1 => first | assumption | omega | ktr_room); (case c4t1 => first | assumption | omega | ktr_room); (case c5t1 => first | assumption | omega | ktr_room); intro h9 tk9 kk9; (rename Fr _ _ _ _ => lF'); (rename News _ _ _ _ => lN'); (have F9 := Fr.keeps lF' kk9); (have N9 := News.grown lN' kk9); clear lF' lN' kk9; (try k_sweep)
      k_steps
      refine Stop.out ?_
      (with_unfolding_all refine' wq_con _ _ _ _ _ _ _ _ _ _ _ _ _ _ _ _ ysb ns _ ys dr _ _ ?cBq2 ?cFq2 ?cXq2 ?cTq2 ?cKq2 ?cl1q2 ?ci1q2 ?cl2q2 ?ci2q2 ?cdq2 ?cuq2 ?c1q2 ?c2q2 ?c3q2 ?c4q2 ?c5q2 ?cRq2); (case cBq2 => k_asm); (case cFq2 => k_asm); (case cXq2 => k_asm); (case cTq2 => k_asm); (case cKq2 => exact rfl); (case cl1q2 => is_list); (case ci1q2 => assumption); (case cl2q2 => is_list); (case ci2q2 => assumption); (case cdq2 => ktr_room); (case cuq2 => ktr_room); (case c1q2 => first | assumption | omega | ktr_room); (case c2q2 => first | assumption | omega | ktr_room); (case c3q2 => first | assumption | omega | ktr_room); (case c4q2 => first | assumption | omega | ktr_room); (case c5q2 => first | assumption | omega | ktr_room); intro h9 tk9 kk9; (rename Fr _ _ _ _ => lF'); (rename News _ _ _ _ => lN'); (have F9 := Fr.keeps lF' kk9); (have N9 := News.grown lN' kk9); clear lF' lN' kk9; (try k_sweep)
      rw [wq_eq (by omega) (by omega)]
      k_steps
      refine Stop.out ?_
      (with_unfolding_all refine' wi_con (ns1 := ns) (ns2 := dr) ?cBt2 ?cFt2 ?cXt2 ?cTt2 ?cKt2 ?cl1t2 ?ci1t2 ?cl2t2 ?ci2t2 ?cdt2 ?c1t2 ?c2t2 ?c3t2 ?c4t2 ?c5t2 ?cRt2); (case cBt2 => k_asm); (case cFt2 => k_asm); (case cXt2 => k_asm); (case cTt2 => k_asm); (case cKt2 => exact rfl); (case cl1t2 => is_list); (case ci1t2 => assumption); (case cl2t2 => is_list); (case ci2t2 => assumption); (case cdt2 => ktr_room); (case c1t2 => first | assumption | omega | ktr_room); (case c2t2 => first | assumption | omega | ktr_room); (case c3t2 => first | assumption | omega | ktr_room); (case c4t2 => first | assumption | omega | ktr_room); (case c5t2 => first | assumption | omega | ktr_room); intro h9 tk9 kk9; (rename Fr _ _ _ _ => lF'); (rename News _ _ _ _ => lN'); (have F9 := Fr.keeps lF' kk9); (have N9 := News.grown lN' kk9); clear lF' lN' kk9; (try k_sweep)
      k_steps
      refine Stop.out ?_
      (with_unfolding_all refine' wq_con _ _ _ _ _ _ _ _ _ _ _ _ _ _ _ _ ysb ns _ ysd lo _ _ ?cBq3 ?cFq3 ?cXq3 ?cTq3 ?cKq3 ?cl1q3 ?ci1q3 ?cl2q3 ?ci2q3 ?cdq3 ?cuq3 ?c1q3 ?c2q3 ?c3q3 ?c4q3 ?c5q3 ?cRq3); (case cBq3 => k_asm); (case cFq3 => k_asm); (case cXq3 => k_asm); (case cTq3 => k_asm); (case cKq3 => exact rfl); (case cl1q3 => is_list); (case ci1q3 => assumption); (case cl2q3 => is_list); (case ci2q3 => assumption); (case cdq3 => ktr_room); (case cuq3 => ktr_room); (case c1q3 => first | assumption | omega | ktr_room); (case c2q3 => first | assumption | omega | ktr_room); (case c3q3 => first | assumption | omega | ktr_room); (case c4q3 => first | assumption | omega | ktr_room); (case c5q3 => first | assumption | omega | ktr_room); intro h9 tk9 kk9; (rename Fr _ _ _ _ => lF'); (rename News _ _ _ _ => lN'); (have F9 := Fr.keeps lF' kk9); (have N9 := News.grown lN' kk9); clear lF' lN' kk9; (try k_sweep)
      rw [wq_eq (by omega) (by omega)]
      k_steps
      refine Stop.out ?_
      (with_unfolding_all refine' wi_con (ns1 := ns) (ns2 := lo) ?cBt3 ?cFt3 ?cXt3 ?cTt3 ?cKt3 ?cl1t3 ?ci1t3 ?cl2t3 ?ci2t3 ?cdt3 ?c1t3 ?c2t3 ?c3t3 ?c4t3 ?c5t3 ?cRt3); (case cBt3 => k_asm); (case cFt3 => k_asm); (case cXt3 => k_asm); (case cTt3 => k_asm); (case cKt3 => exact rfl); (case cl1t3 => is_list); (case ci1t3 => assumption); (case cl2t3 => is_list); (case ci2t3 => assumption); (case cdt3 => ktr_room); (case c1t3 => first | assumption | omega | ktr_room); (case c2t3 => first | assumption | omega | ktr_room); (case c3t3 => first | assumption | omega | ktr_room); (case c4t3 => first | assumption | omega | ktr_room); (case c5t3 => first | assumption | omega | ktr_room); intro h9 tk9 kk9; (rename Fr _ _ _ _ => lF'); (rename News _ _ _ _ => lN'); (have F9 := Fr.keeps lF' kk9); (have N9 := News.grown lN' kk9); clear lF' lN' kk9; (try k_sweep)
      k_steps
      refine Stop.out ?_
      (with_unfolding_all refine' wq_con _ _ _ _ _ _ _ _ _ _ _ _ _ _ _ _ ysb ns _ yse hig _ _ ?cBq4 ?cFq4 ?cXq4 ?cTq4 ?cKq4 ?cl1q4 ?ci1q4 ?cl2q4 ?ci2q4 ?cdq4 ?cuq4 ?c1q4 ?c2q4 ?c3q4 ?c4q4 ?c5q4 ?cRq4); (case cBq4 => k_asm); (case cFq4 => k_asm); (case cXq4 => k_asm); (case cTq4 => k_asm); (case cKq4 => exact rfl); (case cl1q4 => is_list); (case ci1q4 => assumption); (case cl2q4 => is_list); (case ci2q4 => assumption); (case cdq4 => ktr_room); (case cuq4 => ktr_room); (case c1q4 => first | assumption | omega | ktr_room); (case c2q4 => first | assumption | omega | ktr_room); (case c3q4 => first | assumption | omega | ktr_room); (case c4q4 => first | assumption | omega | ktr_room); (case c5q4 => first | assumption | omega | ktr_room); intro h9 tk9 kk9; (rename Fr _ _ _ _ => lF'); (rename News _ _ _ _ => lN'); (have F9 := Fr.keeps lF' kk9); (have N9 := News.grown lN' kk9); clear lF' lN' kk9; (try k_sweep)
      rw [wq_eq (by omega) (by omega)]
      k_steps
      refine Stop.out ?_
      (with_unfolding_all refine' wi_con (ns1 := ns) (ns2 := hig) ?cBt4 ?cFt4 ?cXt4 ?cTt4 ?cKt4 ?cl1t4 ?ci1t4 ?cl2t4 ?ci2t4 ?cdt4 ?c1t4 ?c2t4 ?c3t4 ?c4t4 ?c5t4 ?cRt4); (case cBt4 => k_asm); (case cFt4 => k_asm); (case cXt4 => k_asm); (case cTt4 => k_asm); (case cKt4 => exact rfl); (case cl1t4 => is_list); (case ci1t4 => assumption); (case cl2t4 => is_list); (case ci2t4 => assumption); (case cdt4 => ktr_room); (case c1t4 => first | assumption | omega | ktr_room); (case c2t4 => first | assumption | omega | ktr_room); (case c3t4 => first | assumption | omega | ktr_room); (case c4t4 => first | assumption | omega | ktr_room); (case c5t4 => first | assumption | omega | ktr_room); intro h9 tk9 kk9; (rename Fr _ _ _ _ => lF'); (rename News _ _ _ _ => lN'); (have F9 := Fr.keeps lF' kk9); (have N9 := News.grown lN' kk9); clear lF' lN' kk9; (try k_sweep)
      k_steps


      )
end Ab
end

theorem PySem.Challenge.cw_ab5004_01_holds : PySem.Challenge.rw_ab5004_01.Holds := by
  exact Ab.law_holds
