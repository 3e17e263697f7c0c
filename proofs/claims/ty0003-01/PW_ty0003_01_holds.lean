import PyProof.Rows.All
import Wide.All
import OpenK.AllK
import Wide.FinOn
import PyProof.RangeIter
import PyProof.ListIndexNeg
import PyProof.CompFree
import PyProof.EnumFor
import PyProof.EnumMake
import PyProof.EnumStmt
import KE.LcSums
import PySem.Challenge.RW_ty0003_01
open PySem PySem.W PyProof.Rows
set_option Elab.async false
set_option maxRecDepth 100000
set_option maxHeartbeats 8000000
set_option compiler.extract_closed false
open_top hd for PySem.Challenge.rw_ty0003_01
section
open PySem PySem.W PySem.Calls PyProof.Rows PySem.Spec
set_option Elab.async false
set_option maxRecDepth 100000
set_option maxHeartbeats 8000000
namespace Mine

/-- is the walk's key one of these? -/
def keyIn (k : Lean.TSyntax `str) (l : List String) : Bool := l.contains k.getString

/-- a frame's names -/
noncomputable def mp : List (PySem.Str × Option Value) → PySem.Str → Option Value
  | [], _ => none
  | p :: r, y => if y = p.1 then p.2 else mp r y
noncomputable def put : List (PySem.Str × Option Value) → PySem.Str → Option Value → List (PySem.Str × Option Value)
  | [], x, v => [(x, v)]
  | p :: r, x, v => if p.1 = x then (x, v) :: r else p :: put r x v
theorem mp_put (l : List (PySem.Str × Option Value)) (x : PySem.Str) (v : Option Value) : (fun y => if y = x then v else mp l y) = mp (put l x v) := by
  funext y
  induction l with
  | nil => simp [mp, put]
  | cons p r ih =>
    unfold put
    by_cases h : p.1 = x
    · rw [if_pos h]
      subst h
      simp only [mp]
      by_cases hy : y = p.1 <;> simp [hy]
    · rw [if_neg h]
      simp only [mp]
      by_cases hy : y = x
      · subst hy
        rw [if_pos rfl, if_neg (fun e => h e.symm), ← ih, if_pos rfl]
      · rw [if_neg hy]
        by_cases hp : y = p.1
        · simp [hp]
        · rw [if_neg hp, if_neg hp, ← ih, if_neg hy]
theorem fr_put {h₀ h : Heap} {L : Addr} {l : List (PySem.Str × Option Value)} {x : PySem.Str} {v : Option Value} (F : Fr h₀ L h (fun y => if y = x then v else mp l y)) : Fr h₀ L h (mp (put l x v)) := mp_put l x v ▸ F
theorem fr_put2 {h₀ h : Heap} {L : Addr} {l : List (PySem.Str × Option Value)} {x x' : PySem.Str} {v v' : Option Value} (F : Fr h₀ L h (fun y => if y = x' then v' else if y = x then v else mp l y)) : Fr h₀ L h (mp (put (put l x v) x' v')) := by
  have e : (fun y => if y = x' then v' else if y = x then v else mp l y) = mp (put (put l x v) x' v') := by rw [← mp_put (put l x v), ← mp_put l]
  exact e ▸ F
theorem fr_put3 {h₀ h : Heap} {L : Addr} {l : List (PySem.Str × Option Value)} {x x' x'' : PySem.Str} {v v' v'' : Option Value} (F : Fr h₀ L h (fun y => if y = x'' then v'' else if y = x' then v' else if y = x then v else mp l y)) : Fr h₀ L h (mp (put (put (put l x v) x' v') x'' v'')) := by
  have e : (fun y => if y = x'' then v'' else if y = x' then v' else if y = x then v else mp l y) = mp (put (put (put l x v) x' v') x'' v'') := by rw [← mp_put (put (put l x v) x' v'), ← mp_put (put l x v), ← mp_put l]
  exact e ▸ F
theorem mp_binds (l : List (PySem.Str × Value)) : (fun y => l.lookup y) = mp (l.map fun p => (p.1, some p.2)) := by
  funext y
  induction l with
  | nil => rfl
  | cons p r ih =>
    rw [List.map_cons, mp, ← ih, List.lookup_cons]
    by_cases h : y = p.1
    · simp [h]
    · have : (y == p.1) = false := by simpa using h
      simp [h, this]
theorem fr_binds {h₀ h : Heap} {L : Addr} {l : List (PySem.Str × Value)} (F : Fr h₀ L h (fun y => l.lookup y)) : Fr h₀ L h (mp (l.map fun p => (p.1, some p.2))) := mp_binds l ▸ F

noncomputable def mpL (kindOf : PySem.Str → Option NameKind) : List (PySem.Str × Value) → List (PySem.Str × Option Value) → List (PySem.Str × Option Value)
  | [], l => l
  | p :: r, l => mpL kindOf r (if kindOf p.1 = some .local then put l p.1 (some p.2) else l)
theorem bindL_mp (kindOf : PySem.Str → Option NameKind) : ∀ (binds : List (PySem.Str × Value)) (l : List (PySem.Str × Option Value)), bindL kindOf binds (mp l) = mp (mpL kindOf binds l)
  | [], _ => rfl
  | (n, v) :: r, l => by
    rw [bindL, mpL]
    by_cases h : kindOf n = some .local
    · simp only [h, if_true]
      rw [mp_put]
      exact bindL_mp kindOf r _
    · simp only [h, if_false]
      exact bindL_mp kindOf r l
theorem mp_nil : mp [] = fun _ => none := by funext y; rfl

/-- where the walk is to stop -/
noncomputable def Stop (P : Prop) : Prop := P
theorem stop {P : Prop} (h : Stop P) : P := h
theorem go {P : Prop} (h : P) : Stop P := h
theorem stopQ {α : Type} {M : Model} {A : Around} {t : Sem α} {Q : α → Shared → Prop} {E : Value → Shared → Prop} {s : Shared} (h : wpAny M A t (fun a s => Stop (Q a s)) E s) : wpAny M A t Q E s := h

/-- the place of a call: room for frames, room for C -/
noncomputable abbrev Ar (d u : Nat) (gd : Option (List Code)) (env : Env) (outer : List Env) : Around := { handled := none, depth := d, frames := some (env :: outer), guards := gd, units := u }

/-- what a def does at a call: rel, the objects that it may turn; post, of the answer, the new ledger, the new heap -/
noncomputable def Does (prog : Program) (w : World) (K : Frag) (d u : Nat) (f : Value) (vs : List Value) (s : Shared) (rel : List (Addr × Obj)) (post : Value → List (Addr × Obj) → Heap → Prop) : Prop :=
  ∀ (p : Program) (loose : List Str) (mean : ExcName → Option Value) (mg mb : Str → Option Value) (gd : Option (List Code)) (env : Env) (outer : List Env) (A₀ : Around) (base h₀ : Heap) (L : Addr) (m : Str → Option Value) (Q : Value → Shared → Prop),
    Below A₀ base outer h₀ → Fr h₀ L s.heap m → K.In h₀ → News h₀ L s.heap rel → Top p loose mean mg mb h₀ → env.frame = some L → env.scope.kind = .function →
    (∀ v h' tk' rel', Fr h₀ L h' m → News h₀ L h' rel' → GSub s.heap h' (rel.map (·.1)) → post v rel' h' → Q v { s with heap := h', toks := tk' }) →
    codeAny (model prog w) (Ar d u gd env outer) (.call f ⟨vs, []⟩) (fun r s' => match r with | .ok (.ret v) => Q v s' | .ok _ => False | .error _ => False) s

section
variable {prog : Program} {w : World} {K : Frag} {d u : Nat} {f : Addr} {vs : List Value} {s : Shared} {rel : List (Addr × Obj)} {post : Value → List (Addr × Obj) → Heap → Prop}

theorem gsub_hide {h : Heap} {l : List Addr} : GSub h (hideAll h l) l := fun _ _ e n => hideAll_get l e n

theorem does_of {name qual : Str} {params : Arguments} {body : List Stmt} {scope : Scope} {dV kV doc pm cdv ct oc : Value} {an od : Option Addr} {osl : Array (Option Value)} {binds : List (Str × Value)}
    (ho : K.lookup f = some ⟨oc, od, .func (fnOf name qual params body scope dV kV doc pm an cdv ct), osl⟩) (hcd : codeIn K cdv qual = true) (hroom : d < recursionLimit)
    (hbind : BindsTo s (fnOf name qual params body scope dV kV doc pm an cdv ct) ⟨vs, []⟩ binds) (hloc : ∀ y ∈ binds, scope.names.lookup y.1 = some .local) {mbs : List (PySem.Str × Option Value)} (hmb : binds.reverse.map (fun p => (p.1, some p.2)) = mbs)
    (h : ∀ (p : Program) (loose : List Str) (mean : ExcName → Option Value) (mg mb : Str → Option Value) (gd : Option (List Code)) (env : Env) (outer : List Env) (base g h₁ : Heap) (L' : Addr) (Fin : Value → Shared → Prop),
      Fr g L' h₁ (mp mbs) → News g L' h₁ rel → Below (Ar d u gd env outer) base (env :: outer) g → K.In g → Top p loose mean mg mb g → GSub s.heap g (rel.map (·.1)) → s.heap.objs.size = L' → (∀ b o, s.heap.get? b = some o → h₁.get? b = some o) →
      (∀ v h' tk' m' rel', Fr g L' h' m' → News g L' h' rel' → post v rel' h' → Fin v { s with heap := h', toks := tk' }) →
      wpAny (model prog w) ((Ar d u gd env outer).deeper (envOf qual scope L' f cdv)) (execs body (envOf qual scope L' f cdv))
        (fun fl s' => Fin (match fl with | .ret v => v | _ => .none) s') (fun _ _ => False) { s with heap := h₁, toks := s.toks + binds.length })
    (hco : scope.isCoroutine = false) (hgen : scope.isGenerator = false) (hk : scope.kind = .function)
    (hcell : ∀ x ∈ scope.names, x.2 ≠ .cell) : Does prog w K d u (.ref f) vs s rel post := by
  intro p loose mean mg mb gd env outer A₀ base h₀ L m Q B F X N T hf hke hret
  obtain ⟨FG, BG, st, lv⟩ := groundX (A := Ar d u gd env outer) (R := fun r s' => match r with | .ok (.ret v) => Q v s' | .ok _ => False | .error _ => False) B F N rfl hf hke
  refine codeAny_call_def (fd := fnX name qual params body scope [] dV kV doc pm an cdv ct) (body := body) (binds := binds) hroom ((X.keeps F.keep) _ _ ho) rfl (T.nolimit.keeps F.keep) (codeRec_of (X.keeps F.keep) hcd) rfl hbind hcell hloc (fun h₁ hns hk₁ => ?_) hco hgen hk
  refine wpAny_mono (h p loose mean mg mb gd env outer base (hideAll s.heap (rel.map fun x : Addr × Obj => x.1)) h₁ s.heap.objs.size (fun v s' => Q v s')
    (hmb ▸ mp_binds binds.reverse ▸ ⟨hns, fun b o e => hk₁ b o (of_hideAll _ e), Nat.le_of_eq (hideAll_size _ _)⟩)
    (fun p hp => ⟨hk₁ _ _ (N p hp).1, Nat.ne_of_lt (Heap.lt_size (N p hp).1), hideAll_none _ (List.mem_map_of_mem hp)⟩) BG (X.keeps st) (T.keeps st) gsub_hide rfl hk₁ ?_) (fun fl s' hl => hl) fun _ _ y => y.elim
  intro v h' tk' m' rel' F' N' hp
  refine lv v { s with heap := h', toks := tk' } ⟨_, m', rel', F', N', fun F₂ N₂ => ?_⟩
  exact hret v h' tk' rel' F₂ N₂ (fun b o e n => F'.keep b o (gsub_hide b o e n)) hp

theorem does_ofC {name qual : Str} {params : Arguments} {body : List Stmt} {scope : Scope} {dV kV doc pm cdv ct oc : Value} {an od : Option Addr} {osl : Array (Option Value)} {binds : List (Str × Value)}
    (ho : K.lookup f = some ⟨oc, od, .func (fnOf name qual params body scope dV kV doc pm an cdv ct), osl⟩) (hcd : codeIn K cdv qual = true) (hroom : d < recursionLimit)
    (hbind : BindsTo s (fnOf name qual params body scope dV kV doc pm an cdv ct) ⟨vs, []⟩ binds)
    (hkind : (binds.all fun y => scope.names.lookup y.1 == some .local || scope.names.lookup y.1 == some .cell) = true)
    (hnd : ((cellsFrom 0 scope.names []).map (·.1)).Nodup) {mbs : PySem.Addr → List (PySem.Str × Option Value)} (hmb : ∀ L', mpL (envOfC qual scope L' f cdv).kindOf binds [] = mbs L')
    (h : ∀ (p : Program) (loose : List Str) (mean : ExcName → Option Value) (mg mb : Str → Option Value) (gd : Option (List Code)) (env : Env) (outer : List Env) (base g h₁ : Heap) (L' : Addr) (tk : Nat) (cells : List (Addr × Obj)) (Fin : Value → Shared → Prop),
      Fr g L' h₁ (mp (mbs L')) → News g L' h₁ (cells ++ rel) → CellsAre (bindC (envOfC qual scope L' f cdv).kindOf binds fun _ => none) (cellsFrom (L' + 1) scope.names []) cells →
      Below (Ar d u gd env outer) base (env :: outer) g → K.In g → Top p loose mean mg mb g → GSub s.heap g (rel.map (·.1)) → s.heap.objs.size = L' → (∀ p ∈ rel, p.1 < L') → (∀ b o, s.heap.get? b = some o → h₁.get? b = some o) →
      (∀ v h' tk' m' rel', Fr g L' h' m' → News g L' h' rel' → post v rel' h' → Fin v { s with heap := h', toks := tk' }) →
      wpAny (model prog w) ((Ar d u gd env outer).deeper (envOfC qual scope L' f cdv)) (execs body (envOfC qual scope L' f cdv))
        (fun fl s' => Fin (match fl with | .ret v => v | _ => .none) s') (fun _ _ => False) { s with heap := h₁, toks := tk })
    (hco : scope.isCoroutine = false) (hgen : scope.isGenerator = false) (hk : scope.kind = .function) : Does prog w K d u (.ref f) vs s rel post := by
  intro p loose mean mg mb gd env outer A₀ base h₀ L m Q B F X N T hf hke hret
  obtain ⟨FG, BG, st, lv⟩ := groundX (A := Ar d u gd env outer) (R := fun r s' => match r with | .ok (.ret v) => Q v s' | .ok _ => False | .error _ => False) B F N rfl hf hke
  refine codeAny_call_function hroom ((X.keeps F.keep) _ _ ho) rfl hco hgen rfl (codeRec_of (X.keeps F.keep) hcd) (hbind _ _ _ _ ?_)
  refine wpAny_newFunctionEnv_cells hk (kindsX hkind _) fun env' he s' x => ?_
  subst he
  refine ⟨(T.nolimit.keeps F.keep).keeps x.toInCall.keep, codeAny_func ?_⟩
  obtain ⟨h₁, tk, rfl, _⟩ := x.done
  have hk₁ := x.toInCall.keep
  obtain ⟨cells, NC, Y⟩ := Cl.news (h₀ := s.heap) (Nat.le_refl _) fun n c hm => ⟨x.cell n c (lookup_of_mem_nodup (cellsFrom_names scope.names 0 (s.heap.objs.size + 1) [] [] rfl ▸ hnd) hm), x.above n c hm⟩
  refine wpAny_mono (h p loose mean mg mb gd env outer base (hideAll s.heap (rel.map fun x : Addr × Obj => x.1)) h₁ s.heap.objs.size tk cells (fun v s' => Q v s')
    (hmb _ ▸ bindL_mp _ binds [] ▸ mp_nil ▸ ⟨x.toInCall.ns, fun b o e => hk₁ b o (of_hideAll _ e), Nat.le_of_eq (hideAll_size _ _)⟩) (fun p hp => ?_) Y BG (X.keeps st) (T.keeps st) gsub_hide rfl (fun p hp => Heap.lt_size (N p hp).1) hk₁ ?_) (fun fl s' hl => hl) fun _ _ y => y.elim
  · rcases List.mem_append.mp hp with hp | hp
    · refine ⟨(NC p hp).1, (NC p hp).2.1, ?_⟩
      cases q : (hideAll s.heap (rel.map (·.1))).get? p.1 with
      | none => rfl
      | some o => have := of_hideAll _ q; rw [(NC p hp).2.2] at this; cases this
    · exact ⟨hk₁ _ _ (N p hp).1, Nat.ne_of_lt (Heap.lt_size (N p hp).1), hideAll_none _ (List.mem_map_of_mem hp)⟩
  · intro v h' tk' m' rel' F' N' hp
    refine lv v { s with heap := h', toks := tk' } ⟨_, m', rel', F', N', fun F₂ N₂ => ?_⟩
    exact hret v h' tk' rel' F₂ N₂ (fun b o e n => F'.keep b o (gsub_hide b o e n)) hp

theorem roomC {M : Model} {A A' : Around} {c : Code} {R : Result → Shared → Prop} {s : Shared} (h : codeAny M A c R s)
    (h1 : A'.handled = A.handled) (h2 : A'.frames = A.frames) (h3 : A'.guards = A.guards) (h4 : A'.depth ≤ A.depth) (h5 : A'.units ≤ A.units) : codeAny M A' c R s :=
  fun Γ p hc hΓ => h Γ p hc ⟨h1 ▸ hΓ.1, Nat.le_trans hΓ.2.1 h4, h2 ▸ hΓ.2.2.1, h3 ▸ hΓ.2.2.2.1, Nat.le_trans hΓ.2.2.2.2 h5⟩

theorem does_useC {A : Around} {env : Env} {outer : List Env} {p : Program} {loose : List Str} {mean : ExcName → Option Value} {mg mb : Str → Option Value} {A₀ : Around} {base h₀ : Heap} {L : Addr} {m : Str → Option Value} {Q : Value → Shared → Prop} {E : Value → Shared → Prop} {fv : Value} {news : List (Addr × Obj)}
    (D : Does prog w K d u fv vs s rel post) (B : Below A₀ base outer h₀) (F : Fr h₀ L s.heap m) (X : K.In h₀) (N : News h₀ L s.heap news) (T : Top p loose mean mg mb h₀) (hA : A.frames = some (env :: outer)) (hh : A.handled = none) (hf : env.frame = some L) (hke : env.scope.kind = .function)
    (hd : A.depth ≤ d) (hu : A.units ≤ u) (hsub : ∀ q ∈ rel, q ∈ news)
    (hret : ∀ v h' tk' rel', Fr h₀ L h' m → News h₀ L h' rel' → GSub s.heap h' (rel.map (·.1)) → post v rel' h' → Q v { s with heap := h', toks := tk' }) :
    codeAny (model prog w) A (.call fv ⟨vs, []⟩) (fun r s' => match r with | .ok (.ret v) => Q v s' | .ok _ => False | .error e => E e s') s :=
  roomC (codeAny_mono (D p loose mean mg mb A.guards env outer A₀ base h₀ L m Q B F X (fun q hq => N q (hsub q hq)) T hf hke hret) fun r _ x => match r, x with
    | .ok (.ret _), x => x
    | .ok (.next), x => x.elim
    | .ok (.brk), x => x.elim
    | .ok (.cont), x => x.elim
    | .error _, x => x.elim) hh hA rfl hd hu
/-- a call that is known, in a walk -/
theorem does_use {A : Around} {env : Env} {outer : List Env} {p : Program} {loose : List Str} {mean : ExcName → Option Value} {mg mb : Str → Option Value} {A₀ : Around} {base h₀ : Heap} {L : Addr} {m : Str → Option Value} {Q : Value → Shared → Prop} {E : Value → Shared → Prop} {fv : Value} {news : List (Addr × Obj)}
    (D : Does prog w K d u fv vs s rel post) (B : Below A₀ base outer h₀) (F : Fr h₀ L s.heap m) (X : K.In h₀) (N : News h₀ L s.heap news) (T : Top p loose mean mg mb h₀) (hA : A.frames = some (env :: outer)) (hh : A.handled = none) (hf : env.frame = some L) (hke : env.scope.kind = .function)
    (hd : A.depth ≤ d) (hu : A.units ≤ u) (hsub : ∀ q ∈ rel, q ∈ news)
    (hret : ∀ v h' tk' rel', Fr h₀ L h' m → News h₀ L h' rel' → GSub s.heap h' (rel.map (·.1)) → post v rel' h' → Q v { s with heap := h', toks := tk' }) :
    wpAny (model prog w) A (call fv vs) Q E s :=
  wpAny_call (does_useC D B F X N T hA hh hf hke hd hu hsub hret)

/-- the ledger behind a call -/
theorem news_after {h₀ h h' : Heap} {L : Addr} {news rel rel' : List (Addr × Obj)} (N : News h₀ L h news) (N' : News h₀ L h' rel') (G : GSub h h' (rel.map (·.1))) (rest : List (Addr × Obj)) (hr : ∀ q ∈ rest, q ∈ news) (hn : ∀ q ∈ rest, q.1 ∉ rel.map (·.1)) : News h₀ L h' (rel' ++ rest) := by
  intro q hq
  rcases List.mem_append.mp hq with hq | hq
  · exact N' q hq
  · exact ⟨G _ _ (N q (hr q hq)).1 (hn q hq), (N q (hr q hq)).2⟩
theorem news_all {h₀ h h' : Heap} {L : Addr} {news : List (Addr × Obj)} (N : News h₀ L h news) (G : GSub h h' []) : News h₀ L h' news :=
  fun q hq => ⟨G _ _ (N q hq).1 (fun e => nomatch e), (N q hq).2⟩
theorem fr_as {h₀ h : Heap} {L : Addr} {m m' : Str → Option Value} (F : Fr h₀ L h m) (e : ∀ x, m x = m' x) : Fr h₀ L h m' := (funext e : m = m') ▸ F
end
end Mine
end
section
open PySem PySem.W PySem.Calls PyProof.Rows PySem.Spec
set_option Elab.async false
set_option maxRecDepth 100000
set_option maxHeartbeats 8000000
namespace Mine
noncomputable abbrev li (l : Addr) (i : Nat) : Obj := { cls := .type "list_iterator", data := .fields #[.ref l, .int i 0] }
section
variable {prog : Program} {w : World} {A : Around} {E : Value → Shared → Prop} {s : Shared} {h₀ : Heap} {L l it : Addr} {m : PySem.Str → Option Value} {news news' : List (Addr × Obj)} {i : Nat} {items : Array Value} {x : Value}

theorem iter_list {Q : Value → Shared → Prop} (F : Fr h₀ L s.heap m) (N : News h₀ L s.heap news) (hl : s.heap.IsList l items)
    (h : ∀ (I : Addr) h', Fr h₀ L h' m → News h₀ L h' ((I, li l 0) :: news) → (∀ p ∈ news, p.1 < I) → s.heap.objs.size = I → h'.IsList l items → Q (.ref I) { s with heap := h' }) :
    wpAny (model prog w) A (call (.builtin "iter") [.ref l]) Q E s := by
  refine call_function_entry (by decide +kernel) (by decide +kernel) kdk_entry_iter (kdk_args_iter _) ?_
  unfold Builtin.«iter»
  refine wpAny_bind (m := someArgs "iter" 1 2 _) (wpAny_of_eq (a := [Value.ref l]) (by first | rfl | kernel_rfl!) ?_)
  show wpAny _ _ (pyIter (.ref l) >>= _) _ _ _
  refine wpAny_bind (wpAny_pyIter_list hl ?_)
  exact wpAny_pure ⟨_, rfl, h _ _ (F.push _) (News.push F N _ rfl) (fun q hq => Heap.lt_size (N q hq).1) rfl (hl.push _)⟩

theorem special_list {Q : Option Value → Shared → Prop} (N : News h₀ L s.heap news) (F : Fr h₀ L s.heap m) (U : Upd it (li l i) (li l (i + 1)) news news') (hl : s.heap.IsList l items) (hx : items[i]? = some x)
    (h : ∀ h', Fr h₀ L h' m → News h₀ L h' news' → h'.IsList l items → Heap.SameBut it s.heap h' → Q (some x) { s with heap := h' }) :
    wpAny (model prog w) A (callSpecial? (.ref it) (PySem.Str.ofString "__next__")) Q E s := by
  obtain ⟨pre, post, e1, e2, h1, h2⟩ := U.split
  subst e1 e2
  have ho := (N (it, li l i) (by simp)).1
  have hit : s.heap.IsListIter it l i := ⟨_, ho, rfl, rfl⟩
  obtain ⟨ol, hol, hcl, nl, hdl⟩ := hl
  have hne : it ≠ l := fun e => by subst e; have := Option.some.inj (ho.symm.trans hol); rw [← this] at hcl; exact absurd (Value.type.inj hcl) (by decide)
  refine wpAny_callSpecial?_slot (name := Str.ofString "__next__") hit.typeIs slot_listiter_next
    (wpAny_call_entry slot_listiter_next hit.typeIs entry_listiter_next ?_ (args_listiter_next _))
  show wpAny _ _ (field (.ref it) 0 >>= _) _ _ s
  refine wpAny_bind (wpAny_field ho rfl (x := .ref l) rfl ?_)
  show wpAny _ _ (if (Value.ref l == Value.none) = true then _ else _) _ _ s
  rw [if_neg (show ¬ ((Value.ref l == Value.none) = true) from Bool.false_ne_true)]
  show wpAny _ _ (field (.ref it) 1 >>= _) _ _ s
  refine wpAny_bind (wpAny_field ho rfl (x := .int i 0) rfl ?_)
  show wpAny _ _ (seqItems? (.ref l) >>= _) _ _ s
  refine wpAny_bind (wpAny_seqItems hol hdl ?_)
  simp only [Int.toNat_natCast, hx]
  have X := news_upd F N h1 h2 (f := Obj.mapFields (·.setIfInBounds 1 (rawInt ((i : Int) + 1)))) (o' := li l (i + 1)) rfl rfl
  refine wpAny_bind (wpAny_setField ho rfl (by simp) (wpAny_pure ⟨x, rfl, h _ X.1 X.2 ⟨ol, ?_, hcl, nl, hdl⟩ (Heap.SameBut.update ..)⟩))
  exact ((Heap.SameBut.update ..).2 l hne.symm).trans hol

theorem next_list {Q : Value → Shared → Prop} (F : Fr h₀ L s.heap m) (N : News h₀ L s.heap news) (U : Upd it (li l i) (li l (i + 1)) news news') (hl : s.heap.IsList l items) (hx : items[i]? = some x)
    (h : ∀ h', Fr h₀ L h' m → News h₀ L h' news' → h'.IsList l items → Heap.SameBut it s.heap h' → Q x { s with heap := h' }) :
    wpAny (model prog w) A (call (.builtin "next") [.ref it]) Q E s := by
  have hit : s.heap.IsListIter it l i := by
    obtain ⟨pre, post, e1, e2, h1, h2⟩ := U.split
    subst e1
    exact ⟨_, (N (it, li l i) (by simp)).1, rfl, rfl⟩
  refine call_function_entry (by decide +kernel) (by decide +kernel) kdk_entry_next (kdk_args_next _) ?_
  unfold Builtin.«next»
  refine wpAny_bind (m := someArgs "next" 1 2 _) (wpAny_of_eq (a := [Value.ref it]) (by first | rfl | kernel_rfl!) ?_)
  dsimp only
  refine wpAny_bind (wpAny_specialOf (name := Str.ofString "__next__") hit.typeIs slot_listiter_next.lookup ?_)
  refine wpAny_ite_split (fun hab => absurd hab (by decide)) (fun _ => ?_)
  refine wpAny_bind (special_list N F U hl hx fun h' F' N' hl' hs' => ?_)
  exact wpAny_pure ⟨_, rfl, h h' F' N' hl' hs'⟩
end
end Mine
end
section
open PySem PySem.W PySem.Calls PyProof.Rows PySem.Spec
set_option Elab.async false
set_option maxRecDepth 100000
set_option maxHeartbeats 8000000
namespace Mine
theorem bits_nat {a k : Nat} (h : a < 2 ^ k) : Builtin.Int.intBits (a : Int) ≤ k := by
  unfold Builtin.Int.intBits
  by_cases h0 : a = 0
  · subst h0; simp
  · have : ((a : Int) == 0) = false := by simpa using h0
    rw [this]
    simp only [Bool.false_eq_true, if_false, Int.natAbs_natCast]
    have := (Nat.log2_lt h0).mpr h
    omega
theorem and_nat (a b : Nat) : Builtin.bitAnd (a : Int) (b : Int) = ((a &&& b : Nat) : Int) := by
  unfold Builtin.bitAnd
  simp
theorem or_nat (a b : Nat) : Builtin.bitOr (a : Int) (b : Int) = ((a ||| b : Nat) : Int) := by
  unfold Builtin.bitOr Builtin.bitAnd Builtin.bitNot
  have h1 : decide (0 ≤ (-(a : Int) - 1)) = false := by rw [decide_eq_false_iff_not]; omega
  have h2 : decide (0 ≤ (-(b : Int) - 1)) = false := by rw [decide_eq_false_iff_not]; omega
  rw [h1, h2]
  have e1 : (-(-(a : Int) - 1) - 1).toNat = a := by omega
  have e2 : (-(-(b : Int) - 1) - 1).toNat = b := by omega
  dsimp only
  rw [e1, e2]
  omega
theorem and63 (a : Nat) : Builtin.bitAnd (a : Int) 63 = ((a % 64 : Nat) : Int) := by
  rw [show (63 : Int) = ((63 : Nat) : Int) from rfl, and_nat]
  rw [show (63 : Nat) = 2 ^ 6 - 1 from rfl, Nat.and_two_pow_sub_one_eq_mod]
theorem and64_lo {a : Nat} (h : a < 64) : Builtin.bitAnd (a : Int) 64 = 0 := by
  rw [show (64 : Int) = ((64 : Nat) : Int) from rfl, and_nat]
  have key : ∀ m : Fin 64, m.val &&& 64 = 0 := by decide
  have := key ⟨a, h⟩
  simp only at this
  rw [this]; rfl
theorem and64_hi {a : Nat} (h : a < 64) : Builtin.bitAnd ((64 + a : Nat) : Int) 64 = 64 := by
  rw [show (64 : Int) = ((64 : Nat) : Int) from rfl, and_nat]
  have key : ∀ m : Fin 64, (64 + m.val) &&& 64 = 64 := by decide
  have := key ⟨a, h⟩
  simp only at this
  rw [this]
theorem or_shift {v c : Nat} (h : c < 64) : Builtin.bitOr ((v : Int) * 2 ^ Int.toNat 6) (c : Int) = ((64 * v + c : Nat) : Int) := by
  have e : (v : Int) * 2 ^ Int.toNat 6 = ((2 ^ 6 * v : Nat) : Int) := by
    show (v : Int) * 64 = _
    omega
  rw [e, or_nat, ← Nat.two_pow_add_eq_or_of_lt (i := 6) (by simpa using h) v]
/-- what _parse_varint makes of octets less their marks -/
noncomputable def vint (as : List Nat) (v : Nat) : Nat := as.foldl (fun v a => 64 * v + a) v
theorem vint_snoc (as : List Nat) (a v : Nat) : vint (as ++ [a]) v = 64 * vint as v + a := by simp [vint]
theorem vint_lt {as : List Nat} (h : ∀ a ∈ as, a < 64) : vint as 0 < 64 ^ as.length := by
  have key : ∀ (as : List Nat) (v k : Nat), (∀ a ∈ as, a < 64) → v < 64 ^ k → vint as v < 64 ^ (k + as.length) := by
    intro as
    induction as with
    | nil => intro v k _ hv; simpa [vint] using hv
    | cons a r ih =>
      intro v k ha hv
      have h1 : 64 * v + a < 64 ^ (k + 1) := by
        have := ha a (by simp)
        rw [Nat.pow_succ]
        omega
      have := ih (64 * v + a) (k + 1) (fun b hb => ha b (by simp [hb])) h1
      rw [List.length_cons, show k + (r.length + 1) = k + 1 + r.length from by omega]
      exact this
  have := key as 0 0 h (by decide)
  simpa using this
/-- the octet that stands first -/
noncomputable def oct1 (rem : List Nat) (z : Nat) : Nat := match rem with
  | [] => z
  | a :: _ => 64 + a
theorem oct1_get {vs : List Value} {pre rem : List Nat} {z : Nat} (h : IntsAre vs ((pre ++ rem).map (fun a => ((64 + a : Nat) : Int)) ++ [(z : Int)])) : ∃ t, vs.toArray[pre.length]? = some (.int (oct1 rem z : Nat) t) := by
  obtain ⟨t, ht⟩ := h.get pre.length ((oct1 rem z : Nat) : Int) (by cases rem <;> simp [oct1])
  exact ⟨t, by simpa using ht⟩
theorem isList_g {h g : Heap} {l : Addr} {xs : Array Value} {as : List Addr} (G : GSub h g as) (hl : h.IsList l xs) (hn : l ∉ as) : g.IsList l xs := let ⟨o, ho, r⟩ := hl; ⟨o, G l o ho hn, r⟩
end Mine
namespace Mine
theorem named {α : Sort _} {P : α → Prop} {a : α} (h : P a) : ∃ x, a = x ∧ P x := ⟨a, rfl, h⟩
end Mine
end
section
open PySem PySem.W PySem.Calls PyProof.Rows PySem.Spec
set_option Elab.async false
set_option maxRecDepth 100000
set_option maxHeartbeats 8000000
namespace Mine
noncomputable abbrev ri (x left step : Int) : Obj := { cls := .type "range_iterator", dict := none, data := .fields #[rawInt x, rawInt left, rawInt step], slots := #[] }
section
variable {prog : Program} {w : World} {A : Around} {s : Shared} {h₀ h h' : Heap} {L it r l : Addr} {m : PySem.Str → Option Value} {news pre post rest : List (Addr × Obj)} {o o' : Obj}

theorem led_change (F : Fr h₀ L h m) (N : News h₀ L h ((it, o) :: rest)) (hn : ∀ p ∈ rest, p.1 ≠ it) (hs : Heap.SameBut it h h') (ho : h'.get? it = some o') : Fr h₀ L h' m ∧ News h₀ L h' ((it, o') :: rest) := by
  have P := N (it, o) (by simp)
  refine ⟨F.change hs P.2.1 P.2.2, ?_⟩
  have := News.setIn (own := []) N (by simp) hn hs ho
  simpa using this
theorem led_drop (F : Fr h₀ L h m) (N : News h₀ L h ((it, o) :: rest)) (hn : ∀ p ∈ rest, p.1 ≠ it) (hs : Heap.ExtBut it h h') : Fr h₀ L h' m ∧ News h₀ L h' rest := by
  have P := N (it, o) (by simp)
  obtain ⟨oL, a1, a2, hL, a3⟩ := F.ns
  refine ⟨⟨⟨oL, a1, a2, hs L oL P.2.1.symm hL, a3⟩, fun b ob e => hs b ob (fun q => ?_) (F.keep b ob e), F.above⟩, fun p hp => ⟨hs p.1 p.2 (hn p hp) (N p (by simp [hp])).1, (N p (by simp [hp])).2⟩⟩
  rw [q, P.2.2] at e; cases e

noncomputable def ForRest (prog : Program) (w : World) (A : Around) (env : Env) (target : PySem.Expr) (body : List Stmt) (Q : Flow → Shared → Prop) (it : Value) (s : Shared) : Prop :=
  codeAny (model prog w) A (.forLoop target it body [] env) (fun r s' => match r with | .ok f => Q f s' | .error e => cameBackBy (model prog w) A env (fun _ _ => False) e s') s

theorem For_start {env : Env} {target iter : PySem.Expr} {body : List Stmt} {pos : Pos} {Q : Flow → Shared → Prop}
    (h : wpAny (model prog w) A (eval iter env) (fun x s₁ => wpAny (model prog w) A (pyIter x) (fun it s₂ => ForRest prog w A env target body Q it s₂) (fun _ _ => False) s₁) (fun _ _ => False) s)
    (hs : ∀ x, foldedSetIterable iter env x = pure x := by intro _; rfl) :
    wpAny (model prog w) A (exec (.For target iter body [] pos) env) Q (fun _ _ => False) s := wpAny_For h hs

theorem ForRest_inv {env : Env} {target : PySem.Expr} {body : List Stmt} {Q : Flow → Shared → Prop} {itv : Value} (J : Nat → Shared → Prop) {n₀ : Nat} (hj : J n₀ s)
    (turn : ∀ n s₁, J n s₁ → wpAny (model prog w) A (pyNext itv) (fun r s₂ => match r with
      | none => Q .next s₂
      | some v => wpAny (model prog w) A (assign target env v) (fun _ s₃ => wpAny (model prog w) A (execs body env) (fun f s₄ => match f with
          | .next | .cont => ∃ n', n' < n ∧ J n' s₄
          | .brk => Q .next s₄
          | .ret v => Q (.ret v) s₄) (fun _ _ => False) s₃) (fun _ _ => False) s₂) (fun _ _ => False) s₁)
    (ht : ∀ v, letOwnedTupleGo target itv v = pure () := by intro _; rfl) : ForRest prog w A env target body Q itv s := by
  refine codeAny_forLoop J (fun n s₁ h₁ => ?_) n₀ hj ht
  refine wpAny_mono (turn n s₁ h₁) (fun r s₂ h₂ => ?_) fun _ _ x => x.elim
  cases r with
  | none => exact wpAny_execs_nil h₂
  | some v =>
    refine wpAny_mono h₂ (fun _ s₃ h₃ => wpAny_mono h₃ (fun f s₄ h₄ => ?_) fun _ _ x => x.elim) fun _ _ x => x.elim
    cases f with
    | next => exact h₄
    | cont => exact h₄
    | brk => exact h₄
    | ret v => exact h₄

/-- the ledger behind a turn -/
inductive RgNext (h₀ : Heap) (L : Addr) (s : Shared) (J : Nat → (PySem.Str → Option Value) → List (Addr × Obj) → Prop) (it : Addr) (oi : Obj) (i : Nat) (s₃ : Shared) : Prop
  | mk (h' : Heap) (tk : Nat) (m₂ : PySem.Str → Option Value) (nx₂ : List (Addr × Obj)) (es : s₃ = { s with heap := h', toks := tk }) (F : Fr h₀ L h' m₂) (N : News h₀ L h' ((it, oi) :: nx₂)) (hne : ∀ p ∈ nx₂, p.1 ≠ it) (hJ : J i m₂ nx₂) : RgNext h₀ L s J it oi i s₃
/-- between two turns -/
inductive RgAt (h₀ : Heap) (L : Addr) (s : Shared) (J : Nat → (PySem.Str → Option Value) → List (Addr × Obj) → Prop) (n : Nat) (it : Addr) (o : Nat → Obj) (k : Nat) (s₁ : Shared) : Prop
  | mk (i : Nat) (m₁ : PySem.Str → Option Value) (nx : List (Addr × Obj)) (h : Heap) (tk : Nat) (es : s₁ = { s with heap := h, toks := tk }) (hk : k = n - i) (hi : i ≤ n) (F : Fr h₀ L h m₁) (N : News h₀ L h ((it, o i) :: nx)) (hne : ∀ p ∈ nx, p.1 ≠ it) (hJ : J i m₁ nx) : RgAt h₀ L s J n it o k s₁
theorem sub_turn {n i k : Nat} (hk : k = n - i) (hi : i < n) : n - (i + 1) < k := by omega
/-- where a turn of a for over a range ends -/
noncomputable def RgStep (h₀ : Heap) (L : Addr) (s : Shared) (J : Nat → (PySem.Str → Option Value) → List (Addr × Obj) → Prop) (Q : Flow → Shared → Prop) (it : Addr) (oi : Obj) (i : Nat) (f : Flow) (s₃ : Shared) : Prop :=
  match f with
  | .next | .cont => RgNext h₀ L s J it oi i s₃
  | .brk => Q .next s₃
  | .ret v => Q (.ret v) s₃

theorem For_range {env : Env} {x : PySem.Str} {px : Pos} {body : List Stmt} {Q : Flow → Shared → Prop} {a b c : Int} {t u v : Tok} (J : Nat → (PySem.Str → Option Value) → List (Addr × Obj) → Prop) (n : Nat)
    (hr : IsRange s.heap r a b c t u v) (hsm : Builtin.Range.small a b c = true) (hn : Builtin.Range.rangeSize a b c = n) (F : Fr h₀ L s.heap m) (N : News h₀ L s.heap news) (hj : J 0 m news)
    (turn : ∀ it i m₁ nx h tk t9, (∀ p ∈ news, p.1 < it) → i < n → Fr h₀ L h m₁ → News h₀ L h ((it, ri (a + c * i + c) ((n : Int) - i - 1) c) :: nx) → (∀ p ∈ nx, p.1 ≠ it) → J i m₁ nx →
      wpAny (model prog w) A (storeName env x (.int (a + c * i) t9)) (fun _ s₂ => wpAny (model prog w) A (execs body env) (RgStep h₀ L s J Q it (ri (a + c * i + c) ((n : Int) - i - 1) c) (i + 1)) (fun _ _ => False) s₂) (fun _ _ => False) { s with heap := h, toks := tk })
    (done : ∀ m₁ nx h tk, Fr h₀ L h m₁ → News h₀ L h nx → J n m₁ nx → Q .next { s with heap := h, toks := tk }) (hh : A.handled = none := by rfl) :
    wpAny (model prog w) A (pyIter (.ref r)) (fun it s₂ => ForRest prog w A env (.Name x px) body Q it s₂) (fun _ _ => False) s := by
  refine wpAny_pyIter_range hr hsm ?_
  rw [hn]
  have e0 : (fun p : Addr × Obj => p) = id := rfl
  refine ForRest_inv (RgAt h₀ L s J n s.heap.objs.size fun i => ri (a + c * i) ((n : Int) - i) c) (n₀ := n)
    ⟨0, m, news, _, s.toks, rfl, rfl, Nat.zero_le _, F.push _, ?_, fun p hp => Nat.ne_of_lt (Heap.lt_size (N p hp).1), hj⟩ ?_
  · have := News.push F N (ri (a + c * (0 : Nat)) ((n : Int) - (0 : Nat)) c)
    simpa using this
  rintro k s₁ ⟨i, m₁, nx, h, tk, rfl, hk, hi, F₁, N₁, hne, hJ⟩
  have hit : IsRangeIter h s.heap.objs.size (a + c * i) ((n : Int) - i) c := (N₁ _ (List.mem_cons_self ..)).1
  by_cases hlt : i < n
  · refine wpAny_pyNext_range_item (s := { s with heap := h, toks := tk }) hit (by omega) fun h' hit' hs => ?_
    obtain ⟨F₂, N₂⟩ := led_change F₁ N₁ hne hs hit'
    refine wpAny_assign_Name (wpAny_mono (turn _ i m₁ nx h' (tk + 1) tk (fun p hp => Heap.lt_size (N p hp).1) hlt F₂ N₂ hne hJ) (fun _ s₃ h₃ => wpAny_mono h₃ (fun f s₄ h₄ => ?_) fun _ _ x => x) fun _ _ x => x)
    have go : RgStep h₀ L s J Q s.heap.objs.size (ri (a + c * i + c) ((n : Int) - i - 1) c) (i + 1) .next s₄ → ∃ n', n' < k ∧ RgAt h₀ L s J n s.heap.objs.size (fun i => ri (a + c * i) ((n : Int) - i) c) n' s₄ := by
      rintro ⟨h'', tk'', m₂, nx₂, rfl, F₃, N₃, hne₃, hJ₃⟩
      refine ⟨n - (i + 1), sub_turn hk hlt, i + 1, m₂, nx₂, h'', tk'', rfl, rfl, hlt, F₃, ?_, hne₃, hJ₃⟩
      have e1 : a + c * ((i + 1 : Nat) : Int) = a + c * i + c := by rw [Int.natCast_add, Int.mul_add]; omega
      have e2 : (n : Int) - ((i + 1 : Nat) : Int) = (n : Int) - i - 1 := by omega
      rw [e1, e2]; exact N₃
    cases f with
    | next => exact go h₄
    | cont => exact go h₄
    | brk => exact h₄
    | ret v => exact h₄
  · have hin : i = n := by omega
    subst hin
    refine wpAny_pyNext_range_end (s := { s with heap := h, toks := tk }) hh hit (by omega) fun h' hs => ?_
    obtain ⟨F₂, N₂⟩ := led_drop F₁ N₁ hne hs
    exact done m₁ nx h' tk F₂ N₂ hJ

theorem For_list {env : Env} {x : PySem.Str} {px : Pos} {body : List Stmt} {Q : Flow → Shared → Prop} (vs : List Value) (J : Nat → (PySem.Str → Option Value) → List (Addr × Obj) → Prop)
    (hl : ∀ i m₁ nx h, Fr h₀ L h m₁ → News h₀ L h nx → J i m₁ nx → h.IsList l vs.toArray) (F : Fr h₀ L s.heap m) (N : News h₀ L s.heap news) (hj : J 0 m news)
    (turn : ∀ it i m₁ nx h tk v, (∀ p ∈ news, p.1 < it) → vs[i]? = some v → Fr h₀ L h m₁ → News h₀ L h ((it, li l (i + 1)) :: nx) → (∀ p ∈ nx, p.1 ≠ it) → J i m₁ nx →
      wpAny (model prog w) A (storeName env x v) (fun _ s₂ => wpAny (model prog w) A (execs body env) (RgStep h₀ L s J Q it (li l (i + 1)) (i + 1)) (fun _ _ => False) s₂) (fun _ _ => False) { s with heap := h, toks := tk })
    (done : ∀ m₁ nx h tk, Fr h₀ L h m₁ → News h₀ L h nx → J vs.length m₁ nx → Q .next { s with heap := h, toks := tk }) (hh : A.handled = none := by rfl) :
    wpAny (model prog w) A (pyIter (.ref l)) (fun it s₂ => ForRest prog w A env (.Name x px) body Q it s₂) (fun _ _ => False) s := by
  refine wpAny_pyIter_list (hl 0 m news s.heap F N hj) ?_
  refine ForRest_inv (RgAt h₀ L s J vs.length s.heap.objs.size (li l)) (n₀ := vs.length)
    ⟨0, m, news, _, s.toks, rfl, rfl, Nat.zero_le _, F.push _, News.push F N _, fun p hp => Nat.ne_of_lt (Heap.lt_size (N p hp).1), hj⟩ ?_
  rintro k s₁ ⟨i, m₁, nx, h, tk, rfl, hk, hi, F₁, N₁, hne, hJ⟩
  have ho := (N₁ _ (List.mem_cons_self ..)).1
  have hit : h.IsListIter s.heap.objs.size l i := ⟨_, ho, rfl, rfl⟩
  have hls := hl i m₁ nx h F₁ (fun p hp => N₁ p (by simp [hp])) hJ
  by_cases hlt : i < vs.length
  · unfold pyNext
    refine wpAny_bind (wpAny_attempt (special_list (s := { s with heap := h, toks := tk }) N₁ F₁ (.head hne) hls (x := vs[i]) (by simp [hlt]) fun h' F₂ N₂ _ _ => ?_))
    refine wpAny_pure ?_
    refine wpAny_assign_Name (wpAny_mono (turn _ i m₁ nx h' tk vs[i] (fun p hp => Heap.lt_size (N p hp).1) (by simp [hlt]) F₂ N₂ hne hJ) (fun _ s₃ h₃ => wpAny_mono h₃ (fun f s₄ h₄ => ?_) fun _ _ x => x) fun _ _ x => x)
    have go : RgStep h₀ L s J Q s.heap.objs.size (li l (i + 1)) (i + 1) .next s₄ → ∃ n', n' < k ∧ RgAt h₀ L s J vs.length s.heap.objs.size (li l) n' s₄ := by
      rintro ⟨h'', tk'', m₂, nx₂, rfl, F₃, N₃, hne₃, hJ₃⟩
      exact ⟨vs.length - (i + 1), sub_turn hk hlt, i + 1, m₂, nx₂, h'', tk'', rfl, rfl, hlt, F₃, N₃, hne₃, hJ₃⟩
    cases f with
    | next => exact go h₄
    | cont => exact go h₄
    | brk => exact h₄
    | ret v => exact h₄
  · have hin : i = vs.length := by omega
    subst hin
    refine wpAny_pyNext_list_end (s := { s with heap := h, toks := tk }) hh hit hls (by simp) fun h' hs => ?_
    obtain ⟨F₂, N₂⟩ := led_drop F₁ N₁ hne hs
    exact done m₁ nx h' tk F₂ N₂ hJ
end
end Mine
end
section
open PySem PySem.W PySem.Calls PyProof.Rows PySem.Spec
set_option Elab.async false
set_option maxRecDepth 100000
set_option maxHeartbeats 8000000
namespace Mine
/-- a text by its signs -/
noncomputable abbrev S (l : List Nat) : PySem.Str := ⟨l.toArray⟩
theorem S_len (l : List Nat) : (S l).length = l.length := by simp [S, Str.length]
theorem S_append (a b : List Nat) : S a ++ S b = S (a ++ b) := by
  apply Str.ext'
  rw [Str.cps_append]
  simp [S]
theorem S_of (x : PySem.Str) : S x.cps.toList = x := by cases x; simp [S]
theorem S_mul (c : Nat) (n : Int) : Txt.mul (S [c]) n = S (List.replicate n.toNat c) := by
  unfold Txt.mul
  by_cases h : n < 1
  · rw [if_pos h]
    have : n.toNat = 0 := by omega
    rw [this]; rfl
  · rw [if_neg h]
    by_cases h1 : (n == 1 || (S [c]).length == 0) = true
    · rw [if_pos h1]
      have e : n = 1 := by
        rw [S_len] at h1
        simpa using h1
      subst e; rfl
    · rw [if_neg h1]
      have key : ∀ (k : Nat) (acc : List Nat), (List.replicate k (S [c]).cps).foldl (· ++ ·) acc.toArray = (acc ++ List.replicate k c).toArray := by
        intro k
        induction k with
        | zero => intro acc; simp
        | succ k ih =>
          intro acc
          rw [List.replicate_succ, List.foldl_cons]
          have : acc.toArray ++ (S [c]).cps = (acc ++ [c]).toArray := by simp [S]
          rw [this, ih (acc ++ [c])]
          simp [List.replicate_succ]
      have := key n.toNat []
      simp only [List.nil_append] at this
      rw [show (#[] : Array Nat) = ([] : List Nat).toArray from rfl, this]
section
variable {prog : Program} {w : World} {A : Around} {E : Value → Shared → Prop} {s : Shared} {a b l : List Nat} {t u : Tok} {Q : Value → Shared → Prop}
theorem S_add (hsz : a.length + b.length ≤ 16777216) (h : ∀ t' k, Q (.str (S (a ++ b)) t') { s with toks := k }) : wpAny (model prog w) A (binaryOp .Add (.str (S a) t) (.str (S b) u)) Q E s :=
  SB.add (fun t' k => S_append a b ▸ h t' k) (by rw [S_len, S_len, sizeLine_eq]; exact hsz)
theorem S_iadd (hsz : a.length + b.length ≤ 16777216) (h : ∀ t' k, Q (.str (S (a ++ b)) t') { s with toks := k }) : wpAny (model prog w) A (inplaceOp .Add (.str (S a) t) (.str (S b) u)) Q E s :=
  SB.iadd (fun t' k => S_append a b ▸ h t' k) (by rw [S_len, S_len, sizeLine_eq]; exact hsz)
theorem S_times {c : Nat} {n : Int} (hn : n ≤ 16777216) (hn2 : -16777216 ≤ n) (h : ∀ t' k, Q (.str (S (List.replicate n.toNat c)) t') { s with toks := k }) : wpAny (model prog w) A (binaryOp .Mult (.str (S [c]) t) (.int n u)) Q E s := by
  refine SB.mul ⟨?_, ?_, ?_⟩ (fun t' k => S_mul c n ▸ h t' k)
  · simp; omega
  · intro h1 _
    rw [S_len]
    have : (2 ^ 63 - 1 : Int) / n ≥ 1 := by
      rw [ge_iff_le, Int.le_ediv_iff_mul_le (by omega)]
      omega
    simp only [List.length_singleton]
    omega
  · intro _ _
    rw [S_len]
    unfold Builtin.Str.tooLong
    simp only [List.length_singleton, Nat.one_mul]
    rw [decide_eq_false_iff_not]
    have := sizeLine_eq
    omega
theorem S_item {value slice : PySem.Expr} {i : Nat} {c : Nat} (hl : l.length ≤ 16777216) (hi : l[i]? = some c) (h : Q (.str (S [c]) s.toks) { s with toks := s.toks + 1 })
    (hs : subscripted slice false (.str (S l) t) (.int i u) = operate [.str (S l) t, .int i u] (getItem (.str (S l) t) (.int i u)) := by with_unfolding_all rfl)
    (ht : ∀ r, letTemporaryGo value (.str (S l) t) r = pure () := by intro _; with_unfolding_all rfl) :
    wpAny (model prog w) A (subscriptTail value slice (.str (S l) t) (.int i u)) Q E s := by
  have hlt : i < l.length := by
    rcases Nat.lt_or_ge i l.length with h | h
    · exact h
    · rw [List.getElem?_eq_none h] at hi; cases hi
  have e : Txt.charAt (S l) (i : Int) = some c := by
    unfold Txt.charAt
    rw [S_len]
    have : seqIndex? (i : Int) l.length = some i := by
      unfold seqIndex?
      simp
      omega
    rw [this]
    simpa using hi
  have e2 : Txt.item (S l) (i : Int) = S [c] := by unfold Txt.item; rw [e]; rfl
  refine tail_of_ItemOn (SB.item ?_ (by rw [e]; rfl) (e2 ▸ h)) hs ht
  unfold fitsSsize
  simp
  omega
end
end Mine
namespace Mine
theorem A_of : Str.ofString "A" = S [65] := by decide +kernel
section
variable {prog : Program} {w : World} {A : Around} {E : Value → Shared → Prop} {s : Shared} {a b l : List Nat} {t u : Tok} {Q : Value → Shared → Prop}
theorem S_timesA {n : Int} (hn : n ≤ 16777216) (hn2 : -16777216 ≤ n) (h : ∀ t' k, Q (.str (S (List.replicate n.toNat 65)) t') { s with toks := k }) : wpAny (model prog w) A (binaryOp .Mult (.str (Str.ofString "A") t) (.int n u)) Q E s :=
  A_of ▸ S_times hn hn2 h
theorem S_itemI {value slice : PySem.Expr} {k : Int} {c : Nat} (hl : l.length ≤ 16777216) (h0 : 0 ≤ k) (hi : l[k.toNat]? = some c) (h : ∀ t' k', Q (.str (S [c]) t') { s with toks := k' })
    (hs : subscripted slice false (.str (S l) t) (.int k u) = operate [.str (S l) t, .int k u] (getItem (.str (S l) t) (.int k u)) := by with_unfolding_all rfl)
    (ht : ∀ r, letTemporaryGo value (.str (S l) t) r = pure () := by intro _; with_unfolding_all rfl) :
    wpAny (model prog w) A (subscriptTail value slice (.str (S l) t) (.int k u)) Q E s := by
  obtain ⟨j, rfl⟩ := Int.eq_ofNat_of_zero_le h0
  exact S_item hl hi (h _ _) hs ht
theorem S_lenc (hl : l.length ≤ 16777216) (h : ∀ t' k, Q (.int (l.length : Nat) t') { s with toks := k }) : wpAny (model prog w) A (call (.builtin "len") [.str (S l) t]) Q E s :=
  len_str (by rw [S_len]; omega) (S_len l ▸ h _ _)
theorem S_ord {c : Nat} (h : ∀ t' k, Q (.int (c : Nat) t') { s with toks := k }) : wpAny (model prog w) A (call (.builtin "ord") [.str (S [c]) t]) Q E s := P.ord_of_char (h _ _)
end
/-- the base-16 number that letters A .. P spell -/
noncomputable def hexv (l : List Nat) : Nat := l.foldl (fun v c => 16 * v + (c - 65)) 0
/-- a triple's number, in two sixes of bits each -/
noncomputable def six : List Nat → List Nat
  | a :: b :: c :: r => (256 * (a - 65) + 16 * (b - 65) + (c - 65)) / 64 :: (256 * (a - 65) + 16 * (b - 65) + (c - 65)) % 64 :: six r
  | _ => []
end Mine
namespace Mine
theorem q_of : Str.ofString "\"" = S [34] := by decide +kernel
theorem b_of : Str.ofString "\\" = S [92] := by decide +kernel
theorem e_of : Str.ofString "" = S [] := by decide +kernel
theorem blanks_of : Str.ofString " \t\x0d\n" = S [32, 9, 13, 10] := by decide +kernel
section
variable {prog : Program} {w : World} {A : Around} {E : Value → Shared → Prop} {s : Shared} {a b l : List Nat} {t u : Tok} {Q : Value → Shared → Prop}
theorem S_add_q (hsz : b.length ≤ 16000000) (h : ∀ t' k, Q (.str (S (34 :: b)) t') { s with toks := k }) : wpAny (model prog w) A (binaryOp .Add (.str (Str.ofString "\"") t) (.str (S b) u)) Q E s :=
  q_of ▸ S_add (a := [34]) (by simp only [List.length_cons, List.length_nil]; omega) h
theorem S_add_rq (hsz : a.length ≤ 16000000) (h : ∀ t' k, Q (.str (S (a ++ [34])) t') { s with toks := k }) : wpAny (model prog w) A (binaryOp .Add (.str (S a) t) (.str (Str.ofString "\"") u)) Q E s :=
  q_of ▸ S_add (b := [34]) (by simp only [List.length_cons, List.length_nil]; omega) h
theorem S_add_b (hsz : b.length ≤ 16000000) (h : ∀ t' k, Q (.str (S (92 :: b)) t') { s with toks := k }) : wpAny (model prog w) A (binaryOp .Add (.str (Str.ofString "\\") t) (.str (S b) u)) Q E s :=
  b_of ▸ S_add (a := [92]) (by simp only [List.length_cons, List.length_nil]; omega) h
/-- one of the four blanks -/
noncomputable def blk (k : Nat) : Nat := [32, 9, 13, 10].getD k 32
theorem S_blank {value slice : PySem.Expr} {k : Nat} (hk : k < 4) (h : ∀ t' k', Q (.str (S [blk k]) t') { s with toks := k' })
    (hs : ∀ i u, subscripted slice false (.str (Str.ofString " \t\x0d\n") t) (.int i u) = operate [.str (Str.ofString " \t\x0d\n") t, .int i u] (getItem (.str (Str.ofString " \t\x0d\n") t) (.int i u)) := by intro _ _; with_unfolding_all rfl)
    (ht : ∀ r, letTemporaryGo value (.str (Str.ofString " \t\x0d\n") t) r = pure () := by intro _; with_unfolding_all rfl) :
    wpAny (model prog w) A (subscriptTail value slice (.str (Str.ofString " \t\x0d\n") t) (.int k u)) Q E s := by
  rw [blanks_of] at hs ht ⊢
  refine S_item (by decide) ?_ (h _ _) (hs _ _) ht
  unfold blk
  match k, hk with
  | 0, _ => rfl
  | 1, _ => rfl
  | 2, _ => rfl
  | 3, _ => rfl
end
end Mine
namespace Mine
theorem S_glue : ∀ (ls : List (List Nat)), Txt.join (Str.ofString "") (ls.map S) = S ls.flatten := by
  intro ls
  show Builtin.Str.glued _ _ = _
  rw [StrLaws.glued_eq_join, e_of]
  induction ls with
  | nil => rfl
  | cons a r ih =>
    cases r with
    | nil => simp [Str.join]
    | cons b r =>
      show S a ++ S [] ++ Str.join (S []) (S b :: r.map S) = _
      rw [show S b :: r.map S = (b :: r).map S from rfl, ih, S_append, S_append]
      simp
section
variable {prog : Program} {w : World} {A : Around} {E : Value → Shared → Prop} {s : Shared} {t : Tok} {Q : Value → Shared → Prop}
theorem S_join {D : Addr} {items : Array Value} {ls : List (List Nat)} (hl : s.heap.IsList D items) (hi : StrsAre items.toList (ls.map S)) (hok : ls.flatten.length ≤ 16000000)
    (h : ∀ t' k, Q (.str (S ls.flatten) t') { s with toks := k }) : wpAny (model prog w) A (call (.builtin "str.join") [.str (Str.ofString "") t, .ref D]) Q E s := by
  refine join_list hl hi ?_ (fun t' k => S_glue ls ▸ h t' k)
  rw [e_of, S_len, List.length_nil, Nat.mul_zero, Nat.add_zero, List.map_map]
  have : ((PySem.Str.length ∘ S) : List Nat → Nat) = List.length := by funext l; exact S_len l
  rw [this, ← List.length_flatten]
  omega
end
end Mine
namespace Mine
section
variable {prog : Program} {w : World} {A : Around} {E : Value → Shared → Prop} {s : Shared} {t u : Tok} {Q : Value → Shared → Prop}
theorem S_blankI {value slice : PySem.Expr} {i : Int} {k : Nat} (hi : i = (k : Int)) (hk : k < 4) (h : ∀ t' k', Q (.str (S [blk k]) t') { s with toks := k' })
    (hs : ∀ i u, subscripted slice false (.str (Str.ofString " \t\x0d\n") t) (.int i u) = operate [.str (Str.ofString " \t\x0d\n") t, .int i u] (getItem (.str (Str.ofString " \t\x0d\n") t) (.int i u)))
    (ht : ∀ r, letTemporaryGo value (.str (Str.ofString " \t\x0d\n") t) r = pure ()) :
    wpAny (model prog w) A (subscriptTail value slice (.str (Str.ofString " \t\x0d\n") t) (.int i u)) Q E s := by
  subst hi
  exact S_blank hk h hs ht
end
end Mine
end
section
open PySem PySem.W PySem.Calls PyProof.Rows PySem.Spec
set_option Elab.async false
set_option maxRecDepth 100000
set_option maxHeartbeats 8000000
namespace Mine
section
variable {prog : Program} {w : World} {A : Around} {E : Value → Shared → Prop} {s : Shared} {h₀ : Heap} {L l : Addr} {m : PySem.Str → Option Value} {news news' : List (Addr × Obj)} {items : Array Value} {n : Nat} {x v : Value} {t u : Tok}

theorem lo_isList (N : News h₀ L s.heap news) (hm : (l, W.listOf items n) ∈ news) : s.heap.IsList l items := ⟨_, (N _ hm).1, rfl, n, rfl⟩
theorem lo_get {k : Int} {Q : Value → Shared → Prop} (N : News h₀ L s.heap news) (hm : (l, W.listOf items n) ∈ news) (h0 : 0 ≤ k) (hf : k < 2 ^ 63) (hx : items[k.toNat]? = some x) (h : Q x s) :
    wpAny (model prog w) A (getItem (.ref l) (.int k t)) Q E s := wpAny_getItem_list (lo_isList N hm) h0 hf hx h
theorem lo_last {Q : Value → Shared → Prop} (N : News h₀ L s.heap news) (hm : (l, W.listOf items n) ∈ news) (hx : items[items.size - 1]? = some x) (h : Q x s) :
    wpAny (model prog w) A (getItem (.ref l) (.int (-1) t)) Q E s := by
  have hp : 0 < items.size := by
    rcases Nat.eq_zero_or_pos items.size with e | e
    · rw [Array.getElem?_eq_none (by omega)] at hx; cases hx
    · exact e
  refine wpAny_getItem_list_neg (lo_isList N hm) (by decide) (by omega) (by decide) ?_ h
  have : ((-1 : Int) + (items.size : Int)).toNat = items.size - 1 := by omega
  rw [this]; exact hx

theorem lo_set {k : Int} {Q : Unit → Shared → Prop} (F : Fr h₀ L s.heap m) (N : News h₀ L s.heap news) (U : Upd l (W.listOf items n) (W.listOf (items.setIfInBounds k.toNat v) n) news news') (h0 : 0 ≤ k) (hfit : k < 2 ^ 63) (hn : k < items.size)
    (h : ∀ h', Fr h₀ L h' m → News h₀ L h' news' → Q () { s with heap := h' }) : wpAny (model prog w) A (setItem (.ref l) (.int k t) v) Q E s := by
  obtain ⟨pre, post, e1, e2, h1, h2⟩ := U.split
  subst e1 e2
  have ho := (N (l, W.listOf items n) (by simp)).1
  have hT : s.TypeIs (.ref l) "list" := ⟨_, ho, rfl⟩
  unfold setItem
  try with_reducible refine wpAny_holding ?_
  first | refine wpAny_bind (wpAny_pure ?_) | skip
  refine wpAny_bind (wpAny_sequenceKey hT (by decide) ?_)
  refine wpAny_bind (wpAny_callSpecial?_slot (name := Str.ofString "__setitem__") hT slot_list_setitem
    (wpAny_call_entry slot_list_setitem hT entry_list_setitem ?_ (args_list_setitem _ _ _)))
  show wpAny _ _ (Builtin.List.listSubscript? (.int k t) >>= _) _ _ s
  refine wpAny_bind (wpAny_listSubscript_int (fitsIndex_of h0 hfit) ?_)
  clear hfit
  obtain ⟨j, rfl⟩ := Int.eq_ofNat_of_zero_le h0
  have hj : j < items.size := by omega
  have hx' : items[j]? = some items[j] := Array.getElem?_eq_getElem hj
  show wpAny _ _ ((seqItemAt l j >>= fun r => pure (r.map (j, ·))) >>= _) _ _ s
  refine wpAny_bind (wpAny_bind (wpAny_seqItemAt ho rfl (wpAny_pure ?_)))
  rw [hx']
  show wpAny _ _ (setSeqItemAt l j v >>= _) _ _ s
  have X := news_upd F N h1 h2 (f := Obj.mapSeq (·.setIfInBounds j v)) (o' := W.listOf (items.setIfInBounds j v) n) (by simp [Obj.mapSeq]) rfl
  refine wpAny_bind (wpAny_setSeqItemAt ho rfl ?_)
  first
    | exact wpAny_bind (wpAny_pure (wpAny_pure ⟨.none, rfl, wpAny_pure (h _ X.1 X.2)⟩))
    | exact wpAny_pure ⟨.none, rfl, wpAny_pure (h _ X.1 X.2)⟩
theorem lo_setLast {Q : Unit → Shared → Prop} (F : Fr h₀ L s.heap m) (N : News h₀ L s.heap news) (U : Upd l (W.listOf items n) (W.listOf (items.setIfInBounds (items.size - 1) v) n) news news') (hn : 0 < items.size) 
    (h : ∀ h', Fr h₀ L h' m → News h₀ L h' news' → Q () { s with heap := h' }) : wpAny (model prog w) A (setItem (.ref l) (.int (-1) t) v) Q E s := by
  obtain ⟨pre, post, e1, e2, h1, h2⟩ := U.split
  subst e1 e2
  have ho := (N (l, W.listOf items n) (by simp)).1
  have hT : s.TypeIs (.ref l) "list" := ⟨_, ho, rfl⟩
  unfold setItem
  try with_reducible refine wpAny_holding ?_
  first | refine wpAny_bind (wpAny_pure ?_) | skip
  refine wpAny_bind (wpAny_sequenceKey hT (by decide) ?_)
  refine wpAny_bind (wpAny_callSpecial?_slot (name := Str.ofString "__setitem__") hT slot_list_setitem
    (wpAny_call_entry slot_list_setitem hT entry_list_setitem ?_ (args_list_setitem _ _ _)))
  show wpAny _ _ (Builtin.List.listSubscript? (.int (-1) t) >>= _) _ _ s
  refine wpAny_bind (wpAny_listSubscript_int (fitsIndex_neg (by decide) (by decide)) ?_)
  have hidx := seqIndex_neg (k := -1) (n := items.size) (by decide) (by omega)
  have e : ((-1 : Int) + (items.size : Int)).toNat = items.size - 1 := by omega
  rw [e] at hidx
  have hx' : items[items.size - 1]? = some items[items.size - 1] := Array.getElem?_eq_getElem (by omega)
  show wpAny _ _ ((Builtin.List.listItems (.ref l) >>= fun xs => pure ((seqIndex? (-1) xs.size).bind fun i => xs[i]?.map (i, ·))) >>= _) _ _ s
  refine wpAny_bind (wpAny_bind ?_)
  show wpAny _ _ (seqItems? (.ref l) >>= _) _ _ s
  refine wpAny_bind (wpAny_seqItems ho rfl (wpAny_pure (wpAny_pure ?_)))
  rw [hidx]
  simp only [Option.bind_some, hx', Option.map_some]
  show wpAny _ _ (setSeqItemAt l (items.size - 1) v >>= _) _ _ s
  have X := news_upd F N h1 h2 (f := Obj.mapSeq (·.setIfInBounds (items.size - 1) v)) (o' := W.listOf (items.setIfInBounds (items.size - 1) v) n) (by simp [Obj.mapSeq]) rfl
  refine wpAny_bind (wpAny_setSeqItemAt ho rfl ?_)
  first
    | exact wpAny_bind (wpAny_pure (wpAny_pure ⟨.none, rfl, wpAny_pure (h _ X.1 X.2)⟩))
    | exact wpAny_pure ⟨.none, rfl, wpAny_pure (h _ X.1 X.2)⟩
end
theorem ints_split : ∀ {vs : List Value} {ns ms : List Int}, IntsAre vs (ns ++ ms) → ∃ us ws, vs = us ++ ws ∧ IntsAre us ns ∧ IntsAre ws ms
  | vs, [], ms, h => ⟨[], vs, rfl, .nil, h⟩
  | vs, n :: ns, ms, h => by
    obtain ⟨t, vs', rfl, h'⟩ := IntsAre.cons_inv (ns := ns ++ ms) h
    obtain ⟨us, ws, rfl, h1, h2⟩ := ints_split h'
    exact ⟨_ :: us, ws, rfl, .cons n t h1, h2⟩
theorem ints_setLast {vs : List Value} {ns : List Int} {a b : Int} {t : Tok} (h : IntsAre vs (ns ++ [a])) : ∃ vs', vs.toArray.setIfInBounds (vs.toArray.size - 1) (.int b t) = vs'.toArray ∧ IntsAre vs' (ns ++ [b]) := by
  obtain ⟨us, ws, rfl, h1, h2⟩ := ints_split h
  obtain ⟨t', ws', rfl, h3⟩ := IntsAre.cons_inv h2
  rw [IntsAre.nil_inv h3]
  refine ⟨us ++ [.int b t], ?_, h1.append (.cons b t .nil)⟩
  simp
theorem ints_snoc2 {vs : List Value} {ns : List Int} {a b : Int} {t u : Tok} (h : IntsAre vs ns) : ∃ vs', (vs.toArray.push (.int a t)).push (.int b u) = vs'.toArray ∧ IntsAre vs' (ns ++ [a, b]) :=
  ⟨vs ++ [.int a t, .int b u], by simp, h.append (.cons a t (.cons b u .nil))⟩
theorem ints_snoc1 {vs : List Value} {ns : List Int} {a : Int} {t : Tok} (h : IntsAre vs ns) : ∃ vs', vs.toArray.push (.int a t) = vs'.toArray ∧ IntsAre vs' (ns ++ [a]) :=
  ⟨vs ++ [.int a t], by simp, h.append (.cons a t .nil)⟩
theorem rsize3 (q : Nat) : Builtin.Range.rangeSize 0 ((3 * q : Nat) : Int) 3 = q := by
  unfold Builtin.Range.rangeSize
  rw [if_pos (by decide)]
  split <;> omega
theorem rsmall {a b c : Int} (ha : -100000 ≤ a ∧ a ≤ 100000) (hb : -100000 ≤ b ∧ b ≤ 100000) (hc : 0 < c ∧ c ≤ 1000) (hs : -100000 ≤ Builtin.Range.rangeSize a b c ∧ Builtin.Range.rangeSize a b c ≤ 100000) : Builtin.Range.small a b c = true := by
  unfold Builtin.Range.small Builtin.Range.rangeFitsLong
  simp only [Bool.and_eq_true, decide_eq_true_eq, Bool.or_eq_true, beq_iff_eq]
  refine ⟨⟨⟨⟨?_, ?_⟩, ?_⟩, ?_⟩, .inr ?_⟩
  · omega
  · omega
  · omega
  · omega
  · rw [if_pos (by omega)]
    simp only [Bool.and_eq_true, decide_eq_true_eq]
    omega
theorem rsz0 (n : Nat) : Builtin.Range.rangeSize 0 n 1 = n := by
  unfold Builtin.Range.rangeSize
  rw [if_pos (by decide)]
  split <;> omega
theorem rsm0 {n : Nat} (h : n ≤ 100000) : Builtin.Range.small 0 n 1 = true := rsmall ⟨by decide, by decide⟩ ⟨by omega, by omega⟩ (by decide) (by rw [rsz0]; omega)
theorem rs1 (n : Nat) : Builtin.Range.rangeSize 1 ((n + 1 : Nat) : Int) 1 = n := by
  unfold Builtin.Range.rangeSize
  rw [if_pos (by decide)]
  split <;> omega
theorem rsm1 {n : Nat} (h : n ≤ 10000) : Builtin.Range.small 1 ((n + 1 : Nat) : Int) 1 = true := rsmall ⟨by decide, by decide⟩ ⟨by omega, by omega⟩ (by decide) (by rw [rs1]; omega)
theorem hexv_append (a b : List Nat) : hexv (a ++ b) = b.foldl (fun v c => 16 * v + (c - 65)) (hexv a) := by simp [hexv]
theorem hexv_pad (k : Nat) (l : List Nat) : hexv (List.replicate k 65 ++ l) = hexv l := by
  have : hexv (List.replicate k 65) = 0 := by
    induction k with
    | zero => rfl
    | succ k ih => rw [List.replicate_succ', hexv_append, ih]; rfl
  rw [hexv_append, this]; rfl
theorem six_hi {a b c : Nat} (ha : a < 81) (hb : b < 81) (hc : c < 81) : (256 * (a - 65) + 16 * (b - 65) + (c - 65)) / 64 < 64 := by
  have h1 : a - 65 ≤ 15 := Nat.sub_le_sub_right (Nat.le_of_lt_succ ha) 65
  have h2 : b - 65 ≤ 15 := Nat.sub_le_sub_right (Nat.le_of_lt_succ hb) 65
  have h3 : c - 65 ≤ 15 := Nat.sub_le_sub_right (Nat.le_of_lt_succ hc) 65
  exact Nat.div_lt_of_lt_mul (Nat.lt_of_le_of_lt (Nat.add_le_add (Nat.add_le_add (Nat.mul_le_mul_left 256 h1) (Nat.mul_le_mul_left 16 h2)) h3) (by decide))
theorem six_lt : ∀ (l : List Nat), (∀ c ∈ l, 65 ≤ c ∧ c < 81) → ∀ a ∈ six l, a < 64
  | [], _ => by simp [six]
  | [_], _ => by simp [six]
  | [_, _], _ => by simp [six]
  | a :: b :: c :: r, h => by
    intro x hx
    have ha := h a (by simp)
    have hb := h b (by simp)
    have hc := h c (by simp)
    rw [six] at hx
    rcases List.mem_cons.mp hx with rfl | hx
    · exact six_hi ha.2 hb.2 hc.2
    · rcases List.mem_cons.mp hx with rfl | hx
      · exact Nat.mod_lt _ (by decide)
      · exact six_lt r (fun y hy => h y (by simp [hy])) x hx
theorem six_vint : ∀ (q : Nat) (l : List Nat) (v : Nat), l.length = 3 * q → (∀ c ∈ l, 65 ≤ c ∧ c < 81) → vint (six l) v = l.foldl (fun v c => 16 * v + (c - 65)) v
  | 0, l, v, h, _ => by
    have : l = [] := List.length_eq_zero_iff.mp (by omega)
    subst this; rfl
  | q + 1, l, v, h, hc => by
    match l, h with
    | a :: b :: c :: r, h =>
      have ha := hc a (by simp)
      have hb := hc b (by simp)
      have hc' := hc c (by simp)
      rw [six]
      simp only [vint, List.foldl_cons]
      have := six_vint q r (64 * (64 * v + (256 * (a - 65) + 16 * (b - 65) + (c - 65)) / 64) + (256 * (a - 65) + 16 * (b - 65) + (c - 65)) % 64) (by simp at h; omega) (fun y hy => hc y (by simp [hy]))
      unfold vint at this
      rw [this]
      congr 1
      rw [Nat.mul_add, Nat.add_assoc, Nat.div_add_mod]
      generalize a - 65 = x, b - 65 = y, c - 65 = z
      omega
theorem six_snoc : ∀ (q : Nat) (l : List Nat) (a b c : Nat), l.length = 3 * q → six (l ++ [a, b, c]) = six l ++ [(256 * (a - 65) + 16 * (b - 65) + (c - 65)) / 64, (256 * (a - 65) + 16 * (b - 65) + (c - 65)) % 64]
  | 0, l, a, b, c, h => by
    have : l = [] := List.length_eq_zero_iff.mp (by omega)
    subst this; rfl
  | q + 1, l, a, b, c, h => by
    match l, h with
    | x :: y :: z :: r, h =>
      have := six_snoc q r a b c (by simp at h; omega)
      simp only [List.cons_append, six, this]
theorem six_len : ∀ (q : Nat) (l : List Nat), l.length = 3 * q → (six l).length = 2 * q
  | 0, l, h => by
    have : l = [] := List.length_eq_zero_iff.mp (by omega)
    subst this; rfl
  | q + 1, l, h => by
    match l, h with
    | x :: y :: z :: r, h =>
      have := six_len q r (by simp at h; omega)
      simp only [six, List.length_cons, this]
      omega
theorem take3 {P : List Nat} {q i : Nat} (hq : P.length = 3 * q) (hi : i < q) : ∃ a b c, P[3 * i]? = some a ∧ P[3 * i + 1]? = some b ∧ P[3 * i + 2]? = some c ∧ P.take (3 * (i + 1)) = P.take (3 * i) ++ [a, b, c] := by
  refine ⟨P[3 * i], P[3 * i + 1], P[3 * i + 2], by simp, by simp, by simp, ?_⟩
  have e : 3 * (i + 1) = 3 * i + 1 + 1 + 1 := by omega
  rw [e, List.take_add_one, List.take_add_one, List.take_add_one, List.getElem?_eq_getElem (show 3 * i < P.length by omega), List.getElem?_eq_getElem (show 3 * i + 1 < P.length by omega), List.getElem?_eq_getElem (show 3 * i + 1 + 1 < P.length by omega)]
  simp only [Option.toList_some, List.append_assoc, List.singleton_append]
  rfl
end Mine
end
section
open PySem PySem.W PySem.Calls PyProof.Rows PySem.Spec
set_option Elab.async false
set_option maxRecDepth 100000
set_option maxHeartbeats 8000000
namespace Mine
theorem keeps_refl (s : Shared) : Keeps s s := ⟨s.heap, s.toks, rfl, fun _ _ e => e⟩
theorem keeps_of {s : Shared} {h' : Heap} {tk : Nat} (k : ∀ b o, s.heap.get? b = some o → h'.get? b = some o) : Keeps s { s with heap := h', toks := tk } := ⟨h', tk, rfl, k⟩
section
variable {prog : Program} {w : World} {A : Around} {E : Value → Shared → Prop} {env : Env} {h₀ : Heap} {L : Addr} {m : PySem.Str → Option Value} {news : List (Addr × Obj)}

/-- what a comprehension asks of its element (and test) -/
structure Elts {α : Type} (prog : Program) (w : World) (A : Around) (env : Env) (scope : Scope) (cl : List (PySem.Str × Addr)) (x : PySem.Str) (ifs : List PySem.Expr) (elt : PySem.Expr) (At : α → Value → Prop) (xs : List α) (pz : α → Bool) (R : α → Value → Prop) (s₁ : Shared) : Prop where
  tests : ∀ C a v s₃ m₃ E', a ∈ xs → At a v → s₁.heap.objs.size ≤ C → s₃.heap.Ns C m₃ → m₃ x = some v → (∀ b o, s₁.heap.get? b = some o → s₃.heap.get? b = some o) →
    wpAny (model prog w) A (forIn ifs true fun c r => if r = true then do let ok ← isTrue c (compEnvC scope cl C env) (eval c (compEnvC scope cl C env)); pure (ForInStep.yield ok) else pure (ForInStep.yield r))
      (fun ok s₄ => ok = pz a ∧ Keeps s₃ s₄) E' s₃
  elt : ∀ C a v s₃ m₃ E', a ∈ xs → At a v → pz a = true → s₁.heap.objs.size ≤ C → s₃.heap.Ns C m₃ → m₃ x = some v → (∀ b o, s₁.heap.get? b = some o → s₃.heap.get? b = some o) →
    wpAny (model prog w) A (eval elt (compEnvC scope cl C env)) (fun y s₄ => R a y ∧ Keeps s₃ s₄) E' s₃

theorem paired_of {α : Type} {At : α → Value → Prop} (hdet : ∀ a a' v, At a v → At a' v → a = a') {pz : α → Bool} {p : Value → Bool} {R : α → Value → Prop} :
    ∀ {xs : List α} {vs ys : List Value}, vs.length = xs.length → (∀ (j : Nat) (v : Value), vs[j]? = some v → ∃ a, xs[j]? = some a ∧ At a v ∧ p v = pz a) → Paired (fun v y => ∃ a, At a v ∧ R a y) (vs.filter p) ys → Paired R (xs.filter pz) ys
  | [], vs, ys, hl, _, hp => by
    have : vs = [] := List.length_eq_zero_iff.mp hl
    subst this
    cases hp
    exact .nil
  | a :: xs, [], ys, hl, _, _ => by cases hl
  | a :: xs, v :: vs, ys, hl, hat, hp => by
    obtain ⟨a', h1, h2, h3⟩ := hat 0 v rfl
    have h1' : a = a' := Option.some.inj h1
    subst h1'
    have rest := fun ys h => paired_of hdet (pz := pz) (p := p) (R := R) (xs := xs) (vs := vs) (ys := ys) (by simpa using hl) (fun j v h => hat (j + 1) v h) h
    rw [List.filter_cons] at hp ⊢
    rw [h3] at hp
    cases hz : pz a with
    | true =>
      rw [hz] at hp
      simp only [if_true] at hp ⊢
      cases hp with
      | cons h4 h5 =>
        obtain ⟨a2, h6, h7⟩ := h4
        rw [hdet a2 a v h6 h2] at h7
        exact .cons h7 (rest _ h5)
    | false =>
      rw [hz] at hp
      simp only [Bool.false_eq_true, if_false] at hp ⊢
      exact rest _ hp

theorem comp_walk {α : Type} {elt : PySem.Expr} {x : PySem.Str} {ifs : List PySem.Expr} {scope : Scope} {cl : List (PySem.Str × Addr)} {s₁ s₂ : Shared} {Q : Value → Shared → Prop} (At : α → Value → Prop) (un : Value → Option α) (hun : ∀ a v, At a v → un v = some a)
    (xs : List α) (pz : α → Bool) (R : α → Value → Prop) {I : Addr} {fp : List Addr} {P : Nat → Value → Prop} {St : Nat → Heap → Prop} {H : Heap}
    (WK : Walks prog w A I fp [I] xs.length P St) (hP : ∀ i v, P i v → ∃ a, xs[i]? = some a ∧ At a v) (hsz : xs.length ≤ sizeLine) (h2 : s₂ = { s₁ with heap := H }) (hst : St 0 H) (hfp : ∀ b ∈ fp, b < H.objs.size) (hI : s₁.heap.objs.size ≤ I) (hIH : s₁.heap.objs.size ≤ H.objs.size)
    (hk : ∀ b o, s₁.heap.get? b = some o → H.get? b = some o) (F : Fr h₀ L s₁.heap m) (N : News h₀ L s₁.heap news) (he : Elts prog w A env scope cl x ifs elt At xs pz R s₁)
    (hQ : ∀ D n ys h' tk, Fr h₀ L h' m → News h₀ L h' ((D, W.listOf ys n) :: news) → (∀ q ∈ news, q.1 ≠ D) → s₁.heap.get? D = none → (∀ b o, s₁.heap.get? b = some o → h'.get? b = some o) → Paired R (xs.filter pz) ys.toList → Q (.ref D) { s₁ with heap := h', toks := tk }) :
    ∃ I' fp wr n P St, Value.ref I = .ref I' ∧ Walks prog w A I' fp wr n P St ∧ n ≤ sizeLine ∧ St 0 s₂.heap ∧ (∀ b ∈ fp, b < s₂.heap.objs.size) ∧
      QuietOnC prog w A env scope cl x ifs elt wr P (fun v => ((un v).map pz).getD false) (fun v y => ∃ a, At a v ∧ R a y) s₂ ∧
      (∀ D h' tk ys (vs : List Value), s₂.heap.get? D = none → h'.IsList D ys → h'.PlainList D ys → vs.length = n → (∀ j v, vs[j]? = some v → P j v) → Paired (fun v y => ∃ a, At a v ∧ R a y) (vs.filter (fun v => ((un v).map pz).getD false)) ys.toList →
        (∀ b o, b ∉ wr → s₂.heap.get? b = some o → h'.get? b = some o) → Q (.ref D) { s₂ with heap := h', toks := tk }) := by
  subst h2
  have old : ∀ b o, s₁.heap.get? b = some o → b ∉ [I] := fun b o e h => by
    rw [List.mem_singleton.mp h] at e
    exact absurd (Heap.lt_size e) (Nat.not_lt.mpr hI)
  refine ⟨I, fp, [I], xs.length, P, St, rfl, WK, hsz, hst, hfp, ⟨?_, ?_⟩, ?_⟩
  · intro C i v s₃ m₃ E' hC hPv hns hm hkeep _
    obtain ⟨a, ha, hat⟩ := hP i v hPv
    rw [hun a v hat]
    exact he.tests C a v s₃ m₃ E' (List.mem_of_getElem? ha) hat (Nat.le_trans hIH hC) hns hm fun b o e => hkeep b o (old b o e) (hk b o e)
  · intro C i v s₃ m₃ E' hC hPv hp hns hm hkeep _
    obtain ⟨a, ha, hat⟩ := hP i v hPv
    rw [hun a v hat] at hp
    exact wpAny_mono (he.elt C a v s₃ m₃ E' (List.mem_of_getElem? ha) hat hp (Nat.le_trans hIH hC) hns hm fun b o e => hkeep b o (old b o e) (hk b o e)) (fun y s₄ h => ⟨⟨a, hat, h.1⟩, h.2⟩) fun _ _ e => e
  · intro D h' tk ys vs hD _ hpl hlen hvs hpair hkeep
    have keep : ∀ b o, s₁.heap.get? b = some o → h'.get? b = some o := fun b o e => hkeep b o (old b o e) (hk b o e)
    have hD1 : s₁.heap.get? D = none := by
      cases q : s₁.heap.get? D with
      | none => rfl
      | some o => rw [show H.get? D = some o from hk D o q] at hD; cases hD
    obtain ⟨n, hn⟩ := hpl
    refine hQ D n ys h' tk (F.keeps keep) ?_ ?_ hD1 keep ?_
    · intro q hq
      rcases List.mem_cons.mp hq with rfl | hq
      · refine ⟨hn, ?_, ?_⟩
        · rintro rfl
          obtain ⟨o, _, _, e, _⟩ := F.ns
          rw [hD1] at e; cases e
        · cases q : h₀.get? D with
          | none => rfl
          | some o => rw [F.keep D o q] at hD1; cases hD1
      · exact ⟨keep _ _ (N q hq).1, (N q hq).2⟩
    · rintro q hq rfl
      rw [(N q hq).1] at hD1; cases hD1
    · refine paired_of (fun a a' v h1 h2 => Option.some.inj ((hun a v h1).symm.trans (hun a' v h2))) hlen (fun j v hv => ?_) hpair
      obtain ⟨a, ha, hat⟩ := hP j v (hvs j v hv)
      exact ⟨a, ha, hat, by rw [hun a v hat]; rfl⟩

/-- an int, a text, as a comprehension's item -/
noncomputable abbrev AtI (n : Int) (v : Value) : Prop := ∃ t, v = .int n t
noncomputable abbrev AtS (x : PySem.Str) (v : Value) : Prop := ∃ t, v = .str x t
noncomputable abbrev AtC (c : Nat) (v : Value) : Prop := ∃ t, v = .str (S [c]) t
noncomputable def unI : Value → Option Int
  | .int n _ => some n
  | _ => none
noncomputable def unS : Value → Option PySem.Str
  | .str x _ => some x
  | _ => none
noncomputable def unC : Value → Option Nat
  | .str x _ => x.cps[0]?
  | _ => none

/-- behind the iterable of a comprehension: a text, a list, a range -/
inductive StrIn (prog : Program) (w : World) (A : Around) (env : Env) (h₀ : Heap) (L : Addr) (m : PySem.Str → Option Value) (news : List (Addr × Obj)) (elt : PySem.Expr) (x : PySem.Str) (ifs : List PySem.Expr) (scope : Scope) (cl : List (PySem.Str × Addr)) (l : List Nat) (pz : Nat → Bool) (R : Nat → Value → Prop) (Q : Value → Shared → Prop) (xv : Value) (s₁ : Shared) : Prop
  | mk (t : Tok) (ex : xv = .str (S l) t) (F : Fr h₀ L s₁.heap m) (N : News h₀ L s₁.heap news) (he : Elts prog w A env scope cl x ifs elt AtC l pz R s₁)
      (hQ : ∀ D n ys h' tk, Fr h₀ L h' m → News h₀ L h' ((D, W.listOf ys n) :: news) → (∀ q ∈ news, q.1 ≠ D) → s₁.heap.get? D = none → (∀ b o, s₁.heap.get? b = some o → h'.get? b = some o) → Paired R (l.filter pz) ys.toList → Q (.ref D) { s₁ with heap := h', toks := tk }) : StrIn prog w A env h₀ L m news elt x ifs scope cl l pz R Q xv s₁
inductive ListIn {α : Type} (prog : Program) (w : World) (A : Around) (env : Env) (h₀ : Heap) (L : Addr) (m : PySem.Str → Option Value) (news : List (Addr × Obj)) (elt : PySem.Expr) (x : PySem.Str) (ifs : List PySem.Expr) (scope : Scope) (cl : List (PySem.Str × Addr)) (At : α → Value → Prop) (xs : List α) (pz : α → Bool) (R : α → Value → Prop) (Q : Value → Shared → Prop) (xv : Value) (s₁ : Shared) : Prop
  | mk (l : Addr) (items : Array Value) (ex : xv = .ref l) (hl : s₁.heap.IsList l items) (hsz : items.size = xs.length) (hat : ∀ (i : Nat) v, items[i]? = some v → ∃ a, xs[i]? = some a ∧ At a v) (F : Fr h₀ L s₁.heap m) (N : News h₀ L s₁.heap news) (he : Elts prog w A env scope cl x ifs elt At xs pz R s₁)
      (hQ : ∀ D n ys h' tk, Fr h₀ L h' m → News h₀ L h' ((D, W.listOf ys n) :: news) → (∀ q ∈ news, q.1 ≠ D) → s₁.heap.get? D = none → (∀ b o, s₁.heap.get? b = some o → h'.get? b = some o) → Paired R (xs.filter pz) ys.toList → Q (.ref D) { s₁ with heap := h', toks := tk }) : ListIn prog w A env h₀ L m news elt x ifs scope cl At xs pz R Q xv s₁
inductive RangeIn (prog : Program) (w : World) (A : Around) (env : Env) (h₀ : Heap) (L : Addr) (m : PySem.Str → Option Value) (news : List (Addr × Obj)) (elt : PySem.Expr) (x : PySem.Str) (ifs : List PySem.Expr) (scope : Scope) (cl : List (PySem.Str × Addr)) (n : Nat) (pz : Int → Bool) (R : Int → Value → Prop) (Q : Value → Shared → Prop) (xv : Value) (s₁ : Shared) : Prop
  | mk (r : Addr) (t u v : Tok) (ex : xv = .ref r) (hr : IsRange s₁.heap r 0 n 1 t u v) (F : Fr h₀ L s₁.heap m) (N : News h₀ L s₁.heap news) (he : Elts prog w A env scope cl x ifs elt AtI ((List.range n).map Int.ofNat) pz R s₁)
      (hQ : ∀ D k ys h' tk, Fr h₀ L h' m → News h₀ L h' ((D, W.listOf ys k) :: news) → (∀ q ∈ news, q.1 ≠ D) → s₁.heap.get? D = none → (∀ b o, s₁.heap.get? b = some o → h'.get? b = some o) → Paired R (((List.range n).map Int.ofNat).filter pz) ys.toList → Q (.ref D) { s₁ with heap := h', toks := tk }) : RangeIn prog w A env h₀ L m news elt x ifs scope cl n pz R Q xv s₁
theorem comp_str {elt iter : PySem.Expr} {x : PySem.Str} {px : Pos} {ifs : List PySem.Expr} {scope : Scope} {cl : List (PySem.Str × Addr)} {pos : Pos} {s : Shared} {Q : Value → Shared → Prop} (l : List Nat) (pz : Nat → Bool) (R : Nat → Value → Prop)
    (hclos : closureFor scope env = pure cl) (hcell : ∀ y ∈ scope.names, y.2 ≠ .cell) (hkind : scope.kind = .function)
    (hnames : ∀ y ∈ scope.names, y.2 = .local → scope.names.lookup y.1 = some .local) (hx : scope.names.lookup x = some .local) (hh : A.handled = none) (hl : l.length ≤ 16777216)
    (h : wpAny (model prog w) A (eval iter env) (StrIn prog w A env h₀ L m news elt x ifs scope cl l pz R Q) E s)
    (hs : ∀ x, foldedSetIterable iter env x = pure x := by intro _; rfl) :
    wpAny (model prog w) A (eval (.ListComp elt [⟨.Name x px, iter, ifs, 0⟩] scope pos) env) Q E s := by
  refine wpAny_ListComp_free (fun v => ((unC v).map pz).getD false) (fun v y => ∃ a, AtC a v ∧ R a y) hclos hcell hkind hnames hx (wpAny_mono h (fun xv s₁ h₁ => ?_) fun _ _ e => e) hs
  obtain ⟨t, rfl, F, N, he, hQ⟩ := h₁
  refine wpAny_pyIter_str fun o St W hst => ?_
  have e : (S l).cps.size = l.length := by simp [S]
  rw [e] at W
  refine (comp_walk (H := s₁.heap.push o) AtC unC (fun a v ⟨t, e⟩ => by subst e; rfl) l pz R (W A hh) (fun i v hv => ?_) (by rw [sizeLine_eq]; exact hl) rfl hst ?_ (Nat.le_refl _) ?_ (fun b o e => Heap.get?_push_of_some _ e) F N he hQ)
  · obtain ⟨c, u, hc, rfl⟩ := hv
    exact ⟨c, by simpa [S] using hc, u, rfl⟩
  · intro b hb
    rw [List.mem_singleton.mp hb, Heap.size_push]; exact Nat.lt_succ_self _
  · rw [Heap.size_push]; exact Nat.le_succ _

/-- over a list that lies in the heap (the ledger's or not) -/
theorem comp_list {α : Type} {elt iter : PySem.Expr} {x : PySem.Str} {px : Pos} {ifs : List PySem.Expr} {scope : Scope} {cl : List (PySem.Str × Addr)} {pos : Pos} {s : Shared} {Q : Value → Shared → Prop} (At : α → Value → Prop) (un : Value → Option α) (hun : ∀ a v, At a v → un v = some a)
    (xs : List α) (pz : α → Bool) (R : α → Value → Prop)
    (hclos : closureFor scope env = pure cl) (hcell : ∀ y ∈ scope.names, y.2 ≠ .cell) (hkind : scope.kind = .function)
    (hnames : ∀ y ∈ scope.names, y.2 = .local → scope.names.lookup y.1 = some .local) (hx : scope.names.lookup x = some .local) (hh : A.handled = none) (hxs : xs.length ≤ 16777216)
    (h : wpAny (model prog w) A (eval iter env) (ListIn prog w A env h₀ L m news elt x ifs scope cl At xs pz R Q) E s)
    (hs : ∀ x, foldedSetIterable iter env x = pure x := by intro _; rfl) :
    wpAny (model prog w) A (eval (.ListComp elt [⟨.Name x px, iter, ifs, 0⟩] scope pos) env) Q E s := by
  refine wpAny_ListComp_free (fun v => ((un v).map pz).getD false) (fun v y => ∃ a, At a v ∧ R a y) hclos hcell hkind hnames hx (wpAny_mono h (fun xv s₁ h₁ => ?_) fun _ _ e => e) hs
  obtain ⟨l, items, rfl, hl, hsz, hat, F, N, he, hQ⟩ := h₁
  refine wpAny_pyIter_list hl ?_
  have hlt : l < s₁.heap.objs.size := by obtain ⟨o, ho, _⟩ := hl; exact Heap.lt_size ho
  have WK := Walks.list (prog := prog) (w := w) hh s₁.heap.objs.size l (Nat.ne_of_lt hlt) items
  rw [hsz] at WK
  refine (comp_walk (H := s₁.heap.push { cls := .type "list_iterator", data := .fields #[.ref l, .int 0 0] }) At un hun xs pz R WK hat (by rw [sizeLine_eq]; exact hxs) rfl ?_ ?_ (Nat.le_refl _) ?_ (fun b o e => Heap.get?_push_of_some _ e) F N he hQ)
  · exact ⟨⟨_, Heap.get?_push_size _ rfl, rfl, rfl⟩, hl.push _⟩
  · intro b hb
    rw [Heap.size_push]
    rcases List.mem_cons.mp hb with rfl | hb
    · exact Nat.lt_succ_self _
    · rw [List.mem_singleton.mp hb]; exact Nat.lt_succ_of_lt hlt
  · rw [Heap.size_push]; exact Nat.le_succ _

theorem comp_range {elt iter : PySem.Expr} {x : PySem.Str} {px : Pos} {ifs : List PySem.Expr} {scope : Scope} {cl : List (PySem.Str × Addr)} {pos : Pos} {s : Shared} {Q : Value → Shared → Prop} (n : Nat) (pz : Int → Bool) (R : Int → Value → Prop)
    (hclos : closureFor scope env = pure cl) (hcell : ∀ y ∈ scope.names, y.2 ≠ .cell) (hkind : scope.kind = .function)
    (hnames : ∀ y ∈ scope.names, y.2 = .local → scope.names.lookup y.1 = some .local) (hx : scope.names.lookup x = some .local) (hh : A.handled = none) (hn : n ≤ 100000)
    (h : wpAny (model prog w) A (eval iter env) (RangeIn prog w A env h₀ L m news elt x ifs scope cl n pz R Q) E s)
    (hs : ∀ x, foldedSetIterable iter env x = pure x := by intro _; rfl) :
    wpAny (model prog w) A (eval (.ListComp elt [⟨.Name x px, iter, ifs, 0⟩] scope pos) env) Q E s := by
  refine wpAny_ListComp_free (fun v => ((unI v).map pz).getD false) (fun v y => ∃ a, AtI a v ∧ R a y) hclos hcell hkind hnames hx (wpAny_mono h (fun xv s₁ h₁ => ?_) fun _ _ e => e) hs
  obtain ⟨r, t, u, v, rfl, hr, F, N, he, hQ⟩ := h₁
  refine wpAny_pyIter_range hr (rsm0 hn) ?_
  rw [rsz0]
  have WK := Walks.range (prog := prog) (w := w) hh s₁.heap.objs.size 0 1 n
  have el : ((List.range n).map Int.ofNat).length = n := by simp
  refine (comp_walk (H := s₁.heap.push { cls := .type "range_iterator", data := .fields #[rawInt 0, rawInt n, rawInt 1] }) AtI unI (fun a v ⟨t, e⟩ => by subst e; rfl) ((List.range n).map Int.ofNat) pz R (fp := [s₁.heap.objs.size]) (P := fun i v => i < n ∧ ∃ t, v = .int (0 + i * 1) t) (St := fun i h => IsRangeIter h s₁.heap.objs.size (0 + (i : Nat) * 1) ((n : Int) - (i : Nat)) 1) ?_ ?_ (by rw [el, sizeLine_eq]; omega) rfl ?_ ?_ (Nat.le_refl _) ?_ (fun b o e => Heap.get?_push_of_some _ e) F N he hQ)
  · rw [el]
    exact ⟨WK.sub, WK.frame, fun i s Q E hi st hq => WK.item i s Q E hi st fun v h' tk hp => hq v h' tk ⟨hi, hp⟩, WK.done, WK.self⟩
  · rintro i v ⟨hi, t, rfl⟩
    exact ⟨(i : Int), by simp [hi], t, by simp⟩
  · have := Heap.get?_push_size s₁.heap (o := ({ cls := .type "range_iterator", data := .fields #[rawInt 0, rawInt n, rawInt 1] } : Obj)) rfl
    simpa using this
  · intro b hb
    rw [List.mem_singleton.mp hb, Heap.size_push]; exact Nat.lt_succ_self _
  · rw [Heap.size_push]; exact Nat.le_succ _
end
end Mine
namespace Mine
theorem paired_strs {α : Type} (f : α → List Nat) : ∀ {xs : List α} {ys : List Value}, Paired (fun a y => ∃ t, y = Value.str (S (f a)) t) xs ys → StrsAre ys ((xs.map f).map S)
  | [], _, h => by cases h; exact .nil
  | a :: xs, _, h => by
    cases h with
    | cons h1 h2 =>
      obtain ⟨t, rfl⟩ := h1
      exact .cons _ t (paired_strs f h2)
theorem no_tests {prog : Program} {w : World} {A : Around} {env : Env} {s : Shared} {E : Value → Shared → Prop} : wpAny (model prog w) A (forIn ([] : List PySem.Expr) true fun c r => if r = true then do let ok ← isTrue c env (eval c env); pure (ForInStep.yield ok) else pure (ForInStep.yield r)) (fun ok s₄ => ok = true ∧ Keeps s s₄) E s := wpAny_pure ⟨rfl, keeps_refl s⟩
theorem filter_all {α : Type} (l : List α) : l.filter (fun _ => true) = l := by simp
end Mine
namespace Mine
/-- a text's signs, as a comprehension's item -/
noncomputable abbrev AtL (l : List Nat) (v : Value) : Prop := ∃ t, v = .str (S l) t
noncomputable def unL : Value → Option (List Nat)
  | .str x _ => some x.cps.toList
  | _ => none
theorem unL_at (l : List Nat) (v : Value) (h : AtL l v) : unL v = some l := by obtain ⟨t, rfl⟩ := h; simp [unL, S]
theorem strs_at {vs : List Value} {ls : List (List Nat)} (h : StrsAre vs (ls.map S)) (i : Nat) (v : Value) (hi : vs.toArray[i]? = some v) : ∃ a, ls[i]? = some a ∧ AtL a v := by
  obtain ⟨y, t, rfl, hy⟩ := h.item i v (by simpa using hi)
  rw [List.getElem?_map] at hy
  cases e : ls[i]? with
  | none => rw [e] at hy; cases hy
  | some a =>
    rw [e] at hy
    exact ⟨a, rfl, t, by rw [← Option.some.inj hy]⟩
end Mine
end
section
open PySem PySem.W PySem.Calls PyProof.Rows PySem.Spec
set_option Elab.async false
set_option maxRecDepth 100000
set_option maxHeartbeats 8000000
namespace Mine
section
variable {prog : Program} {w : World} {K : Frag} {d u : Nat} {f : Addr} {vs : List Value} {s : Shared} {rel : List (Addr × Obj)} {post : Value → List (Addr × Obj) → Heap → Prop}
/-- a def made in a def's body -/
theorem does_ofN {name qual : Str} {params : Arguments} {body : List Stmt} {scope : Scope} {cl : List (Str × Addr)} {dV doc pm ctv : Value} {c' : Addr} {oc : Obj} {cvs : Array Value} {qt : Tok} {binds : List (Str × Value)}
    (ho : (f, kdv_obj name qual params (.stmts body) scope cl dV doc pm c' ctv) ∈ rel) (hc : (c', oc) ∈ rel) (hcf : oc.data = .fields cvs) (hcq : cvs[1]? = some (.str qual qt)) (hroom : d < recursionLimit)
    (hbind : BindsTo s (kdv_fn name qual params (.stmts body) scope cl dV doc pm (.ref c') ctv) ⟨vs, []⟩ binds) (hloc : ∀ y ∈ binds, scope.names.lookup y.1 = some .local) {mbs : List (PySem.Str × Option Value)} (hmb : binds.reverse.map (fun p => (p.1, some p.2)) = mbs)
    (h : ∀ (p : Program) (loose : List Str) (mean : ExcName → Option Value) (mg mb : Str → Option Value) (gd : Option (List Code)) (env : Env) (outer : List Env) (base g h₁ : Heap) (L' : Addr) (Fin : Value → Shared → Prop),
      Fr g L' h₁ (mp mbs) → News g L' h₁ rel → Below (Ar d u gd env outer) base (env :: outer) g → K.In g → Top p loose mean mg mb g → GSub s.heap g (rel.map (·.1)) → s.heap.objs.size = L' → (∀ b o, s.heap.get? b = some o → h₁.get? b = some o) →
      (∀ v h' tk' m' rel', Fr g L' h' m' → News g L' h' rel' → post v rel' h' → Fin v { s with heap := h', toks := tk' }) →
      wpAny (model prog w) ((Ar d u gd env outer).deeper (envX qual scope L' f (.ref c') cl)) (execs body (envX qual scope L' f (.ref c') cl))
        (fun fl s' => Fin (match fl with | .ret v => v | _ => .none) s') (fun _ _ => False) { s with heap := h₁, toks := s.toks + binds.length })
    (hco : scope.isCoroutine = false) (hgen : scope.isGenerator = false) (hk : scope.kind = .function)
    (hcell : ∀ x ∈ scope.names, x.2 ≠ .cell) : Does prog w K d u (.ref f) vs s rel post := by
  intro p loose mean mg mb gd env outer A₀ base h₀ L m Q B F X N T hf hke hret
  obtain ⟨FG, BG, st, lv⟩ := groundX (A := Ar d u gd env outer) (R := fun r s' => match r with | .ok (.ret v) => Q v s' | .ok _ => False | .error _ => False) B F N rfl hf hke
  refine codeAny_call_def (fd := kdv_fn name qual params (.stmts body) scope cl dV doc pm (.ref c') ctv) (body := body) (binds := binds) hroom (N _ ho).1 rfl (T.nolimit.keeps F.keep) (codeRec_news N hc hcf hcq) rfl hbind hcell hloc (fun h₁ hns hk₁ => ?_) hco hgen hk
  refine wpAny_mono (h p loose mean mg mb gd env outer base (hideAll s.heap (rel.map fun x : Addr × Obj => x.1)) h₁ s.heap.objs.size (fun v s' => Q v s')
    (hmb ▸ mp_binds binds.reverse ▸ ⟨hns, fun b o e => hk₁ b o (of_hideAll _ e), Nat.le_of_eq (hideAll_size _ _)⟩)
    (fun p hp => ⟨hk₁ _ _ (N p hp).1, Nat.ne_of_lt (Heap.lt_size (N p hp).1), hideAll_none _ (List.mem_map_of_mem hp)⟩) BG (X.keeps st) (T.keeps st) gsub_hide rfl hk₁ ?_) (fun fl s' hl => hl) fun _ _ y => y.elim
  intro v h' tk' m' rel' F' N' hp
  refine lv v { s with heap := h', toks := tk' } ⟨_, m', rel', F', N', fun F₂ N₂ => ?_⟩
  exact hret v h' tk' rel' F₂ N₂ (fun b o e n => F'.keep b o (gsub_hide b o e n)) hp
end
set_option genInjectivity false in
set_option genSizeOfSpec false in
/-- a fresh lexer's addresses, objects that never turn, and marks -/
structure LexA where
  (ct cp pl c f ds xs pbs d x pb : Addr)
  (of oc ocp oct : Obj)
  (k1 k2 k3 k4 k5 u1 u2 u3 u4 u5 v1 v2 v3 : Tok)
noncomputable def LexA.ok (a : LexA) : Prop :=
  (84 : Nat) < a.ct ∧ @LT.lt Nat _ a.ct a.cp ∧ @LT.lt Nat _ a.cp a.pl ∧ @LT.lt Nat _ a.pl a.c ∧ @LT.lt Nat _ a.c a.f ∧ @LT.lt Nat _ a.f a.ds ∧ @LT.lt Nat _ a.ds a.xs ∧ @LT.lt Nat _ a.xs a.pbs ∧ @LT.lt Nat _ a.pbs a.d ∧ @LT.lt Nat _ a.d a.x ∧ @LT.lt Nat _ a.x a.pb
noncomputable abbrev readL (a : LexA) (p : Nat) (tp : Tok) : List (Addr × Obj) := [(a.f, a.of), (a.c, a.oc), (a.pl, W.listOf #[.int p tp] 0), (a.cp, a.ocp), (a.ct, a.oct)]
noncomputable def FnObj (o : Obj) : Prop := ∃ oc od fd sl, o = ⟨oc, od, .func fd, sl⟩
theorem FnAt.ofObj {h₀ h : Heap} {L q : Addr} {o : Obj} {news : List (Addr × Obj)} (f : FnObj o) (N : News h₀ L h news) (hm : (q, o) ∈ news) : FnAt q h := by
  obtain ⟨oc, od, fd, sl, rfl⟩ := f
  exact ⟨oc, od, fd, sl, (N _ hm).1⟩
/-- what the stream's read does -/
noncomputable def ReadSpec (prog : Program) (w : World) (K : Frag) (tx : List Nat) (a : LexA) : Prop :=
  FnObj a.of ∧ ∀ (s : Shared) (p : Nat) (tp t1 : Tok), p ≤ tx.length → Does prog w K 970 9700 (.ref a.f) [.int 1 t1] s (readL a p tp)
    (fun v rel' _ => ∃ t tp', v = .str (S ((tx.drop p).take 1)) t ∧ rel' = readL a (p + ((tx.drop p).take 1).length) tp')
noncomputable abbrev ent (w : World) (n : String) (t : Tok) (v : Value) : DictEntry := { hash := PyData.keyHash w.params (PySem.Str.ofString n), key := .str (PySem.Str.ofString n) t, val := v }
noncomputable abbrev topL (w : World) (a : LexA) (ln : Nat) (tln : Tok) (ws : Array Value) (n : Nat) : List (Addr × Obj) :=
  [(a.pb, W.listOf ws n), (a.x, instObj 52 a.d),
   (a.d, dictOf [ent w "lineno" a.k1 (.int ln tln), ent w "instream" a.k2 (.ref a.xs), ent w "whitespace" a.k3 (.str (PySem.Str.ofString "\n\t\r ") a.v1), ent w "pushback" a.k4 (.ref a.pb)] 4),
   (a.pbs, W.listOf #[] 0), (a.xs, instObj 52 a.ds),
   (a.ds, dictOf [ent w "lineno" a.u1 (.int 1 a.v2), ent w "instream" a.u2 .none, ent w "whitespace" a.u3 (.str (PySem.Str.ofString "\n\t\r ") a.v3), ent w "pushback" a.u4 (.ref a.pbs), ent w "read" a.u5 (.ref a.f)] 5)]
noncomputable def lexL (w : World) (a : LexA) (p : Nat) (tp : Tok) (ln : Nat) (tln : Tok) (ws : Array Value) (n : Nat) : List (Addr × Obj) := topL w a ln tln ws n ++ readL a p tp
section
variable {w : World} {a : LexA} {p p' ln ln' n n' : Nat} {tp tp' tln tln' : Tok} {ws ws' : Array Value} {g h h' : Heap} {L : Addr}
theorem lex_fst : (lexL w a p tp ln tln ws n).map (·.1) = [a.pb, a.x, a.d, a.pbs, a.xs, a.ds, a.f, a.c, a.pl, a.cp, a.ct] := rfl
theorem read_in : ∀ q ∈ readL a p tp, q ∈ lexL w a p tp ln tln ws n := fun _ hq => List.mem_append_right _ hq
theorem news_read (hok : a.ok) (N : News g L h (lexL w a p tp ln tln ws n)) (N' : News g L h' (readL a p' tp')) (G : GSub h h' ((readL a p tp).map (·.1))) : News g L h' (lexL w a p' tp' ln tln ws n) := by
  have M := news_after N N' G (topL w a ln tln ws n) (fun q hq => List.mem_append_left _ hq) ?_
  · intro q hq
    refine M q ?_
    rcases List.mem_append.mp hq with h | h
    · exact List.mem_append_right _ h
    · exact List.mem_append_left _ h
  · unfold LexA.ok at hok
    intro q hq hm
    have hm : (q.1 : Nat) ∈ ([a.f, a.c, a.pl, a.cp, a.ct] : List Nat) := hm
    have hq : (q.1 : Nat) ∈ ([a.pb, a.x, a.d, a.pbs, a.xs, a.ds] : List Nat) := List.mem_map_of_mem (f := fun p : Addr × Obj => p.1) hq
    simp only [List.mem_cons, List.not_mem_nil, or_false] at hq hm
    obtain ⟨-, k1, k2, k3, k4, k5, k6, k7, k8, k9, k10⟩ := hok
    have hi : @LT.lt Nat _ a.f q.1 := by
      have g6 := Nat.lt_trans k5 k6
      have g7 := Nat.lt_trans g6 k7
      have g8 := Nat.lt_trans g7 k8
      have g9 := Nat.lt_trans g8 k9
      rcases hq with e | e | e | e | e | e
      · exact e ▸ Nat.lt_trans g9 k10
      · exact e ▸ g9
      · exact e ▸ g8
      · exact e ▸ g7
      · exact e ▸ g6
      · exact e ▸ k5
    have lo : @LE.le Nat _ q.1 a.f := by
      have g3 := Nat.lt_trans k3 k4
      have g2 := Nat.lt_trans k2 g3
      rcases hm with e | e | e | e | e
      · exact Nat.le_of_eq e
      · exact e ▸ Nat.le_of_lt k4
      · exact e ▸ Nat.le_of_lt g3
      · exact e ▸ Nat.le_of_lt g2
      · exact e ▸ Nat.le_of_lt (Nat.lt_trans k1 g2)
    exact Nat.lt_irrefl _ (Nat.lt_of_lt_of_le hi lo)
end
theorem nl_of : PySem.Str.ofString "\n" = S [10] := by decide +kernel
theorem S_slice1 (l : List Nat) (p : Nat) (hp : p ≤ l.length) : Txt.slice (S l) (some (p : Int)) (some ((p : Int) + 1)) = S ((l.drop p).take 1) := by
  rcases Nat.lt_or_eq_of_le hp with h | h
  · have := eq_of_beq (slice_closes (x := S l) (i := p) (j := p + 1) ⟨by omega, by omega, by simp [S]; omega⟩)
    rw [this]
    simp [S, show ((p : Int) + 1 - p).toNat = 1 by omega]
  · subst h
    have e : Builtin.Str.strSliceIndices (some (l.length : Int)) (some ((l.length : Int) + 1)) 1 (S l).length = [] := by
      rw [S_len]
      unfold Builtin.Str.strSliceIndices sliceRange
      simp
      omega
    unfold Txt.slice
    rw [e]
    have e2 : (l.drop l.length).take 1 = [] := by simp
    rw [e2]
    split
    · rename_i h
      have : l = [] := List.length_eq_zero_iff.mp (by simpa [S_len] using h.symm : 0 = l.length).symm
      rw [this]
    · rfl
theorem S_len1 {prog : Program} {w : World} {A : Around} {E : Value → Shared → Prop} {s : Shared} {Q : Value → Shared → Prop} {tx : List Nat} {p : Nat} {t : Tok} (hp : p ≤ tx.length) (h : ∀ t' k, Q (.int (((tx.drop p).take 1).length : Nat) t') { s with toks := k }) :
    wpAny (model prog w) A (call (.builtin "len") [.str (Txt.slice (S tx) (some (List.getD [(p : Int)] (Int.toNat 0) 0)) (some (List.getD [(p : Int)] (Int.toNat 0) 0 + 1))) t]) Q E s := by
  have e : Txt.slice (S tx) (some (List.getD [(p : Int)] (Int.toNat 0) 0)) (some (List.getD [(p : Int)] (Int.toNat 0) 0 + 1)) = S ((tx.drop p).take 1) := S_slice1 tx p hp
  rw [e]
  exact S_lenc (by simp; omega) h
end Mine
end
section
open PySem PySem.W PySem.Calls PyProof.Rows PySem.Spec
set_option Elab.async false
set_option maxRecDepth 100000
set_option maxHeartbeats 8000000
namespace Mine
theorem slot_ci_next : Slot "callable_iterator" "__next__" "callable_iterator.__next__" :=
  .of (owner := "callable_iterator") (n := "__next__") (by rw [typeLookup_type, builtinLookup_eq_fast]; kernel_rfl) (by decide +kernel) (by decide +kernel) (by decide +kernel)
    (by first | exact .inl (by decide +kernel) | exact .inr (by decide +kernel)) (by rw [isSubtype_type]; kernel_rfl)
theorem slot_ci_iter : Slot "callable_iterator" "__iter__" "callable_iterator.__iter__" :=
  .of (owner := "callable_iterator") (n := "__iter__") (by rw [typeLookup_type, builtinLookup_eq_fast]; kernel_rfl) (by decide +kernel) (by decide +kernel) (by decide +kernel)
    (by first | exact .inl (by decide +kernel) | exact .inr (by decide +kernel)) (by rw [isSubtype_type]; kernel_rfl)
theorem slot_meth_call : Slot "method" "__call__" "method.__call__" :=
  .of (owner := "method") (n := "__call__") (by rw [typeLookup_type, builtinLookup_eq_fast]; kernel_rfl) (by decide +kernel) (by decide +kernel) (by decide +kernel)
    (by first | exact .inl (by decide +kernel) | exact .inr (by decide +kernel)) (by rw [isSubtype_type]; kernel_rfl)
theorem entry_ci_next : entryFor table "callable_iterator.__next__" = some Builtin.«callable_iterator.__next__» := entryFor_of_fast (by kernel_rfl)
theorem entry_ci_iter : entryFor table "callable_iterator.__iter__" = some Builtin.«dict_keyiterator.__iter__» :=
  entryFor_alias (id' := "dict_keyiterator.__iter__") (by kernel_rfl) rfl (by decide +kernel) (by kernel_rfl)
theorem args_ci_next (a : Value) : argsOk "callable_iterator.__next__" ⟨[a], []⟩ := by unfold argsOk; kernel_rfl
theorem args_ci_iter (a : Value) : argsOk "callable_iterator.__iter__" ⟨[a], []⟩ := by unfold argsOk; kernel_rfl
theorem args_iter2 (a b : Value) : argsOk "iter" ⟨[a, b], []⟩ := by unfold argsOk; kernel_rfl
noncomputable abbrev ci (q : Addr) (t : Tok) : Obj := { cls := .type "callable_iterator", data := .fields #[.ref q, .str (PySem.Str.ofString "") t, .bool false] }
section
variable {prog : Program} {w : World} {A : Around} {E : Value → Shared → Prop} {s : Shared} {h₀ : Heap} {L it q g x : Addr} {m : PySem.Str → Option Value} {news : List (Addr × Obj)} {t : Tok} {f self : Value}
theorem iter_two {Q : Value → Shared → Prop} (F : Fr h₀ L s.heap m) (N : News h₀ L s.heap news) (hq : (q, methodObj f self) ∈ news)
    (h : ∀ (I : Addr) h', Fr h₀ L h' m → News h₀ L h' ((I, ci q t) :: news) → (∀ p ∈ news, p.1 < I) → Q (.ref I) { s with heap := h' }) :
    wpAny (model prog w) A (call (.builtin "iter") [.ref q, .str (PySem.Str.ofString "") t]) Q E s := by
  refine call_function_entry (by decide +kernel) (by decide +kernel) kdk_entry_iter (args_iter2 _ _) ?_
  unfold Builtin.«iter»
  refine wpAny_bind (m := someArgs "iter" 1 2 _) (wpAny_of_eq (a := [Value.ref q, .str (PySem.Str.ofString "") t]) (by first | rfl | kernel_rfl!) ?_)
  dsimp only
  refine wpAny_bind (wpAny_specialOf (T := "method") ⟨_, (N _ hq).1, rfl⟩ slot_meth_call.lookup ?_)
  refine wpAny_ite_split (fun hab => absurd hab (by decide)) (fun _ => ?_)
  refine wpAny_bind (wpAny_rule ?_)
  exact wpAny_bind (wpAny_newObj_type (wpAny_pure ⟨_, rfl, h _ _ (F.push _) (News.push F N _ rfl) (fun p hp => Heap.lt_size (N p hp).1)⟩))
theorem iter_ci {Q : Value → Shared → Prop} (N : News h₀ L s.heap news) (hm : (it, ci q t) ∈ news) (h : Q (.ref it) s) : wpAny (model prog w) A (pyIter (.ref it)) Q E s := by
  have hit : s.TypeIs (.ref it) "callable_iterator" := ⟨_, (N _ hm).1, rfl⟩
  refine wpAny_pyIter_slot hit slot_ci_iter (wpAny_call_entry slot_ci_iter hit entry_ci_iter ?_ (args_ci_iter _))
  show wpAny _ _ (ret (.ref it)) _ _ s
  exact wpAny_pure ⟨_, rfl, "callable_iterator", _, hit, slot_ci_next.lookup, h⟩
theorem borrowed_call {v : Value} {vs : List Value} {Q : Value → Shared → Prop} (hc : codeAny (model prog w) A (.call v ⟨vs, []⟩) (fun r s' => match r with | .ok (.ret v) => Q v s' | .ok _ => False | .error e => E e s') s) :
    wpAny (model prog w) A (callBorrowed v vs) Q E s := fun Γ p hΓ => by
  have := hc _ p rfl (hΓ.enter (.call v ⟨vs, []⟩) none p (by intro x; cases x))
  unfold callBorrowed
  rw [Sem.wp_call]
  refine wpCode_mono (fun r s' hr => ?_) this
  match r, hr with
  | .ok (.ret v), hr => exact hr
  | .error e, hr => exact hr
theorem borrows {go : Obj} {fd : FuncData} {Q : Bool → Shared → Prop} (hq : s.heap.get? q = some (methodObj (.ref g) self)) (hg : s.heap.get? g = some go) (hgd : go.data = .func fd) (h : Q true s) :
    wpAny (model prog w) A (borrowsExactly (.ref q)) Q E s := by
  unfold borrowsExactly
  dsimp only
  refine wpAny_bind (wpAny_load hq ?_)
  dsimp only
  refine wpAny_ite_split (fun _ => ?_) (fun hab => absurd rfl hab)
  refine wpAny_bind (wpAny_load hg ?_)
  rw [hgd]
  exact wpAny_pure h
theorem next_ci {go : Obj} {fd : FuncData} {Q : Option Value → Shared → Prop} (N : News h₀ L s.heap news) (hm : (it, ci q t) ∈ news) (hq : (q, methodObj (.ref g) (.ref x)) ∈ news) (hg : s.heap.get? g = some go) (hgd : go.data = .func fd) (hh : A.handled = none)
    (hc : codeAny (model prog w) A.in1 (.call (.ref g) ⟨[.ref x], []⟩) (fun r s' => match r with
      | .ok (.ret v) => ∃ l t', v = .str (S l) t' ∧ s'.heap.get? it = some (ci q t) ∧ s'.heap.get? q = some (methodObj (.ref g) (.ref x)) ∧ s'.heap.get? g = some go ∧ (l ≠ [] → Q (some v) s') ∧ (l = [] → ∀ h' tk, Heap.ExtBut it s'.heap h' → Q none { s' with heap := h', toks := tk })
      | .ok _ => False
      | .error _ => False) s) :
    wpAny (model prog w) A (pyNext (.ref it)) Q E s := by
  have ho := (N _ hm).1
  have hit : s.TypeIs (.ref it) "callable_iterator" := ⟨_, ho, rfl⟩
  unfold pyNext
  refine wpAny_bind (wpAny_attempt (wpAny_callSpecial?_slot (name := Str.ofString "__next__") hit slot_ci_next
    (wpAny_call_entry slot_ci_next hit entry_ci_next ?_ (args_ci_next _))))
  show wpAny _ _ (field (.ref it) 2 >>= _) _ _ s
  refine wpAny_bind (wpAny_field ho rfl (x := .bool false) rfl ?_)
  show wpAny _ _ (if (Value.bool false == Value.bool true) = true then _ else _) _ _ s
  rw [if_neg (by decide)]
  show wpAny _ _ (field (.ref it) 0 >>= _) _ _ s
  refine wpAny_bind (wpAny_field ho rfl (x := .ref q) rfl ?_)
  refine wpAny_bind (wpAny_attempt ?_)
  unfold callOutOfASlot
  refine wpAny_bind (borrows (N _ hq).1 hg hgd ?_)
  show wpAny _ _ (callBorrowed (.ref q) []) _ _ s
  refine borrowed_call (method_call (N _ hq).1 (codeAny_mono hc fun r s' hr => ?_))
  match r, hr with
  | .ok (.ret v), hr =>
    obtain ⟨l, t', rfl, h1, h2, h3, h4, h5⟩ := hr
    dsimp only
    show wpAny _ _ (field (.ref it) 2 >>= _) _ _ s'
    refine wpAny_bind (wpAny_field h1 rfl (x := .bool false) rfl ?_)
    show wpAny _ _ (if (Value.bool false == Value.bool true) = true then _ else _) _ _ s'
    rw [if_neg (by decide)]
    show wpAny _ _ (field (.ref it) 1 >>= _) _ _ s'
    refine wpAny_bind (wpAny_field h1 rfl (x := .str (PySem.Str.ofString "") t) rfl ?_)
    refine wpAny_bind (wpAny_holding (eqBool_str ?_))
    rw [e_of]
    by_cases hl : l = []
    · subst hl
      have e1 : (S [] == S []) = true := by decide
      rw [e1]
      show wpAny _ _ (rule "callable_iterator.__next__.sentinel" >>= _) _ _ s'
      refine wpAny_bind (wpAny_rule (wpAny_bind ?_))
      show wpAny _ _ (field (.ref it) 0 >>= _) _ _ s'
      refine wpAny_bind (wpAny_field h1 rfl (x := .ref q) rfl ?_)
      refine wpAny_bind (m := slotLetsGo _ _ _) ?_
      unfold slotLetsGo
      dsimp only
      refine wpAny_bind (borrows h2 h3 hgd ?_)
      rw [if_pos rfl]
      refine wpAny_pure (wpAny_bind (wpAny_setField h1 rfl (by simp) ?_))
      refine wpAny_bind (wpAny_setField (Heap.get?_update_self _ h1 rfl) rfl (by simp) ?_)
      refine wpAny_setField (Heap.get?_update_self _ (Heap.get?_update_self _ h1 rfl) rfl) rfl (by simp) ?_
      show wpAny _ _ (newExc (.type "StopIteration") [] >>= _) _ _ _
      refine wpAny_bind ?_
      simp only [newExc, newTuple]
      refine wpAny_bind (wpAny_newObj_type ?_ (by size_fits))
      refine wpAny_bind (m := firstArgMember _ _) (wpAny_of_eq (a := Value.none) (by first | rfl | (simp only [firstArgMember]; rfl)) ?_)
      refine wpAny_newObj_type ?_ (by size_fits)
      simp only [raiseNew]
      refine wpAny_bind (wpAny_handled ?_)
      rw [show A.in1.handled = none from hh]
      refine wpAny_bind (wpAny_pure (wpAny_throw ?_))
      refine wpAny_bind (wpAny_isInstance (T := "StopIteration") (b := true) ⟨_, Heap.get?_push_size _ rfl, rfl⟩ isSubtype_stop ?_)
      exact wpAny_pure (h5 rfl _ _ ((((((Heap.SameBut.update ..).trans (Heap.SameBut.update ..)).trans (Heap.SameBut.update ..)).extBut.push _).push _)))
    · have e1 : (S [] == S l) = false := by
        rw [beq_eq_false_iff_ne]
        intro e
        exact hl (by simpa using (congrArg (fun x => x.cps.toList) e).symm)
      rw [e1]
      exact wpAny_pure ⟨_, rfl, wpAny_pure (h4 hl)⟩
theorem lo_pop0 {l : Addr} {v0 : Value} {vs : List Value} {n : Nat} {news' : List (Addr × Obj)} {Q : Value → Shared → Prop} (F : Fr h₀ L s.heap m) (N : News h₀ L s.heap news) (U : Upd l (W.listOf (v0 :: vs).toArray n) (W.listOf vs.toArray (n + 1)) news news') (hn : vs.length ≤ 1000)
    (h : ∀ h', Fr h₀ L h' m → News h₀ L h' news' → Q v0 { s with heap := h' }) : wpAny (model prog w) A (call (.builtin "list.pop") [.ref l, .int 0 t]) Q E s := by
  obtain ⟨pre, post, e1, e2, h1, h2⟩ := U.split
  subst e1 e2
  have ho := (N (l, W.listOf (v0 :: vs).toArray n) (by simp)).1
  refine call_meets PySem.F.slot_list_pop ⟨_, ho, rfl⟩ PySem.F.entry_list_pop (PySem.F.args_list_pop_2 _ _) (PySem.MeetsSeq.list_pop_at l (v0 :: vs).toArray n 0 t 0 v0 (by decide) ?_ rfl (by rw [sizeLine_eq]; simp; omega)) ⟨ho, ?_⟩
  · unfold seqIndex?
    simp
  · have X := news_upd F N h1 h2 (f := Obj.mapSeq fun xs => xs.eraseIdxIfInBounds 0) (o' := W.listOf vs.toArray (n + 1)) (by simp [Obj.mapSeq]) rfl
    exact h _ X.1 X.2
end
end Mine
end
section
open PySem PySem.W PySem.Calls PyProof.Rows PySem.Spec
set_option Elab.async false
set_option maxRecDepth 100000
set_option maxHeartbeats 8000000
namespace Mine
section
variable {prog : Program} {w : World} {A : Around} {E : Value → Shared → Prop} {env : Env} {h₀ h h' : Heap} {L a : Addr} {m : PySem.Str → Option Value} {nx : List (Addr × Obj)}
theorem chg (F : Fr h₀ L h m) (N : News h₀ L h nx) (hs : Heap.SameBut a h h') (hL : a ≠ L) (hn : h₀.get? a = none) (hd : a ∉ nx.map (·.1)) : Fr h₀ L h' m ∧ News h₀ L h' nx :=
  ⟨F.change hs hL hn, fun q hq => ⟨(hs.2 q.1 (fun e => hd (e ▸ List.mem_map_of_mem hq))).trans (N q hq).1, (N q hq).2⟩⟩
theorem chgX (F : Fr h₀ L h m) (N : News h₀ L h nx) (hs : Heap.ExtBut a h h') (hL : a ≠ L) (hn : h₀.get? a = none) (hd : a ∉ nx.map (·.1)) : Fr h₀ L h' m ∧ News h₀ L h' nx := by
  obtain ⟨oL, a1, a2, hoL, a3⟩ := F.ns
  refine ⟨⟨⟨oL, a1, a2, hs L oL hL.symm hoL, a3⟩, fun b ob e => hs b ob (fun q => ?_) (F.keep b ob e), F.above⟩, fun q hq => ⟨hs q.1 q.2 (fun e => hd (e ▸ List.mem_map_of_mem hq)) (N q hq).1, (N q hq).2⟩⟩
  rw [q, hn] at e; cases e

/-- behind an element that may turn the ledger -/
inductive EltOut (h₀ : Heap) (L : Addr) (m : PySem.Str → Option Value) (s₁ : Shared) (h : Heap) (J : List Value → List (Addr × Obj) → Prop) (ys : List Value) (dom : List Addr) (v : Value) (s₄ : Shared) : Prop
  | mk (h' : Heap) (tk' : Nat) (nx' : List (Addr × Obj)) (es : s₄ = { s₁ with heap := h', toks := tk' }) (F : Fr h₀ L h' m) (N : News h₀ L h' nx') (hJ : J (ys ++ [v]) nx') (G : GSub h h' (L :: dom)) : EltOut h₀ L m s₁ h J ys dom v s₄
/-- behind the range of such a comprehension -/
inductive RgIn (prog : Program) (w : World) (A : Around) (env : Env) (h₀ : Heap) (L : Addr) (elt : PySem.Expr) (x y : PySem.Str) (scope : Scope) (cl : List (PySem.Str × Addr)) (n : Nat) (J : Nat → List Value → List (Addr × Obj) → Prop) (dom : List Addr) (Q : Flow → Shared → Prop) (xv : Value) (s₁ : Shared) : Prop
  | mk (r : Addr) (t u v : Tok) (m : PySem.Str → Option Value) (news : List (Addr × Obj)) (ex : xv = .ref r) (hr : IsRange s₁.heap r 0 n 1 t u v) (F : Fr h₀ L s₁.heap m) (N : News h₀ L s₁.heap news) (hJ : J 0 [] news)
      (helt : ∀ i ys nx h tk C mC, i < n → ys.length = i → J i ys nx → Fr h₀ L h m → News h₀ L h nx → h.Ns C mC → (∃ t, mC x = some (.int (i : Int) t)) →
        wpAny (model prog w) A (eval elt (compEnvC scope cl C env)) (EltOut h₀ L m s₁ h (J (i + 1)) ys dom) (fun _ _ => False) { s₁ with heap := h, toks := tk })
      (hQ : ∀ D k ys nx h tk, Fr h₀ L h (fun z => if z = y then some (.ref D) else m z) → News h₀ L h ((D, W.listOf ys.toArray k) :: nx) → D ∉ dom → ys.length = n → J n ys nx → Q .next { s₁ with heap := h, toks := tk }) : RgIn prog w A env h₀ L elt x y scope cl n J dom Q xv s₁
/-- between two of its turns -/
inductive CompAt (h₀ : Heap) (L : Addr) (m : PySem.Str → Option Value) (s₁ : Shared) (n : Nat) (J : Nat → List Value → List (Addr × Obj) → Prop) (I D C : Addr) (k : Nat) (s' : Shared) : Prop
  | mk (i : Nat) (ys : List Value) (nx : List (Addr × Obj)) (h : Heap) (tk : Nat) (mC : PySem.Str → Option Value) (ek : k = n - i) (hi : i ≤ n) (hlen : ys.length = i) (es : s' = { s₁ with heap := h, toks := tk }) (F : Fr h₀ L h m) (N : News h₀ L h nx) (hJ : J i ys nx)
      (hI : IsRangeIter h I (0 + 1 * (i : Int)) ((n : Int) - i) 1) (hD : h.PlainList D ys.toArray) (hC : h.Ns C mC) : CompAt h₀ L m s₁ n J I D C k s'
/-- `y = [elt for x in range(n)]`, where elt may turn the ledger -/
theorem assign_comp_range {elt iter : PySem.Expr} {x y : PySem.Str} {px py : Pos} {scope : Scope} {cl : List (PySem.Str × Addr)} {pos spos : Pos} {s : Shared} {Q : Flow → Shared → Prop} (n : Nat) (J : Nat → List Value → List (Addr × Obj) → Prop) (dom : List Addr)
    (hsw : swapsWith (.ListComp elt [⟨.Name x px, iter, [], 0⟩] scope pos) (some (.Name y py)) spos.line env = pure true)
    (hclos : closureFor scope env = pure cl) (hcell : ∀ z ∈ scope.names, z.2 ≠ .cell) (hkind : scope.kind = .function)
    (hnames : ∀ z ∈ scope.names, z.2 = .local → scope.names.lookup z.1 = some .local) (hx : scope.names.lookup x = some .local)
    (hy : env.kindOf y = some .local) (hp : (env.scope.kind == .class || (env.scope.kind == .module && env.locals != env.globals)) = false) (hL : env.locals = L) (hh : A.handled = none) (hn : n ≤ 10000)
    (hdom : ∀ i ys nx, J i ys nx → nx.map (·.1) = dom)
    (h : wpAny (model prog w) A (eval iter env) (RgIn prog w A env h₀ L elt x y scope cl n J dom Q) E s)
    (hs : ∀ x, foldedSetIterable iter env x = pure x := by intro _; rfl) :
    wpAny (model prog w) A (exec (.Assign [.Name y py] (.ListComp elt [⟨.Name x px, iter, [], 0⟩] scope pos) spos) env) Q E s := by
  rw [exec_Assign_Name_used _ _ _ _ hsw]
  refine wpAny_bind (wpAny_standAt (wpAny_bind ?_))
  show wpAny _ A (do let _ ← comprehension (.ListComp elt [⟨.Name x px, iter, [], 0⟩] scope pos) scope env _ (newList []) false (eval iter env) (some (assign (.Name y py) env))) _ _ s
  refine wpAny_bind (wpAny_mono (wpAny_comprehension_free (use := some (assign (.Name y py) env)) (Q := fun _ s' => Q .next s') rfl hs hclos hkind hnames
    (wpAny_mono h (fun xv s₁ h₁ => ?_) fun _ _ e => e)) (fun _ s' hq => wpAny_pure (wpAny_pure hq)) fun _ _ e => e)
  clear h
  obtain ⟨r, t, u, v, m, news, rfl, hr, F, N, hJ, helt, hQ⟩ := h₁
  refine wpAny_pyIter_range hr (rsm0 (Nat.le_trans hn (by decide))) ?_
  rw [rsz0]
  generalize hH : s₁.heap.push ({ cls := .type "range_iterator", data := .fields #[rawInt 0, rawInt n, rawInt 1] } : Obj) = H
  generalize hI : s₁.heap.objs.size = I
  have fresh : ∀ b, I ≤ b → b ≠ L ∧ h₀.get? b = none ∧ b ∉ dom := by
    intro b hb
    have hb0 : ∀ o, s₁.heap.get? b = some o → False := fun o e => absurd (Heap.lt_size e) (Nat.not_lt.mpr (hI ▸ hb))
    refine ⟨?_, ?_, ?_⟩
    · rintro rfl
      obtain ⟨o, _, _, e, _⟩ := F.ns
      exact hb0 o e
    · cases q : h₀.get? b with
      | none => rfl
      | some o => exact (hb0 o (F.keep b o q)).elim
    · rw [← hdom 0 [] news hJ]
      intro e
      obtain ⟨q, hq, rfl⟩ := List.mem_map.mp e
      exact hb0 _ (N q hq).1
  have hIi : IsRangeIter H I 0 n 1 := by rw [← hH, ← hI]; exact Heap.get?_push_size _ rfl
  have FH : Fr h₀ L H m := by rw [← hH]; exact F.push _
  have NH : News h₀ L H news := by rw [← hH]; exact fun q hq => ⟨Heap.get?_push_of_some _ (N q hq).1, (N q hq).2⟩
  have hHs : H.objs.size = I + 1 := by rw [← hH, Heap.size_push, hI]
  refine wpAny_newObj_type (wpAny_newFunctionEnv hcell (by intro y hy; simp at hy) (fun h₁ hns₁ hsb₁ => ?_) hkind)
  dsimp only at hns₁ hsb₁ ⊢
  generalize hH2 : H.push ({ cls := .type "list", dict := none, data := .seq ([] : List Value).toArray } : Obj) = H2 at hns₁ hsb₁ ⊢
  generalize hDe : H.objs.size = D at *
  have hC : H2.objs.size = D + 1 := by rw [← hH2, Heap.size_push, hDe]
  generalize hCe : H2.objs.size = C at *
  have hID : I ≠ D := by rw [hHs]; exact Nat.ne_of_lt (Nat.lt_succ_self _)
  have hDC : D ≠ C := by rw [hC]; exact Nat.ne_of_lt (Nat.lt_succ_self _)
  have hIC : I ≠ C := by rw [hC, hHs]; exact Nat.ne_of_lt (Nat.lt_succ_of_lt (Nat.lt_succ_self _))
  obtain ⟨i1, i2, i3⟩ := fresh I (Nat.le_refl _)
  obtain ⟨d1, d2, d3⟩ := fresh D (by rw [hHs]; exact Nat.le_succ _)
  obtain ⟨c1, c2, c3⟩ := fresh C (by rw [hC, hHs]; exact Nat.le_succ_of_le (Nat.le_succ _))
  have F2 : Fr h₀ L H2 m := by rw [← hH2]; exact FH.push _
  have N2 : News h₀ L H2 news := by rw [← hH2]; exact fun q hq => ⟨Heap.get?_push_of_some _ (NH q hq).1, (NH q hq).2⟩
  have hI2 : IsRangeIter H2 I 0 n 1 := by rw [← hH2]; exact Heap.get?_push_of_some _ hIi
  have hD2 : H2.PlainList D #[] := by rw [← hH2, ← hDe]; exact ⟨_, Heap.get?_push_size _ rfl⟩
  have F3 : Fr h₀ L (H2.push ({ cls := .type "dict", data := .dict #[] } : Obj)) m := F2.push _
  have N3 : News h₀ L (H2.push ({ cls := .type "dict", data := .dict #[] } : Obj)) news := fun q hq => ⟨Heap.get?_push_of_some _ (N2 q hq).1, (N2 q hq).2⟩
  obtain ⟨F4, N4⟩ := chg F3 N3 hsb₁ c1 c2 (by rw [hdom 0 [] news hJ]; exact c3)
  have hI4 : IsRangeIter h₁ I 0 n 1 := (hsb₁.2 I hIC).trans (Heap.get?_push_of_some _ hI2)
  have hD4 : h₁.PlainList D #[] := hD2.at fun o e => (hsb₁.2 D hDC).trans (Heap.get?_push_of_some _ e)
  have loop : ∀ s₃ : Shared, s₃ = { s₁ with heap := h₁, toks := s₁.toks + ([] : List (PySem.Str × Value)).length } →
      codeAny (model prog w) A (.compLoop (.ListComp elt [⟨.Name x px, iter, [], 0⟩] scope pos) 0 (.ref I) (.ref D) (compEnvC scope cl C env))
        (compPost (model prog w) A E (some (assign (.Name y py) env)) (fun _ s' => Q .next s') (.ref D) C) s₃ := by
    rintro s₃ rfl
    refine codeAny_compLoop_list (CompAt h₀ L m s₁ n J I D C) ?_ n
      ⟨0, [], news, _, _, _, rfl, Nat.zero_le _, rfl, rfl, F4, N4, hJ, by simpa using hI4, hD4, hns₁⟩
    rintro k s' ⟨i, ys, nx, h, tk, mC, rfl, hi, hlen, rfl, F5, N5, J5, hI5, hD5, hC5⟩
    have dm := hdom i ys nx J5
    by_cases hlt : i < n
    · refine wpAny_pyNext_range_item (s := { s₁ with heap := h, toks := tk }) hI5 (by omega) fun h6 hI6 hs6 => ?_
      obtain ⟨F6, N6⟩ := chg F5 N5 hs6 i1 i2 (by rw [dm]; exact i3)
      have hD6 := hD5.at fun o e => (hs6.2 D hID.symm).trans e
      have hC6 := hC5.at' fun o e => (hs6.2 C hIC.symm).trans e
      refine wpAny_assign_Name (wpAny_storeName_local (env := compEnvC scope cl C env) (lookup_relabel_local hx) hC6 (fun h7 hC7 hs7 => ?_) (by simp [compEnvC, relabel, hkind]))
      have hs7 : Heap.SameBut C h6 h7 := hs7
      obtain ⟨F7, N7⟩ := chg F6 N6 hs7 c1 c2 (by rw [dm]; exact c3)
      have hI7 : IsRangeIter h7 I (0 + 1 * (i : Int) + 1) ((n : Int) - i - 1) 1 := (hs7.2 I hIC).trans hI6
      have hD7 := hD6.at fun o e => (hs7.2 D hDC).trans e
      refine wpAny_mono (helt i ys nx h7 _ C _ hlt hlen J5 F7 N7 hC7 ⟨_, (if_pos rfl).trans (by rw [show (0 : Int) + 1 * (i : Int) = i from by omega])⟩) (fun v s₄ h₄ => ?_) fun _ _ e => e.elim
      obtain ⟨h8, tk8, nx8, rfl, F8, N8, J8, G8⟩ := h₄
      have dm8 := hdom _ _ _ J8
      have hI8 : IsRangeIter h8 I (0 + 1 * (i : Int) + 1) ((n : Int) - i - 1) 1 := G8 I _ hI7 (List.not_mem_cons_of_ne_of_not_mem i1 i3)
      have hD8 := hD7.at fun o e => G8 D o e (List.not_mem_cons_of_ne_of_not_mem d1 d3)
      have hC8 := hC7.at' fun o e => G8 C o e (List.not_mem_cons_of_ne_of_not_mem c1 c3)
      refine wpAny_list_append_plain (s := { s₁ with heap := h8, toks := tk8 }) (hsz := by rw [sizeLine_eq]; simp; omega) hD8 fun h9 hD9 hs9 => ?_
      obtain ⟨F9, N9⟩ := chg F8 N8 hs9 d1 d2 (by rw [dm8]; exact d3)
      refine ⟨n - (i + 1), Nat.sub_succ_lt_self n i hlt, i + 1, ys ++ [v], nx8, h9, tk8, _, rfl, hlt, by simp [hlen], rfl, F9, N9, J8, ?_, by simpa using hD9, hC8.at' fun o e => (hs9.2 C hDC.symm).trans e⟩
      have e1 : (0 : Int) + 1 * ((i + 1 : Nat) : Int) = 0 + 1 * (i : Int) + 1 := by omega
      have e2 : (n : Int) - ((i + 1 : Nat) : Int) = (n : Int) - i - 1 := by omega
      rw [e1, e2]
      exact (hs9.2 I hID).trans hI8
    · have hin : i = n := by omega
      subst hin
      refine wpAny_pyNext_range_end (s := { s₁ with heap := h, toks := tk }) hh hI5 (by omega) fun h6 hs6 => ?_
      obtain ⟨F6, N6⟩ := chgX F5 N5 hs6 i1 i2 (by rw [dm]; exact i3)
      have hD6 := hD5.at fun o e => hs6 D o hID.symm e
      have hC6 := hC5.at' fun o e => hs6 C o hIC.symm e
      show wpAny _ A (assign (.Name y py) env (.ref D)) _ _ _
      have hCL : C ≠ L := c1
      refine wpAny_assign_Name (wpAny_storeName_local hy (hL ▸ F6.ns) (fun h7 hn7 hs7 => ?_) hp)
      rw [hL] at hn7 hs7
      refine ⟨_, hC6.sameBut hs7 hCL, fun h8 hs8 => ?_⟩
      have F7 := F6.set hn7 hs7
      have N7 : News h₀ L h7 nx := fun q hq => ⟨(hs7.2 q.1 (N6 q hq).2.1).trans (N6 q hq).1, (N6 q hq).2⟩
      obtain ⟨F8, N8⟩ := chg F7 N7 hs8 c1 c2 (by rw [dm]; exact c3)
      obtain ⟨kk, hD8⟩ := (hD6.at fun o e => (hs7.2 D d1).trans e).at fun o e => (hs8.2 D hDC).trans e
      refine hQ D kk ys nx h8 _ F8 (fun q hq => ?_) d3 hlen J5
      rcases List.mem_cons.mp hq with rfl | hq
      · exact ⟨hD8, d1, d2⟩
      · exact N8 q hq
  exact codeAny_compStart_list (loop _ rfl) (wpAny_pyIter_rangeiter hI4 (loop _ rfl))
end
end Mine
end
section
open PySem PySem.W PySem.Calls PyProof.Rows PySem.Spec
set_option Elab.async false
set_option maxRecDepth 100000
set_option maxHeartbeats 8000000
namespace Mine
local macro_rules | `(tactic| k_room) => `(tactic| exact Nat.le_of_ble_eq_true rfl)
local macro_rules | `(tactic| walk_at "mine enter") => `(tactic| (k_dflt (refine' does_of ?k6 ?k7 ?k8 ?k9 ?kB ?kM ?_ ?c2 ?c3 ?c4 ?c5; (case k6 => k_is); (case k7 => k_is); (case k8 => k_room); (case k9 => exact BindsTo.of_eq rfl); (case c5 => decide); (case kB => exact locs rfl); (case c2 => exact rfl); (case c3 => exact rfl); (case c4 => exact rfl))))
local macro_rules | `(tactic| walk_at $k:str) => if keyIn k ["execs cons Assign cons", "execs cons Assign nil", "execs cons AugAssign cons", "execs cons AugAssign nil", "execs cons Expr cons", "execs cons Expr nil", "execs cons For cons", "execs cons For nil", "execs cons While cons", "execs cons While nil", "execs cons If cons", "execs cons If nil", "execs cons Return cons", "execs cons Return nil", "execs cons FunctionDef cons", "execs cons FunctionDef nil"] then `(tactic| (refine wpAny_execs_cons ?_; (try dsimp only); (try k_fold))) else Lean.Macro.throwUnsupported
local macro_rules | `(tactic| walk_at $k:str) => if keyIn k ["exec While", "exec While Compare", "exec For Name Call cons nil", "exec For Name Name cons nil", "exec For Name Subscript cons nil", "exec For Tuple Call cons nil", "exec Assign cons ListComp", "eval ListComp", "pyIter ref", "pyIter str"] then `(tactic| refine stop ?_) else Lean.Macro.throwUnsupported
local macro_rules | `(tactic| walk_at "mine one") => `(tactic| first | (k_unfold; (try dsimp only)) | walk1 | (dsimp only; first | walk1 | (k_unfold; (try dsimp only))))
local macro_rules | `(tactic| walk_at "mine on") => `(tactic| repeat' (walk_at "mine one"))
local macro_rules | `(tactic| walk_at "mine enterC") => `(tactic| (k_dflt (refine' does_ofC ?k6 ?k7 ?k8 ?k9 ?kB ?kD ?kM ?_ ?c2 ?c3 ?c4; (case k6 => k_is); (case k7 => k_is); (case k8 => k_room); (case k9 => exact BindsTo.of_eq rfl); (case kB => exact rfl); (case kD => decide +kernel); (case c2 => exact rfl); (case c3 => exact rfl); (case c4 => exact rfl))))
section
set_option exponentiation.threshold 4000
theorem freshC1 : True := by
  w_top off
  exact True.intro
local macro_rules | `(tactic| walk_at "call builtin:next") => `(tactic| refine stop ?_)

/-- between two octets -/
inductive VintAt (as : List Nat) (z : Nat) (it l : Addr) (k : Nat) (m : PySem.Str → Option Value) (nx : List (Addr × Obj)) : Prop
  | mk (pre rem : List Nat) (e1 : as = pre ++ rem) (hk : k = rem.length) (hn : nx = [(it, li l (pre.length + 1))]) (t1 t2 : Tok) (r : List (PySem.Str × Option Value))
    (hm : m = mp (("iterator", some (Value.ref it)) :: ("b", some (Value.int (oct1 rem z : Nat) t1)) :: ("val", some (Value.int (vint (pre ++ [oct1 rem z % 64]) 0 : Nat) t2)) :: r)) : VintAt as z it l k m nx
theorem parse_varint (w : World) (it l : Addr) (vs : List Value) (as : List Nat) (z : Nat) (ha : ∀ a ∈ as, a < 64) (hz : z < 64) (hvs : IntsAre vs (as.map (fun a => ((64 + a : Nat) : Int)) ++ [(z : Int)])) (hlen : as.length ≤ 500)
    (s : Shared) (hl : s.heap.IsList l vs.toArray) :
    Does (OpenLaw.row PySem.Challenge.rw_ty0003_01).toRowW.prog w (hd.heap_39 w.params) 950 9500 (.ref 63) [.ref it] s [(it, li l 0)] (fun v rel' _ => rel' = [] ∧ ∃ t, v = .int (vint (as ++ [z]) 0 : Nat) t) := by
  k_fill
  walk_at "mine enter"
  case kM => exact (rfl : _ = ([("iterator", some (Value.ref it))] : List (PySem.Str × Option Value)))
  intro p loose mean mg mb gd env outer base g h₁ L' Fin F N B X T G hsz st hfin
  have hne : l ≠ it := by
    rintro rfl
    obtain ⟨o, ho, hc, _⟩ := hl
    have := (st _ _ ho).symm.trans (N (l, li l 0) (by simp)).1
    rw [Option.some.inj this] at hc
    exact absurd (Value.type.inj hc) (by decide)
  have hg : g.IsList l vs.toArray := isList_g G hl (by simpa using hne)
  obtain ⟨t0, hx0⟩ := oct1_get (pre := []) (rem := as) hvs
  try dsimp only
  try k_fold
  walk_at "mine on"
  refine' go (next_list ?a ?b ?c ?d ?e ?_)
  case a => exact F
  case b => exact N
  case c => k_upd
  case d => exact (hg.at fun o e => F.keep _ o e)
  case e => exact hx0
  intro h' F' N' _ _
  try dsimp only [List.length_nil] at N'
  walk_at "mine on"
  rename Fr _ _ _ _ => F1
  rename News _ _ _ _ => N1
  rw [and63] at F1
  replace F1 := fr_put2 F1
  refine go (While_inv2 (VintAt as z it l) F1 N1 (n₀ := as.length) ?_ ?_)
  · exact ⟨[], as, rfl, rfl, rfl, _, _, [], by simp [vint]; rfl⟩
  clear F1 N1
  rintro k m₁ nx h₂ tk₂ F2 N2 ⟨pre, rem, e1, hk, rfl, t1, t2, r, rfl⟩
  have hpre : ∀ a ∈ pre, a < 64 := fun a h => ha a (by rw [e1]; simp [h])
  have hlp : pre.length ≤ as.length := by rw [e1]; simp
  have hrem : ∀ a ∈ rem, a < 64 := fun a h => ha a (by rw [e1]; simp [h])
  try dsimp only
  try k_fold
  rcases rem with _ | ⟨a, rem⟩
  · walk_at "mine on"
    · exact absurd (and64_lo hz) (by assumption)
    · refine hfin _ _ _ _ [] F2 News.nil ⟨rfl, t2, ?_⟩
      rw [e1, List.append_nil]
      show Value.int (vint (pre ++ [z % 64]) 0 : Nat) t2 = _
      rw [Nat.mod_eq_of_lt hz]
  · have haa : a < 64 := hrem a (by simp)
    have hv1 : vint (pre ++ [oct1 (a :: rem) z % 64]) 0 < 2 ^ 3006 := by
      have h1 : ∀ b ∈ pre ++ [oct1 (a :: rem) z % 64], b < 64 := by
        intro b hb
        rcases List.mem_append.mp hb with hb | hb
        · exact hpre b hb
        · rw [List.mem_singleton.mp hb]; exact Nat.mod_lt _ (by decide)
      have h2 := vint_lt h1
      rw [List.length_append, List.length_singleton] at h2
      refine Nat.lt_of_lt_of_le h2 ?_
      rw [show (2 : Nat) ^ 3006 = 64 ^ 501 from by rw [show (64 : Nat) = 2 ^ 6 from rfl, ← Nat.pow_mul]]
      exact Nat.pow_le_pow_right (by decide) (by omega)
    walk_at "mine on"
    · refine ilshift_int (by decide) (by have := bits_nat hv1; omega) ?_
      try dsimp only
      walk_at "mine on"
      obtain ⟨t9, hx9⟩ := oct1_get (pre := pre ++ [a]) (rem := rem) (z := z) (vs := vs) (by rw [List.append_assoc, List.singleton_append, ← e1]; exact hvs)
      rename Fr _ _ _ _ => F'
      rename News _ _ _ _ => N'
      rw [List.length_append, List.length_singleton] at hx9
      refine' go (next_list ?a2 ?b2 ?c2 ?d2 ?e2 ?_)
      case a2 => exact F'
      case b2 => exact N'
      case c2 => k_upd
      case d2 => exact (hg.at fun o e => F'.keep _ o e)
      case e2 => exact hx9
      intro h' F' N' _ _
      try dsimp only
      walk_at "mine on"
      rename Fr _ _ _ _ => F'
      rename News _ _ _ _ => N'
      have ea : oct1 (a :: rem) z % 64 = a := by show (64 + a) % 64 = a; omega
      rw [and63, or_shift (Nat.mod_lt _ (by decide)), ea, ← vint_snoc] at F'
      exact ⟨_, _, _, _, rem.length, rfl, fr_put3 F', N', by rw [hk]; simp, pre ++ [a], rem, by rw [e1]; simp, rfl, by simp, _, _, _, rfl⟩
    · exact absurd (and64_hi haa) (by rename Builtin.bitAnd _ _ = 0 => h0; intro h; exact absurd (h.symm.trans h0) (by decide))
end
section
theorem freshC3 : True := by
  w_top off
  exact True.intro

/-- Int2AP's letters, as octets -/
noncomputable def apB (n : Nat) : List UInt8 := if n = 0 then [] else apB (n / 16) ++ [UInt8.ofNat (65 + n % 16)]
theorem apB_zero : apB 0 = [] := by rw [apB]; rfl
theorem apB_step {n : Nat} (h : n ≠ 0) : apB n = apB (n / 16) ++ [UInt8.ofNat (65 + n % 16)] := by rw [apB]; simp [h]

theorem picked_ap (k : Nat) : KBy.picked #[65, 66, 67, 68, 69, 70, 71, 72, 73, 74, 75, 76, 77, 78, 79, 80] (some (Int.fmod k 16)) (some (Int.fmod k 16 + 1)) = #[UInt8.ofNat (65 + k % 16)] := by
  have e : Int.fmod (k : Int) 16 = ((k % 16 : Nat) : Int) := by rw [Int.fmod_eq_emod_of_nonneg _ (by decide)]; rfl
  rw [e]
  have h : k % 16 < 16 := Nat.mod_lt _ (by decide)
  generalize k % 16 = m at h
  have key : ∀ m : Fin 16, KBy.picked #[65, 66, 67, 68, 69, 70, 71, 72, 73, 74, 75, 76, 77, 78, 79, 80] (some (m.val : Int)) (some ((m.val : Int) + 1)) = #[UInt8.ofNat (65 + m.val)] := by decide +kernel
  exact key ⟨m, h⟩
section
variable {prog : Program} {w : World} {A : Around} {E : Value → Shared → Prop} {s : Shared} {value slice : PySem.Expr} {h₀ : Heap} {L : Addr} {m : PySem.Str → Option Value} {news : List (Addr × Obj)} {Q : Value → Shared → Prop}
theorem ap_slice {k : Nat} {t t1 t2 : Tok} (hF : Fr h₀ L s.heap m) (hN : News h₀ L s.heap news)
    (h : ∀ h' t' k', Fr h₀ L h' m → News h₀ L h' news → Q (.bytes #[UInt8.ofNat (65 + k % 16)] t') { s with heap := h', toks := k' })
    (hs : subscripted slice false (.bytes #[65, 66, 67, 68, 69, 70, 71, 72, 73, 74, 75, 76, 77, 78, 79, 80] t) (.ref s.heap.objs.size) = operate [.ref s.heap.objs.size, .bytes #[65, 66, 67, 68, 69, 70, 71, 72, 73, 74, 75, 76, 77, 78, 79, 80] t] (getItem (.bytes #[65, 66, 67, 68, 69, 70, 71, 72, 73, 74, 75, 76, 77, 78, 79, 80] t) (.ref s.heap.objs.size)) := by with_unfolding_all rfl)
    (ht : ∀ r, letTemporaryGo value (.bytes #[65, 66, 67, 68, 69, 70, 71, 72, 73, 74, 75, 76, 77, 78, 79, 80] t) r = pure () := by intro _; with_unfolding_all rfl) :
    wpAny (model prog w) A (subscriptTail value slice (.bytes #[65, 66, 67, 68, 69, 70, 71, 72, 73, 74, 75, 76, 77, 78, 79, 80] t) (.ref s.heap.objs.size)) Q E { s with heap := s.heap.push { cls := .type "slice", data := .fields #[.int (Int.fmod k 16) t1, .int (Int.fmod k 16 + 1) t2, .none] } } :=
  KBc.slice_K hF hN rfl (by constructor) (by constructor) (by decide) (fun h' t' k' F N _ => picked_ap k ▸ h h' t' k' F N) hs ht
end
local macro_rules | `(tactic| walk_at "subscriptTail") => `(tactic| (k_here; (with_reducible show wpAny _ _ (subscriptTail _ (Expr.Slice _ _ none _) (Value.bytes #[65, 66, 67, 68, 69, 70, 71, 72, 73, 74, 75, 76, 77, 78, 79, 80] _) (Value.ref _)) _ _ _); (with_reducible rename Fr _ _ _ _ => F'); (with_reducible rename News _ _ _ _ => N'); (refine ap_slice (s := ⟨_, _, _, _, _⟩) F' N' ?_); intro _ _ _ F' N'; try dsimp only))
local macro_rules | `(tactic| walk_at "binaryOp Add bytes bytes") => `(tactic| ((refine KBy.add_bytes (by simp; omega) ?_); intro _ _))

/-- between two letters -/
inductive ApAt (n : Int) (k : Nat) (m : PySem.Str → Option Value) (nx : List (Addr × Obj)) : Prop
  | mk (hn : nx = []) (b : List UInt8) (t1 t2 t3 : Tok) (r : List (PySem.Str × Option Value)) (e1 : apB n.natAbs = apB k ++ b) (hk : k < 16 ^ (100 - b.length)) (hb : b.length ≤ 100)
    (hm : m = mp (("num", some (Value.int k t1)) :: ("val", some (Value.bytes b.toArray t2)) :: ("AP", some (Value.bytes #[65, 66, 67, 68, 69, 70, 71, 72, 73, 74, 75, 76, 77, 78, 79, 80] t3)) :: r)) : ApAt n k m nx
theorem int2ap (w : World) (n : Int) (tk : Tok) (s : Shared) (hn : n.natAbs < 16 ^ 100) : Does (OpenLaw.row PySem.Challenge.rw_ty0003_01).toRowW.prog w (hd.heap_39 w.params) 900 9000 (.ref 70) [.int n tk] s [] (fun v rel' h' => rel' = [] ∧ ∃ t, v = .bytes (apB n.natAbs).toArray t) := by
  k_fill
  walk_at "mine enter"
  case kM => exact (rfl : _ = ([("num", some (Value.int n tk))] : List (PySem.Str × Option Value)))
  intro p loose mean mg mb gd env outer base g h₁ L' Fin F N B X T G hsz st hfin
  try dsimp only
  try k_fold
  walk_at "mine on"
  rename Fr _ _ _ _ => F1
  rename News _ _ _ _ => N1
  replace F1 := fr_put3 F1
  refine go (While_inv2 (ApAt n) F1 N1 (n₀ := n.natAbs) ?_ ?_)
  · have e : ((if n < 0 then -n else n) : Int) = (n.natAbs : Int) := by split <;> omega
    rw [e]
    exact ⟨rfl, [], _, _, _, [], by simp, hn, by simp, rfl⟩
  clear N1 F1
  rintro k m₁ nx h₂ tk₂ F2 N2 ⟨rfl, b, t1, t2, t3, r, e1, hk, hb, rfl⟩
  try dsimp only
  try k_fold
  walk_at "mine on"
  · rename Fr _ _ _ _ => F'
    rename ¬ (k : Int) = 0 => hk0
    have e2 : Int.fdiv (k : Int) 16 = ((k / 16 : Nat) : Int) := by rw [Int.fdiv_eq_ediv_of_nonneg _ (by decide)]; rfl
    have hk1 : k ≠ 0 := by omega
    have e3 : #[UInt8.ofNat (65 + k % 16)] ++ b.toArray = (UInt8.ofNat (65 + k % 16) :: b).toArray := by simp
    rw [e2, e3] at F'
    have hb2 : b.length ≠ 100 := by
      intro e
      rw [e] at hk
      simp at hk
      exact hk1 hk
    have hb3 : b.length < 100 := Nat.lt_of_le_of_ne hb hb2
    refine ⟨_, _, _, [], k / 16, rfl, fr_put3 F', News.nil, Nat.div_lt_self (Nat.pos_of_ne_zero hk1) (by decide), rfl, UInt8.ofNat (65 + k % 16) :: b, _, _, _, _, ?_, ?_, ?_, rfl⟩
    · rw [e1, apB_step hk1, List.append_assoc]
      rfl
    · rw [List.length_cons]
      have : 100 - b.length = (100 - (b.length + 1)) + 1 := (Nat.sub_add_cancel (Nat.sub_pos_of_lt hb3)).symm
      rw [this, Nat.pow_succ] at hk
      exact Nat.div_lt_of_lt_mul (by omega)
    · exact hb3
  · rename (k : Int) = 0 => hk0
    have hk1 : k = 0 := by omega
    subst hk1
    rw [apB_zero] at e1
    exact hfin _ _ _ _ [] F2 News.nil ⟨rfl, _, by rw [e1]; rfl⟩
end
local macro_rules | `(tactic| walk_at "binaryOp Mult str int") => `(tactic| ((with_reducible refine' S_timesA ?y ?z ?_); (case y => omega); (case z => omega); intro _ _; try dsimp only))
local macro_rules | `(tactic| walk_at "call builtin:len") => `(tactic| ((with_reducible refine' S_lenc ?z ?_); (case z => first | omega | (simp only [List.length_replicate, List.length_append, List.length_cons, List.length_nil]; omega)); intro _ _; try dsimp only))
local macro_rules | `(tactic| walk_at "call builtin:ord") => `(tactic| (refine S_ord ?_; intro _ _; try dsimp only))
local macro_rules | `(tactic| walk_at "binaryOp Add str str") => `(tactic| ((first | (with_reducible refine' S_add_q ?z ?_) | (with_reducible refine' S_add_rq ?z ?_) | (with_reducible refine' S_add_b ?z ?_) | (with_reducible refine' S_add ?z ?_)); (case z => first | omega | (simp only [List.length_replicate, List.length_append, List.length_cons, List.length_nil]; omega)); intro _ _; try dsimp only))
section
theorem freshC10 : True := by
  w_top off
  exact True.intro
section
local macro_rules | `(tactic| walk_at "call builtin:len") => `(tactic| ((with_reducible refine' S_len1 ?z2 ?_); (case z2 => assumption); intro _ _; try dsimp only))
theorem law_lexer (w : World) (tx : List Nat) (tk : Tok) (hn : tx.length ≤ 10000) (s : Shared) :
    Does (OpenLaw.row PySem.Challenge.rw_ty0003_01).toRowW.prog w (hd.heap_39 w.params) 800 8000 (.ref 89) [.str (S tx) tk] s [(84, tabObj #[])] (fun v rel' _ => ∃ (D : Addr) (a : LexA) (tp tln : Tok) (ps : Array Value), v = .ref D ∧ rel' = (D, ({ cls := .type "tuple", data := .seq #[.ref a.x, .ref a.pl] } : Obj)) :: (lexL w a 0 tp 1 tln #[] 0 ++ [(84, tabObj ps)]) ∧ a.ok ∧ @LT.lt Nat _ a.pb D ∧ ReadSpec (OpenLaw.row PySem.Challenge.rw_ty0003_01).toRowW.prog w (hd.heap_39 w.params) tx a ∧ @LT.lt Nat _ s.heap.objs.size a.ct) := by
  k_fill
  walk_at "mine enterC"
  case kM => exact fun L' => (rfl : _ = ([] : List (PySem.Str × Option Value)))
  intro p loose mean mg mb gd env outer base g h₁ L' tk₁ cells Fin F N Y B X T G hsz hlt st hfin
  have hC : CodeHd g 88 84 := codeHd_of_K X (by with_unfolding_all rfl)
  have h84 := ltN (hlt (84, tabObj #[]) (List.mem_cons_self ..))
  dsimp only at h84
  obtain ⟨o1, o2, rfl, d1, d2⟩ := CellsAre.two Y
  dsimp only [List.cons_append, List.nil_append] at N
  replace d1 : o1.data = .cell none := d1
  replace d2 : o2.data = .cell (some (.str (S tx) tk)) := d2
  clear Y
  try dsimp only
  try k_fold
  walk_at "mine on"
  rename Fr _ _ _ _ => F1
  rename News _ _ _ _ => N1
  refine' hfin _ _ _ _ _ F1 N1 ⟨_, ⟨_, _, _, _, _, _, _, _, _, _, _, _, _, _, _, _, _, _, _, 0, _, _, _, _, _, _, _, _⟩, _, _, _, rfl, rfl, ?_, ?_, ?_, ?_⟩
  · unfold LexA.ok
    dsimp only
    omega
  · dsimp only
    omega
  · refine ⟨⟨_, _, _, _, rfl⟩, ?_⟩
    intro s p tp t1 hp
    refine' does_ofN (.head _) (.tail _ (.head _)) (by assumption) (by assumption) ?e1 ?e2 ?e3 ?e4 ?_ ?e5 ?e6 ?e7 ?e8
    case e1 => exact Nat.le_of_ble_eq_true rfl
    case e2 => exact BindsTo.of_eq rfl
    case e3 => exact locs rfl
    case e4 => exact (rfl : _ = ([("size", some (Value.int 1 t1))] : List (PySem.Str × Option Value)))
    case e5 => exact rfl
    case e6 => exact rfl
    case e7 => exact rfl
    case e8 => decide
    clear F1 N1
    intro p' loose' mean' mg' mb' gd' env' outer' base' g2 h2 L2 Fin' F N B X T G hsz st hfin
    try dsimp only
    try k_fold
    walk_at "mine on"
    rename Fr _ _ _ _ => F'
    rename News _ _ _ _ => N'
    refine' hfin _ _ _ _ _ F' N' ⟨_, _, congrArg (fun x => Value.str x _) (S_slice1 tx p hp), ?_⟩
    rotate_left
    exact rfl
  · dsimp only
    have hsz2 : @Eq Nat s.heap.objs.size L' := hsz
    omega
end
end
section
theorem freshC11 : True := by
  w_top off
  exact True.intro
local macro_rules | `(tactic| walk_at "call ref") => `(tactic| refine stop ?_)
section
local macro_rules | `(tactic| walk_at "callWith ref") => `(tactic| (k_dflt (refine' callWith_F ?k1 ?_; (case k1 => exact FnAt.ofObj (by assumption) (by k_asm) (by k_mem)))))
local macro_rules | `(tactic| walk_at "FnAt") => `(tactic| (k_dflt (exact FnAt.ofObj (by assumption) (by k_asm) (by k_mem))))
theorem read_char (w : World) (tx : List Nat) (a : LexA) (hok : a.ok) (hR : ReadSpec (OpenLaw.row PySem.Challenge.rw_ty0003_01).toRowW.prog w (hd.heap_39 w.params) tx a) (pz : Nat) (tp : Tok) (ln : Nat) (tln : Tok) (ws : Array Value) (n : Nat) (hp : pz ≤ tx.length) (s : Shared) :
    Does (OpenLaw.row PySem.Challenge.rw_ty0003_01).toRowW.prog w (hd.heap_39 w.params) 960 9600 (.ref 35) [.ref a.x] s (lexL w a pz tp ln tln ws n)
      (fun v rel' _ => ∃ t tp' tln', v = .str (S ((tx.drop pz).take 1)) t ∧ rel' = lexL w a (pz + ((tx.drop pz).take 1).length) tp' (ln + if (tx.drop pz).take 1 = [10] then 1 else 0) tln' ws n) := by
  have hok0 := hok
  unfold LexA.ok at hok
  obtain ⟨hfo, hR⟩ := hR
  k_fill
  walk_at "mine enter"
  case kM => exact (rfl : _ = ([("self", some (Value.ref a.x))] : List (PySem.Str × Option Value)))
  intro p loose mean mg mb gd env outer base g h₁ L' Fin F N B X T G hsz st hfin
  try dsimp only
  try k_fold
  have N0 := N
  unfold lexL topL readL at N0
  dsimp only [List.cons_append, List.nil_append] at N0
  walk_at "mine on"
  refine go (does_use (hR _ pz tp _ hp) B F X N T rfl rfl rfl rfl (Nat.le_of_ble_eq_true rfl) (Nat.le_of_ble_eq_true rfl) read_in ?_)
  rintro v h5 tk5 rel' F5 N5 G5 ⟨t5, tp5, rfl, rfl⟩
  have N6 := news_read hok0 N N5 G5
  unfold lexL topL at N6
  dsimp only [List.cons_append, List.nil_append] at N6
  clear N5 N F
  dsimp only
  walk_at "mine on"
  · have e : (tx.drop pz).take 1 = [10] := by
      rename (S ((tx.drop pz).take 1) == PySem.Str.ofString "\n") = true => h0
      rw [beq_iff_eq, nl_of] at h0
      simpa using congrArg (fun x => x.cps.toList) h0
    rename Fr _ _ _ _ => F'
    rename News _ _ _ _ => N'
    refine' hfin _ _ _ _ _ F' N' ⟨t5, tp5, _, rfl, ?_⟩
    rotate_left
    rw [if_pos e]
    exact rfl
  · have e : ¬ (tx.drop pz).take 1 = [10] := by
      rename (S ((tx.drop pz).take 1) == PySem.Str.ofString "\n") = false => h0
      intro e
      rw [e, nl_of] at h0
      exact absurd h0 (by decide)
    rename Fr _ _ _ _ => F'
    rename News _ _ _ _ => N'
    refine' hfin _ _ _ _ _ F' N' ⟨t5, tp5, _, rfl, ?_⟩
    rotate_left
    rw [if_neg e]
    exact rfl
end
end
local macro_rules | `(tactic| walk_at "call builtin:list.append") => `(tactic| (k_dflt (refine' append_K ?k1 ?k2 ?k3 ?_ ?z; (case k1 => k_asm); (case k2 => k_asm); (case k3 => k_upd); (case z => (rw [sizeLine_eq]; (try simp only [Array.size_push]); omega))); intro h' F' N'; try dsimp only))
local macro_rules | `(tactic| walk_at "getItem ref int") => `(tactic| (k_dflt (refine' lo_last ?k1 ?k2 ?k3 ?_; (case k1 => k_asm); (case k2 => k_mem); (case k3 => assumption)); try dsimp only))
local macro_rules | `(tactic| walk_at "setItem ref int") => `(tactic| (k_dflt (refine' lo_setLast ?k1 ?k2 ?k3 ?k4 ?_; (case k1 => k_asm); (case k2 => k_asm); (case k3 => k_upd); (case k4 => omega)); intro h' F' N'; try dsimp only))
local macro_rules | `(tactic| walk_at "call builtin:iter") => `(tactic| (k_dflt (refine' iter_list ?k1 ?k2 ?k3 ?_; (case k1 => k_asm); (case k2 => k_asm); (case k3 => exact lo_isList (by k_asm) (by k_mem))); intro I' h' F' N' l1 _ _; (try k_lt l1); try dsimp only))
section
theorem freshC4 : True := by
  w_top off
  exact True.intro
/-- what _law_written makes of a word's letters -/
noncomputable def wtn (l : List Nat) (m : Nat) : List Nat :=
  if l = [] ∨ m % 3 = 2 then 34 :: (l ++ [34]) else if m % 3 = 1 then l.flatMap (fun c => [92, c]) ++ [blk (m / 3)] else l ++ [blk (m / 3)]
theorem flat_len (l : List Nat) : (l.flatMap (fun c => [92, c])).length = 2 * l.length := by
  induction l with
  | nil => rfl
  | cons a r ih => rw [List.flatMap_cons, List.length_append, ih]; simp; omega
section
local macro_rules | `(tactic| walk_at "subscriptTail Constant str BinOp str int") => `(tactic| ((with_reducible refine' S_blankI ?a ?b ?_ ?c ?d); (case a => assumption); (case b => omega); (case c => intro _ _; with_unfolding_all rfl); (case d => intro _; with_unfolding_all rfl); intro _ _; try dsimp only))
theorem law_written (w : World) (l : List Nat) (mn : Nat) (tk tk2 : Tok) (hl : ∀ c ∈ l, 65 ≤ c ∧ c < 81) (hlen : l.length ≤ 500) (hm : mn < 12) (s : Shared)  :
    Does (OpenLaw.row PySem.Challenge.rw_ty0003_01).toRowW.prog w (hd.heap_39 w.params) 900 9000 (.ref 82) [.str (S l) tk, .int mn tk2] s [] (fun v rel' _ => rel' = [] ∧ ∃ t, v = .str (S (wtn l mn)) t) := by
  k_fill
  walk_at "mine enter"
  case kM => exact (rfl : _ = ([("manner", some (Value.int mn tk2)), ("word", some (Value.str (S l) tk))] : List (PySem.Str × Option Value)))
  intro p loose mean mg mb gd env outer base g h₁ L' Fin F N B X T G hsz st hfin
  have hlen2 := flat_len l
  have h3 : Int.fmod (mn : Int) 3 = ((mn % 3 : Nat) : Int) := by rw [Int.fmod_eq_emod_of_nonneg _ (by decide)]; rfl
  have h4 : Int.fdiv (mn : Int) 3 = ((mn / 3 : Nat) : Int) := by rw [Int.fdiv_eq_ediv_of_nonneg _ (by decide)]; rfl
  try dsimp only
  try k_fold
  walk_at "mine on"
  · have e : l = [] := by
      rename (S l == Str.ofString "") = true => h0
      rw [beq_iff_eq, e_of] at h0
      simpa using congrArg (fun x => x.cps.toList) h0
    exact hfin _ _ _ _ [] F News.nil ⟨rfl, _, by unfold wtn; rw [if_pos (.inl e)]; rfl⟩
  · have e : mn % 3 = 2 := by omega
    exact hfin _ _ _ _ [] F News.nil ⟨rfl, _, by unfold wtn; rw [if_pos (.inr e)]; rfl⟩
  · have e : l ≠ [] := by
      rename (S l == Str.ofString "") = false => h0
      rintro rfl
      rw [e_of] at h0
      exact absurd h0 (by decide)
    rename Fr _ _ _ _ => F'
    rename News _ _ _ _ => N'
    refine go (comp_str l (fun _ => true) (fun c y => ∃ t, y = Value.str (S [92, c]) t) (closureFor_none (by decide)) (by decide) rfl (by decide) rfl rfl (by omega) (nameX_L F' rfl ⟨_, rfl, F', N', ⟨?_, ?_⟩, ?_⟩) (fun _ => rfl))
    · intros; exact no_tests
    · rintro C c v s₃ m₃ E' hc ⟨t, rfl⟩ _ hC hns hm2 hkp
      refine stopQ ?_
      walk_at "mine on"
      exact go ⟨⟨_, rfl⟩, _, _, rfl, fun _ _ e => e⟩
    · intro D n ys h' tk' F5 N5 hD _ hkp hC
      rw [filter_all] at hC
      have hS := paired_strs (fun c => [92, c]) hC
      walk_at "mine on"
      refine S_join (lo_isList N5 (List.mem_cons_self ..)) hS (by rw [← List.flatMap_def, hlen2]; omega) ?_
      intro t6 k6
      rw [← List.flatMap_def]
      walk_at "mine on"
      have e9 : ¬ (l = [] ∨ mn % 3 = 2) := by
        rintro (h | h)
        · exact e h
        · omega
      exact hfin _ _ _ _ [] F5 News.nil ⟨rfl, _, by unfold wtn; rw [if_neg e9, if_pos (by omega)]⟩
  · have e : ¬ (l = [] ∨ mn % 3 = 2) := by
      rintro (rfl | h)
      · rename (S [] == Str.ofString "") = false => h0
        rw [e_of] at h0
        exact absurd h0 (by decide)
      · omega
    rename Fr _ _ _ _ => F'
    exact hfin _ _ _ _ [] F' News.nil ⟨rfl, _, by unfold wtn; rw [if_neg e, if_neg (by omega)]⟩
end
end
section
local macro_rules | `(tactic| walk_at "idle 0") => `(tactic| skip)
local macro_rules | `(tactic| walk_at "idle 1") => `(tactic| skip)
theorem freshC5 : True := by
  w_top off
  exact True.intro
/-- a word with As ahead, up to a width -/
noncomputable def pad (k : Nat) (l : List Nat) : List Nat := List.replicate (k - l.length) 65 ++ l
section
theorem law_laid (w : World) (lw : Addr) (vs : List Value) (ls : List (List Nat)) (k : Nat) (tk : Tok) (hv : StrsAre vs (ls.map S)) (hls : ∀ l ∈ ls, l.length ≤ 500) (hk : k ≤ 500) (hn : ls.length ≤ 100) (s : Shared) (hw : s.heap.IsList lw vs.toArray) :
    Does (OpenLaw.row PySem.Challenge.rw_ty0003_01).toRowW.prog w (hd.heap_39 w.params) 900 9000 (.ref 106) [.ref lw, .int k tk] s [] (fun v rel' _ => rel' = [] ∧ ∃ t, v = .str (S (ls.map (pad k)).flatten) t) := by
  k_fill
  walk_at "mine enterC"
  case kM => exact fun L' => (rfl : _ = ([("words", some (Value.ref lw))] : List (PySem.Str × Option Value)))
  intro p loose mean mg mb gd env outer base g h₁ L' tk₁ cells Fin F N Y B X T G hsz hlt st hfin
  obtain ⟨o1, rfl, d1⟩ := CellsAre.one Y
  replace d1 : o1.data = .cell (some (Value.int k tk)) := d1
  try dsimp only
  try k_fold
  walk_at "mine on"
  have N2 : News g L' h₁ [(L' + 1, o1)] := N
  have hlen := hv.len_eq
  rw [List.length_map] at hlen
  refine go (comp_list AtL unL unL_at ls (fun _ => true) (fun l y => ∃ t, y = Value.str (S (pad k l)) t) (cl := [("width", L' + 1)]) (by with_unfolding_all rfl) (by decide) rfl (by decide) rfl rfl (by omega) (nameX_L F rfl ⟨lw, vs.toArray, rfl, hw.at fun o e => st lw o e, by simpa using hlen, strs_at hv, F, N2, ⟨?_, ?_⟩, ?_⟩) (fun _ => rfl))
  · intros; exact no_tests
  · rintro C l v s₃ m₃ E' hl ⟨t, rfl⟩ _ hC hns hm2 hkp
    have hl2 := hls l hl
    refine stopQ ?_
    walk_at "mine on"
    have e : ((k : Int) - (l.length : Int)).toNat = k - l.length := Int.toNat_sub k l.length
    rw [e]
    exact go ⟨⟨_, rfl⟩, _, _, rfl, fun _ _ e => e⟩
  · intro D n ys h' tk' F5 N5 hD _ hkp hC
    rw [filter_all] at hC
    have hS := paired_strs (pad k) hC
    have hfl : (ls.map (pad k)).flatten.length ≤ 1000 * 100 := by
      have : ∀ (ls : List (List Nat)), (∀ l ∈ ls, l.length ≤ 500) → (ls.map (pad k)).flatten.length ≤ 1000 * ls.length := by
        intro ls
        induction ls with
        | nil => intro _; simp
        | cons a r ih =>
          intro h
          have h1 := ih (fun l hl => h l (by simp [hl]))
          have h2 := h a (by simp)
          rw [List.map_cons, List.flatten_cons, List.length_append, List.length_cons]
          unfold pad at h1 ⊢
          rw [List.length_append, List.length_replicate]
          omega
      have := this ls hls
      omega
    walk_at "mine on"
    refine S_join (lo_isList N5 (List.mem_cons_self ..)) hS (by omega) ?_
    intro t6 k6
    walk_at "mine on"
    exact hfin _ _ _ _ [] F5 News.nil ⟨rfl, _, rfl⟩
end
end
local macro_rules | `(tactic| walk_at "call ref") => `(tactic| refine stop ?_)
section
theorem freshC2 : True := by
  w_top off
  exact True.intro
local macro_rules | `(tactic| walk_at "subscriptTail Name Name str int") => `(tactic| (refine S_itemI (by omega) (by omega) (by assumption) ?_; intro _ _; try dsimp only))
local macro_rules | `(tactic| walk_at "subscriptTail Name BinOp str int") => `(tactic| (refine S_itemI (by omega) (by omega) (by assumption) ?_; intro _ _; try dsimp only))

/-- between two turns -/
inductive OctAt (P : List Nat) (i : Nat) (m : PySem.Str → Option Value) (nx : List (Addr × Obj)) : Prop
  | mk (lO : Addr) (vs : List Value) (k : Nat) (t1 : Tok) (r : List (PySem.Str × Option Value)) (hn : nx = [(lO, W.listOf vs.toArray k)]) (hI : IntsAre vs ((six (P.take (3 * i))).map (fun a => ((64 + a : Nat) : Int))))
    (hm : m = mp (("letters", some (Value.str (S P) t1)) :: ("octets", some (Value.ref lO)) :: r)) : OctAt P i m nx
theorem law_number (w : World) (l : List Nat) (tk : Tok) (hl : ∀ c ∈ l, 65 ≤ c ∧ c < 81) (hlen : l.length ≤ 500) (s : Shared)  :
    Does (OpenLaw.row PySem.Challenge.rw_ty0003_01).toRowW.prog w (hd.heap_39 w.params) 900 9000 (.ref 96) [.str (S l) tk] s [] (fun v rel' _ => rel' = [] ∧ ∃ t, v = .int (hexv l : Nat) t) := by
  k_fill
  walk_at "mine enter"
  case kM => exact (rfl : _ = ([("letters", some (Value.str (S l) tk))] : List (PySem.Str × Option Value)))
  intro p loose mean mg mb gd env outer base g h₁ L' Fin F N B X T G hsz st hfin
  have hlen2 := S_len l
  have hm : Int.fmod (l.length : Int) 3 = ((l.length % 3 : Nat) : Int) := by rw [Int.fmod_eq_emod_of_nonneg _ (by decide)]; rfl
  have hP : (3 - Int.fmod (l.length : Int) 3).toNat = 3 - l.length % 3 := by rw [hm]; exact Int.toNat_sub 3 _
  try dsimp only
  try k_fold
  walk_at "mine on"
  rw [hP] at *
  refine go (For_start ?_)
  walk_at "mine on"
  rename IsRange _ _ _ _ _ _ _ _ => hr
  rename Fr _ _ _ _ => F1
  rename News _ _ _ _ => N1
  obtain ⟨q, hq⟩ : ∃ q, (List.replicate (3 - l.length % 3) 65 ++ l).length = 3 * q := ⟨l.length / 3 + 1, by
    have h1 := Nat.div_add_mod l.length 3
    have h2 := Nat.mod_lt l.length (show 0 < 3 by decide)
    rw [List.length_append, List.length_replicate, Nat.mul_add]
    generalize l.length % 3 = r, 3 * (l.length / 3) = d at *
    clear hlen hlen2 hm hP
    omega⟩
  have hPc : ∀ c ∈ List.replicate (3 - l.length % 3) 65 ++ l, 65 ≤ c ∧ c < 81 := by
    intro c hc
    rcases List.mem_append.mp hc with h | h
    · rw [(List.mem_replicate.mp h).2]; decide
    · exact hl c h
  have hPl : (List.replicate (3 - l.length % 3) 65 ++ l).length ≤ 600 := by rw [List.length_append, List.length_replicate]; omega
  have hPv : hexv (List.replicate (3 - l.length % 3) 65 ++ l) = hexv l := hexv_pad _ _
  rw [← hPv] at hfin
  have hP0 : (List.replicate (3 - l.length % 3) 65 ++ l).length ≠ 0 := by rw [List.length_append, List.length_replicate]; exact Nat.ne_of_gt (Nat.add_pos_left (Nat.sub_pos_of_lt (Nat.mod_lt _ (by decide))) _)
  generalize List.replicate (3 - l.length % 3) 65 ++ l = P at *
  clear hlen2 hm hP hl hPv
  replace F1 := fr_put2 F1
  refine go (For_range (OctAt P) q hr ?_ ?_ F1 N1 ?_ ?_ ?_)
  · rw [hq]
    exact rsmall (by omega) (by omega) (by omega) (by rw [rsize3]; omega)
  · rw [hq]; exact rsize3 q
  · exact ⟨_, [], 0, _, [], rfl, .nil, rfl⟩
  · rintro it i m₁ nx h tk' t9 hit hi F2 N2 hne ⟨lO, vs, k, t1, r, rfl, hI, rfl⟩
    obtain ⟨a, b, c, ha, hb, hc, htk⟩ := take3 hq hi
    have ha2 : P[(0 + 3 * (i : Int)).toNat]? = some a := by rw [← ha]; congr 1; omega
    have hb2 : P[(0 + 3 * (i : Int) + 1).toNat]? = some b := by rw [← hb]; congr 1; omega
    have hc2 : P[(0 + 3 * (i : Int) + 2).toNat]? = some c := by rw [← hc]; congr 1; omega
    have hvs : vs.toArray.size ≤ 1000 := by
      have h1 := hI.length
      rw [List.length_map, six_len i _ (List.length_take_of_le (hq ▸ Nat.mul_le_mul_left 3 (Nat.le_of_lt hi)))] at h1
      rw [List.size_toArray, h1]
      omega
    clear hr
    have hx1 : lO ≠ it := hne _ (List.mem_cons_self ..)
    replace hx1 := neN hx1
    try dsimp only
    try k_fold
    walk_at "mine on"
    rename Fr _ _ _ _ => F'
    rename News _ _ _ _ => N'
    have hac := hPc a (List.mem_of_getElem? ha)
    have hbc := hPc b (List.mem_of_getElem? hb)
    have hcc := hPc c (List.mem_of_getElem? hc)
    have ep : 256 * (a : Int) + 16 * (b : Int) + (c : Int) - 65 * 273 = ((256 * (a - 65) + 16 * (b - 65) + (c - 65) : Nat) : Int) := by omega
    have e1 : (64 : Int) + Int.fdiv (256 * (a : Int) + 16 * (b : Int) + (c : Int) - 65 * 273) 64 = ((64 + (256 * (a - 65) + 16 * (b - 65) + (c - 65)) / 64 : Nat) : Int) := by
      rw [ep, Int.fdiv_eq_ediv_of_nonneg _ (by decide)]; omega
    have e2 : (64 : Int) + Int.fmod (256 * (a : Int) + 16 * (b : Int) + (c : Int) - 65 * 273) 64 = ((64 + (256 * (a - 65) + 16 * (b - 65) + (c - 65)) % 64 : Nat) : Int) := by
      rw [ep, Int.fmod_eq_emod_of_nonneg _ (by decide)]; omega
    rw [e1, e2] at N'
    obtain ⟨vs9, hv9, hI9⟩ := ints_snoc2 (a := ((64 + (256 * (a - 65) + 16 * (b - 65) + (c - 65)) / 64 : Nat) : Int)) (b := ((64 + (256 * (a - 65) + 16 * (b - 65) + (c - 65)) % 64 : Nat) : Int)) hI
    rw [hv9] at N'
    refine ⟨_, _, _, _, rfl, fr_put2 F', N', by simpa using hx1, lO, vs9, _, _, _, rfl, ?_, rfl⟩
    rw [htk, six_snoc i _ _ _ _ (List.length_take_of_le (hq ▸ Nat.mul_le_mul_left 3 (Nat.le_of_lt hi))), List.map_append]
    exact hI9
  · rintro m₁ nx h tk' F2 N2 ⟨lO, vs, k, t1, r, rfl, hI, rfl⟩
    have hq0 : q ≠ 0 := fun e => hP0 (by rw [hq, e])
    obtain ⟨q', rfl⟩ := Nat.exists_eq_succ_of_ne_zero hq0
    obtain ⟨a, b, c, ha, hb, hc, htk⟩ := take3 hq (Nat.lt_succ_self q')
    have hq2 : 3 * q' ≤ P.length := by rw [hq]; exact Nat.mul_le_mul_left 3 (Nat.le_succ q')
    have hq3 : (P.take (3 * q')).length = 3 * q' := List.length_take_of_le hq2
    rw [htk, six_snoc q' _ _ _ _ hq3] at hI
    have h1 := hI.length
    rw [List.length_map, List.length_append, six_len q' _ hq3] at h1
    simp only [List.length_cons, List.length_nil] at h1
    have hvs : vs.toArray.size = 2 * q' + 2 := by rw [List.size_toArray, h1]
    have hlast : ∃ t9, vs.toArray[vs.toArray.size - 1]? = some (.int ((64 + (256 * (a - 65) + 16 * (b - 65) + (c - 65)) % 64 : Nat) : Int) t9) := by
      rw [hvs, show 2 * q' + 2 - 1 = 2 * q' + 1 from rfl]
      obtain ⟨t9, h9⟩ := hI.get (2 * q' + 1) _ (by
        rw [List.map_append, List.getElem?_append_right (by rw [List.length_map, six_len q' _ hq3]; omega), List.length_map, six_len q' _ hq3]
        simp
        rfl)
      exact ⟨t9, by simpa using h9⟩
    obtain ⟨t9, hlast⟩ := hlast
    clear hr F1 N1
    try dsimp only
    try k_fold
    walk_at "mine on"
    rename Fr _ _ _ _ => F'
    rename News _ _ _ _ => N'
    rename Heap.IsList _ _ _ => hl9
    have e9 : (((64 + (256 * (a - 65) + 16 * (b - 65) + (c - 65)) % 64 : Nat) : Int) - 64) = (((256 * (a - 65) + 16 * (b - 65) + (c - 65)) % 64 : Nat) : Int) := by omega
    rw [e9] at hl9
    have hI2 := hI
    rw [show six (P.take (3 * q')) ++ [(256 * (a - 65) + 16 * (b - 65) + (c - 65)) / 64, (256 * (a - 65) + 16 * (b - 65) + (c - 65)) % 64] = (six (P.take (3 * q')) ++ [(256 * (a - 65) + 16 * (b - 65) + (c - 65)) / 64]) ++ [(256 * (a - 65) + 16 * (b - 65) + (c - 65)) % 64] from by simp, List.map_append, List.map_singleton] at hI2
    obtain ⟨vs9, hv9, hI9⟩ := ints_setLast hI2
    rw [hv9] at hl9
    have hac := hPc a (List.mem_of_getElem? ha)
    have hbc := hPc b (List.mem_of_getElem? hb)
    have hcc := hPc c (List.mem_of_getElem? hc)
    have hpc : ∀ x ∈ P.take (3 * q'), 65 ≤ x ∧ x < 81 := fun x hx => hPc x (List.mem_of_mem_take hx)
    have hlt : ∀ x ∈ six (P.take (3 * q')) ++ [(256 * (a - 65) + 16 * (b - 65) + (c - 65)) / 64], x < 64 := by
      intro x hx
      rcases List.mem_append.mp hx with hx | hx
      · exact six_lt _ hpc x hx
      · rw [List.mem_singleton.mp hx]; exact six_hi hac.2 hbc.2 hcc.2
    refine go (does_use (parse_varint w _ lO vs9 (six (P.take (3 * q')) ++ [(256 * (a - 65) + 16 * (b - 65) + (c - 65)) / 64]) ((256 * (a - 65) + 16 * (b - 65) + (c - 65)) % 64) hlt (Nat.mod_lt _ (by decide)) hI9 ?_ _ hl9) B F' X N' T rfl rfl rfl rfl (Nat.le_of_ble_eq_true rfl) (Nat.le_of_ble_eq_true rfl) ?_ ?_)
    · rw [List.length_append, six_len q' _ hq3]
      simp only [List.length_cons, List.length_nil]; omega
    · intro x hx
      rw [List.mem_singleton.mp hx]
      exact List.mem_cons_self ..
    · rintro v h5 tk5 rel' F5 N5 G5 ⟨rfl, t5, rfl⟩
      walk_at "mine on"
      refine hfin _ _ _ _ [] F5 News.nil ⟨rfl, t5, ?_⟩
      have hall : hexv P = vint (six P) 0 := (six_vint _ P 0 hq hPc).symm
      have hP9 : six P = six (P.take (3 * q')) ++ [(256 * (a - 65) + 16 * (b - 65) + (c - 65)) / 64] ++ [(256 * (a - 65) + 16 * (b - 65) + (c - 65)) % 64] := by
        have : P = P.take (3 * (q' + 1)) := by rw [List.take_of_length_le (Nat.le_of_eq hq)]
        rw [this, htk, six_snoc q' _ _ _ _ hq3]
        have e3 : (P.take (3 * q') ++ [a, b, c]).take (3 * q') = P.take (3 * q') := by
          rw [List.take_append_of_le_length (Nat.le_of_eq hq3.symm), List.take_take]
          simp
        rw [e3]; simp
      rw [hall, hP9]
end
section
theorem freshC12 : True := by
  w_top off
  exact True.intro
section
theorem push_token (w : World) (a : LexA) (hok : a.ok) (pz : Nat) (tp : Tok) (ln : Nat) (tln : Tok) (ws : Array Value) (n : Nat) (x : PySem.Str) (tx : Tok) (hn : ws.size ≤ 1000) (s : Shared) :
    Does (OpenLaw.row PySem.Challenge.rw_ty0003_01).toRowW.prog w (hd.heap_39 w.params) 960 9600 (.ref 49) [.ref a.x, .str x tx] s (lexL w a pz tp ln tln ws n)
      (fun v rel' _ => v = .none ∧ ∃ n', rel' = lexL w a pz tp ln tln (ws.push (.str x tx)) n') := by
  unfold LexA.ok at hok
  k_fill
  walk_at "mine enter"
  case kM => exact (rfl : _ = ([("token", some (Value.str x tx)), ("self", some (Value.ref a.x))] : List (PySem.Str × Option Value)))
  intro p loose mean mg mb gd env outer base g h₁ L' Fin F N B X T G hsz st hfin
  try dsimp only
  try k_fold
  unfold lexL topL readL at N
  dsimp only [List.cons_append, List.nil_append] at N
  walk_at "mine on"
  rename Fr _ _ _ _ => F'
  rename News _ _ _ _ => N'
  exact hfin _ _ _ _ _ F' N' ⟨rfl, _, rfl⟩
end
end
section
theorem freshC13 : True := by
  w_top off
  exact True.intro
section
local macro_rules | `(tactic| walk_at "call builtin:list.pop") => `(tactic| (k_dflt (refine' lo_pop0 ?k1 ?k2 ?k3 ?k4 ?_; (case k1 => k_asm); (case k2 => k_asm); (case k3 => k_upd); (case k4 => assumption)); intro h' F' N'; try dsimp only))
/-- a token that was pushed back -/
theorem get_pushed (w : World) (a : LexA) (hok : a.ok) (pz : Nat) (tp : Tok) (ln : Nat) (tln : Tok) (v0 : Value) (vs : List Value) (n : Nat) (hn : vs.length ≤ 1000) (s : Shared) :
    Does (OpenLaw.row PySem.Challenge.rw_ty0003_01).toRowW.prog w (hd.heap_39 w.params) 900 9000 (.ref 42) [.ref a.x] s (lexL w a pz tp ln tln (v0 :: vs).toArray n)
      (fun v rel' _ => v = v0 ∧ ∃ n', rel' = lexL w a pz tp ln tln vs.toArray n') := by
  unfold LexA.ok at hok
  k_fill
  walk_at "mine enter"
  case kM => exact (rfl : _ = ([("self", some (Value.ref a.x))] : List (PySem.Str × Option Value)))
  intro p loose mean mg mb gd env outer base g h₁ L' Fin F N B X T G hsz st hfin
  try dsimp only
  try k_fold
  unfold lexL topL readL at N
  dsimp only [List.cons_append, List.nil_append] at N
  walk_at "mine on"
  rename Fr _ _ _ _ => F'
  rename News _ _ _ _ => N'
  exact hfin _ _ _ _ _ F' N' ⟨rfl, _, rfl⟩
end
end
section
theorem take_case {l r : List Nat} {i c b : Nat} (hi : i ≤ l.length) (hc : (l.drop i ++ b :: r).take 1 = [c]) : (i < l.length ∧ c ∈ l ∧ l.take i ++ [c] = l.take (i + 1)) ∨ (i = l.length ∧ c = b) := by
  rcases Nat.lt_or_eq_of_le hi with h | h
  · left
    rw [List.drop_eq_getElem_cons h] at hc
    rw [List.cons_append, List.take_succ_cons, List.take_zero] at hc
    have e : l[i] = c := (List.cons.inj hc).1
    subst e
    exact ⟨h, List.getElem_mem h, by rw [List.take_succ_eq_append_getElem h]⟩
  · right
    subst h
    rw [List.drop_length] at hc
    exact ⟨rfl, by simpa using hc.symm⟩
theorem S_iadd_e {prog : Program} {w : World} {A : Around} {E : Value → Shared → Prop} {s : Shared} {b : List Nat} {t u : Tok} {Q : Value → Shared → Prop} (hsz : b.length ≤ 10000) (h : ∀ t' k, Q (.str (S b) t') { s with toks := k }) :
    wpAny (model prog w) A (inplaceOp .Add (.str (PySem.Str.ofString "") t) (.str (S b) u)) Q E s := by
  rw [e_of]
  exact S_iadd (by simp; omega) h
theorem ws_of {c : Nat} (h : 65 ≤ c ∧ c < 81) : List.isEmpty (Builtin.Str.occurrences (PySem.Str.ofString "\n\t\r ") (S [c]) 0 (Str.length (PySem.Str.ofString "\n\t\r ")) 1) = true := by
  have : ∀ c, c < 81 → 65 ≤ c → List.isEmpty (Builtin.Str.occurrences (PySem.Str.ofString "\n\t\r ") (S [c]) 0 (Str.length (PySem.Str.ofString "\n\t\r ")) 1) = true := by decide +kernel
  exact this c h.2 h.1
theorem ws_in {c : Nat} (h : c = 32 ∨ c = 9 ∨ c = 13 ∨ c = 10) : List.isEmpty (Builtin.Str.occurrences (PySem.Str.ofString "\n\t\r ") (S [c]) 0 (Str.length (PySem.Str.ofString "\n\t\r ")) 1) = false := by
  rcases h with rfl | rfl | rfl | rfl <;> decide +kernel
/-- a word with a mark ahead of each sign -/
noncomputable abbrev esc (l : List Nat) : List Nat := l.flatMap fun c => [92, c]
theorem esc_drop : ∀ (l : List Nat) (i : Nat) (r : List Nat), i ≤ l.length → (esc l ++ r).drop (2 * i) = esc (l.drop i) ++ r
  | l, 0, r, _ => rfl
  | [], i + 1, r, h => by simp at h
  | c :: l, i + 1, r, h => by
    have := esc_drop l i r (by simpa using h)
    rw [show 2 * (i + 1) = 2 * i + 1 + 1 by omega]
    exact this
theorem esc_len (l : List Nat) : (esc l).length = 2 * l.length := by
  induction l with
  | nil => rfl
  | cons a r ih =>
    show (92 :: a :: esc r).length = _
    rw [List.length_cons, List.length_cons, ih, List.length_cons]; omega
theorem quo_of : PySem.Str.ofString "\"" = S [34] := by decide +kernel
theorem bs_of : PySem.Str.ofString "\\" = S [92] := by decide +kernel
theorem S_one {c b : Nat} (h : (S [c] == S [b]) = true) : c = b := by
  have := eq_of_beq h
  simpa using congrArg (fun x => x.cps.toList) this
noncomputable def TurnOnce (Q : Flow → Shared → Prop) (f : Flow) (s : Shared) : Prop := match f with
  | .next | .cont => False
  | .brk => Q .next s
  | .ret v => Q (.ret v) s
noncomputable def TurnJ (J : Nat → Shared → Prop) (n : Nat) (Q : Flow → Shared → Prop) (f : Flow) (s : Shared) : Prop := match f with
  | .next | .cont => ∃ n', n' < n ∧ J n' s
  | .brk => Q .next s
  | .ret v => Q (.ret v) s
section
variable {prog : Program} {w : World} {A : Around} {s : Shared}
theorem ForRest_J {env : Env} {target : PySem.Expr} {body : List Stmt} {Q : Flow → Shared → Prop} {itv : Value} (J : Nat → Shared → Prop) {n₀ : Nat} (hj : J n₀ s)
    (turn : ∀ n s₁, J n s₁ → wpAny (model prog w) A (pyNext itv) (fun r s₂ => match r with
      | none => Q .next s₂
      | some v => wpAny (model prog w) A (assign target env v) (fun _ s₃ => wpAny (model prog w) A (execs body env) (TurnJ J n Q) (fun _ _ => False) s₃) (fun _ _ => False) s₂) (fun _ _ => False) s₁)
    (ht : ∀ v, letOwnedTupleGo target itv v = pure () := by intro _; rfl) : ForRest prog w A env target body Q itv s :=
  ForRest_inv J hj turn ht
theorem ForRest_once {env : Env} {target : PySem.Expr} {body : List Stmt} {Q : Flow → Shared → Prop} {itv : Value}
    (turn : wpAny (model prog w) A (pyNext itv) (fun r s₂ => match r with
      | none => Q .next s₂
      | some v => wpAny (model prog w) A (assign target env v) (fun _ s₃ => wpAny (model prog w) A (execs body env) (TurnOnce Q) (fun _ _ => False) s₃) (fun _ _ => False) s₂) (fun _ _ => False) s)
    (ht : ∀ v, letOwnedTupleGo target itv v = pure () := by intro _; rfl) : ForRest prog w A env target body Q itv s := by
  refine ForRest_J (fun n s₁ => n = 0 ∧ s₁ = s) (n₀ := 0) ⟨rfl, rfl⟩ (fun n s₁ h => ?_) ht
  obtain ⟨rfl, rfl⟩ := h
  refine wpAny_mono turn (fun r s₂ h₂ => ?_) fun _ _ x => x
  match r, h₂ with
  | none, h₂ => exact h₂
  | some v, h₂ =>
    refine wpAny_mono h₂ (fun _ s₃ h₃ => wpAny_mono h₃ (fun f s₄ h₄ => ?_) fun _ _ x => x) fun _ _ x => x
    match f, h₄ with
    | .next, h₄ => exact h₄.elim
    | .cont, h₄ => exact h₄.elim
    | .brk, h₄ => exact h₄
    | .ret v, h₄ => exact h₄
end
theorem fnIn_of {K : Frag} {g : Addr} (h : fnIn K g = true) : ∃ go fd, K.lookup g = some go ∧ go.data = .func fd := by
  unfold fnIn at h
  split at h
  · rename_i e
    exact ⟨_, _, e, rfl⟩
  · cases h
/-- the ledger of a lexer whose text is being walked -/
noncomputable abbrev ciL (w : World) (a : LexA) (I q : Addr) (t : Tok) (p : Nat) (tp : Tok) (ln : Nat) (tln : Tok) (ws : Array Value) (n : Nat) : List (Addr × Obj) :=
  (I, ci q t) :: (q, methodObj (.ref 35) (.ref a.x)) :: lexL w a p tp ln tln ws n
/-- between two signs of a word -/
inductive LexAt (w : World) (a : LexA) (g : Heap) (L' I : Addr) (s : Shared) (len : Nat) (pos : Nat → Nat) (T : Nat → List Nat) (ln n : Nat) (k : Nat) (s₁ : Shared) : Prop
  | mk (q : Addr) (tq : Tok) (i : Nat) (h : Heap) (tk : Nat) (tp' tln' : Tok) (ch : Value) (tt : Tok) (l0 : @LT.lt Nat _ a.pb q) (l1 : @LT.lt Nat _ q I) (ek : k = len - i) (hi : i ≤ len) (es : s₁ = { s with heap := h, toks := tk })
      (F : Fr g L' h (mp [("ch", some ch), ("fiter", some (.ref I)), ("token", some (.str (S (T i)) tt)), ("self", some (.ref a.x))])) (N : News g L' h (ciL w a I q tq (pos i) tp' ln tln' #[] n)) : LexAt w a g L' I s len pos T ln n k s₁
section
variable {w : World} {A : Around} {s : Shared} {g h : Heap} {L I q : Addr} {m : PySem.Str → Option Value} {t : Tok} {txt : List Nat} {a : LexA} {p : Nat} {tp : Tok} {ln : Nat} {tln : Tok} {ws : Array Value} {n : Nat}
  {env : Env} {outer : List Env} {pr : Program} {loose : List Str} {mean : ExcName → Option Value} {mg mb : Str → Option Value} {A₀ : Around} {base : Heap}
theorem ci_after {p' ln' n' : Nat} {tp' tln' : Tok} {ws' : Array Value} {h' : Heap} (hI : ∀ b ∈ (lexL w a p tp ln tln ws n).map (·.1), @LT.lt Nat _ b I) (hq : ∀ b ∈ (lexL w a p tp ln tln ws n).map (·.1), @LT.lt Nat _ b q)
    (N : News g L h (ciL w a I q t p tp ln tln ws n)) (N' : News g L h' (lexL w a p' tp' ln' tln' ws' n')) (G : GSub h h' ((lexL w a p tp ln tln ws n).map (·.1))) : News g L h' (ciL w a I q t p' tp' ln' tln' ws' n') := by
  have M := news_after N N' G [(I, ci q t), (q, methodObj (.ref 35) (.ref a.x))] (fun b hb => ?_) ?_
  · intro b hb
    refine M b ?_
    rcases List.mem_cons.mp hb with h | h
    · exact List.mem_append_right _ (h ▸ List.mem_cons_self ..)
    · rcases List.mem_cons.mp h with h | h
      · exact List.mem_append_right _ (List.mem_cons_of_mem _ (h ▸ List.mem_cons_self ..))
      · exact List.mem_append_left _ h
  · rcases List.mem_cons.mp hb with h | h
    · exact h ▸ List.mem_cons_self ..
    · rw [List.mem_singleton.mp h]
      exact List.mem_cons_of_mem _ (List.mem_cons_self ..)
  · intro b hb hm
    rcases List.mem_cons.mp hb with h | h
    · rw [h] at hm
      exact absurd (hI _ hm) (Nat.lt_irrefl _)
    · rw [List.mem_singleton.mp h] at hm
      exact absurd (hq _ hm) (Nat.lt_irrefl _)
/-- the lexer's ledger hidden, but for what a walk reads -/
theorem lex_hide (N : News g L h (ciL w a I q t p tp ln tln ws n)) : ∃ R, News g L h ((I, ci q t) :: (a.x, instObj 52 a.d) :: (a.d, dictOf [ent w "lineno" a.k1 (.int ln tln), ent w "instream" a.k2 (.ref a.xs), ent w "whitespace" a.k3 (.str (PySem.Str.ofString "\n\t\r ") a.v1), ent w "pushback" a.k4 (.ref a.pb)] 4) :: R) ∧ R = ciL w a I q t p tp ln tln ws n :=
  ⟨_, fun b hb => by
    rcases List.mem_cons.mp hb with rfl | hb
    · exact N _ (.head _)
    · rcases List.mem_cons.mp hb with rfl | hb
      · exact N _ (.tail _ (.tail _ (.tail _ (.head _))))
      · rcases List.mem_cons.mp hb with rfl | hb
        · exact N _ (.tail _ (.tail _ (.tail _ (.tail _ (.head _)))))
        · exact N _ hb, rfl⟩
theorem lex_unhide {x y z : Addr × Obj} {R l : List (Addr × Obj)} (N : News g L h (x :: y :: z :: R)) (hR : R = l) : News g L h l := fun b hb => N b (.tail _ (.tail _ (.tail _ (hR ▸ hb))))
/-- of a ledger that bears a lexer: what a call of its methods reads -/
theorem lex_pair {pre post : List (Addr × Obj)} (N : News g L h (pre ++ (lexL w a p tp ln tln ws n ++ post))) : News g L h [(a.x, instObj 52 a.d), (a.d, dictOf [ent w "lineno" a.k1 (.int ln tln), ent w "instream" a.k2 (.ref a.xs), ent w "whitespace" a.k3 (.str (PySem.Str.ofString "\n\t\r ") a.v1), ent w "pushback" a.k4 (.ref a.pb)] 4)] := fun b hb => by
  refine N b (List.mem_append_right _ (List.mem_append_left _ ?_))
  rcases List.mem_cons.mp hb with rfl | hb
  · exact .tail _ (.head _)
  · rw [List.mem_singleton.mp hb]; exact .tail _ (.tail _ (.head _))
theorem lex_pair1 {pre post : List (Addr × Obj)} {y : Addr × Obj} (N : News g L h (pre ++ (lexL w a p tp ln tln ws n ++ post))) (hy : y ∈ pre ++ (lexL w a p tp ln tln ws n ++ post)) : News g L h [y, (a.x, instObj 52 a.d), (a.d, dictOf [ent w "lineno" a.k1 (.int ln tln), ent w "instream" a.k2 (.ref a.xs), ent w "whitespace" a.k3 (.str (PySem.Str.ofString "\n\t\r ") a.v1), ent w "pushback" a.k4 (.ref a.pb)] 4)] := fun b hb => by
  rcases List.mem_cons.mp hb with rfl | hb
  · exact N _ hy
  · exact lex_pair N b hb
theorem lex_pair2 {pre post : List (Addr × Obj)} {y : Addr × Obj} (N : News g L h (pre ++ (lexL w a p tp ln tln ws n ++ post))) (hy : y ∈ pre ++ (lexL w a p tp ln tln ws n ++ post)) : News g L h [y, (a.pb, W.listOf ws n), (a.x, instObj 52 a.d), (a.d, dictOf [ent w "lineno" a.k1 (.int ln tln), ent w "instream" a.k2 (.ref a.xs), ent w "whitespace" a.k3 (.str (PySem.Str.ofString "\n\t\r ") a.v1), ent w "pushback" a.k4 (.ref a.pb)] 4)] := fun b hb => by
  rcases List.mem_cons.mp hb with rfl | hb
  · exact N _ hy
  · rcases List.mem_cons.mp hb with rfl | hb
    · exact N _ (List.mem_append_right _ (List.mem_append_left _ (.head _)))
    · exact lex_pair N b hb
theorem lex_lt (hok : a.ok) {b₀ : Addr} (h : @LT.lt Nat _ a.pb b₀) : ∀ b ∈ (lexL w a p tp ln tln ws n).map (·.1), @LT.lt Nat _ b b₀ := by
  unfold LexA.ok at hok
  intro b hb
  have hb : (b : Nat) ∈ ([a.pb, a.x, a.d, a.pbs, a.xs, a.ds, a.f, a.c, a.pl, a.cp, a.ct] : List Nat) := hb
  simp only [List.mem_cons, List.not_mem_nil, or_false] at hb
  obtain ⟨-, k1, k2, k3, k4, k5, k6, k7, k8, k9, k10⟩ := hok
  have g10 := Nat.lt_trans k10 h
  have g9 := Nat.lt_trans k9 g10
  have g8 := Nat.lt_trans k8 g9
  have g7 := Nat.lt_trans k7 g8
  have g6 := Nat.lt_trans k6 g7
  have g5 := Nat.lt_trans k5 g6
  have g4 := Nat.lt_trans k4 g5
  have g3 := Nat.lt_trans k3 g4
  have g2 := Nat.lt_trans k2 g3
  have g1 := Nat.lt_trans k1 g2
  rcases hb with e | e | e | e | e | e | e | e | e | e | e
  · exact e ▸ h
  · exact e ▸ g10
  · exact e ▸ g9
  · exact e ▸ g8
  · exact e ▸ g7
  · exact e ▸ g6
  · exact e ▸ g5
  · exact e ▸ g4
  · exact e ▸ g3
  · exact e ▸ g2
  · exact e ▸ g1
theorem ci_next {Q : Option Value → Shared → Prop} {E : Value → Shared → Prop} (hok : a.ok) (hR : ReadSpec (OpenLaw.row PySem.Challenge.rw_ty0003_01).toRowW.prog w (hd.heap_39 w.params) txt a) (hp : p ≤ txt.length)
    (hq0 : @LT.lt Nat _ a.pb q) (hqI : @LT.lt Nat _ q I)
    (N : News g L s.heap (ciL w a I q t p tp ln tln ws n)) (F : Fr g L s.heap m) (B : Below A₀ base outer g) (X : (hd.heap_39 w.params).In g) (T : Top pr loose mean mg mb g) (hA : A.frames = some (env :: outer)) (hh : A.handled = none) (hf : env.frame = some L) (hke : env.scope.kind = .function)
    (hd1 : A.in1.depth ≤ 960) (hu : A.in1.units ≤ 9600)
    (item : ∀ c t5 h' tk tp' tln', (txt.drop p).take 1 = [c] → Fr g L h' m → News g L h' (ciL w a I q t (p + 1) tp' (ln + if c = 10 then 1 else 0) tln' ws n) → Q (some (.str (S [c]) t5)) { s with heap := h', toks := tk })
    (stop : ∀ h' tk tp' tln', txt.drop p = [] → Fr g L h' m → News g L h' (lexL w a p tp' ln tln' ws n) → Q none { s with heap := h', toks := tk }) :
    wpAny (model (OpenLaw.row PySem.Challenge.rw_ty0003_01).toRowW.prog w) A (pyNext (.ref I)) Q E s := by
  have hq := lex_lt (w := w) (p := p) (tp := tp) (ln := ln) (tln := tln) (ws := ws) (n := n) hok hq0
  have hI := lex_lt (w := w) (p := p) (tp := tp) (ln := ln) (tln := tln) (ws := ws) (n := n) hok (Nat.lt_trans hq0 hqI)
  obtain ⟨go, fd, hg, hgd⟩ := fnIn_of (K := hd.heap_39 w.params) (g := 35) (by with_unfolding_all rfl)
  refine next_ci (go := go) (fd := fd) N (.head _) (.tail _ (.head _)) ((X.keeps F.keep) _ _ hg) hgd hh (codeAny_mono (does_useC (E := fun _ _ => False) (Q := fun v s' => ∃ l t', v = .str (S l) t' ∧ s'.heap.get? I = some (ci q t) ∧ s'.heap.get? q = some (methodObj (.ref 35) (.ref a.x)) ∧ s'.heap.get? 35 = some go ∧ (l ≠ [] → Q (some v) s') ∧ (l = [] → ∀ h' tk, Heap.ExtBut I s'.heap h' → Q none { s' with heap := h', toks := tk })) (A := A.in1) (read_char w txt a hok hR p tp ln tln ws n hp s) B F X N T hA hh hf hke hd1 hu (fun b hb => List.mem_cons_of_mem _ (List.mem_cons_of_mem _ hb)) ?_) fun r s' hr => ?_)
  · rintro v h5 tk5 rel' F5 N5 G5 ⟨t5, tp5, tln5, rfl, rfl⟩
    have N6 := ci_after hI hq N N5 G5
    refine ⟨_, t5, rfl, (N6 _ (List.mem_cons_self ..)).1, (N6 _ (List.mem_cons_of_mem _ (List.mem_cons_self ..))).1, (X.keeps F5.keep) _ _ hg, fun hl => ?_, fun hl h' tk hx => ?_⟩
    · obtain ⟨c, hc⟩ : ∃ c, (txt.drop p).take 1 = [c] := by
        match e : txt.drop p, hl with
        | [], hl => exact absurd rfl hl
        | c :: r, _ => exact ⟨c, rfl⟩
      rw [hc] at N6 ⊢
      refine item c t5 h5 tk5 tp5 tln5 hc F5 ?_
      have e : (if [c] = [10] then 1 else 0) = if c = 10 then 1 else 0 := by simp
      rw [e] at N6
      exact N6
    · have hd0 : txt.drop p = [] := by
        match e : txt.drop p, hl with
        | [], _ => rfl
        | c :: r, hl => cases hl
      rw [hl] at N6
      have Z := led_drop F5 N6 (fun b hb => ?_) hx
      · exact stop h' tk tp5 tln5 hd0 Z.1 fun b hb => Z.2 b (List.mem_cons_of_mem _ hb)
      · rcases List.mem_cons.mp hb with rfl | hb
        · exact Nat.ne_of_lt hqI
        · have hb2 := List.mem_map_of_mem (f := fun p : Addr × Obj => p.1) hb
          exact Nat.ne_of_lt (hI b.1 hb2)
  · match r, hr with
    | .ok (.ret v), hr => exact hr
    | .error _, hr => exact hr.elim
end
end
section
local macro_rules | `(tactic| walk_at "call builtin:iter") => `(tactic| (k_dflt (refine' iter_two ?k1 ?k2 ?k3 ?_; (case k1 => k_asm); (case k2 => k_asm); (case k3 => k_mem)); intro I' h' F' N' l1; (try k_lt l1); try dsimp only))
local macro_rules | `(tactic| walk_at "inplaceOp Add str str") => `(tactic| ((first | (with_reducible refine' S_iadd_e ?z ?_) | (with_reducible refine' S_iadd ?z ?_)); (case z => (simp only [List.length_take, List.length_cons, List.length_nil]; omega)); intro _ _; try dsimp only))
section
theorem freshC14 : True := by
  w_top off
  exact True.intro
section
theorem get_quoted (w : World) (txt : List Nat) (a : LexA) (hok : a.ok) (hR : ReadSpec (OpenLaw.row PySem.Challenge.rw_ty0003_01).toRowW.prog w (hd.heap_39 w.params) txt a) (pz : Nat) (tp : Tok) (ln : Nat) (tln : Tok) (n : Nat) (l rest : List Nat) (htx : txt.drop pz = 34 :: (l ++ 34 :: rest)) (hl : ∀ c ∈ l, 65 ≤ c ∧ c < 81) (hlen : l.length ≤ 500) (s : Shared) :
    Does (OpenLaw.row PySem.Challenge.rw_ty0003_01).toRowW.prog w (hd.heap_39 w.params) 900 9000 (.ref 42) [.ref a.x] s (lexL w a pz tp ln tln #[] n)
      (fun v rel' _ => ∃ t tp' tln', v = .str (S l) t ∧ rel' = lexL w a (pz + (l.length + 2)) tp' ln tln' #[] n) := by
  have hok0 := hok
  unfold LexA.ok at hok
  have hpz : pz ≤ txt.length := by
    rcases Nat.lt_or_ge txt.length pz with h | h
    · rw [List.drop_eq_nil_of_le (Nat.le_of_lt h)] at htx; cases htx
    · exact h
  k_fill
  walk_at "mine enter"
  case kM => exact (rfl : _ = ([("self", some (Value.ref a.x))] : List (PySem.Str × Option Value)))
  intro p loose mean mg mb gd env outer base g h₁ L' Fin F N B X T G hsz st hfin
  try dsimp only
  try k_fold
  unfold lexL topL readL at N
  dsimp only [List.cons_append, List.nil_append] at N
  walk_at "mine on"
  refine go (For_start ?_)
  walk_at "mine on"
  rename Fr _ _ _ _ => F'
  rename News _ _ _ _ => N'
  refine go (iter_ci N' (.head _) ?_)
  rename Addr => I
  rename @LT.lt Nat _ _ _ ∧ _ => l1
  replace l1 := l1.1
  rename @LT.lt Nat _ _ _ ∧ _ => l0
  replace l0 := l0.1
  refine ForRest_once (ci_next hok0 hR hpz l0 l1 N' F' B X T rfl rfl rfl rfl (Nat.le_of_ble_eq_true rfl) (Nat.le_of_ble_eq_true rfl) (fun c t5 h5 tk5 tp5 tln5 hc F5 N5 => ?_) (fun _ _ _ _ h0 => ?_))
  rotate_left
  · rw [htx] at h0; cases h0
  rw [htx] at hc
  obtain rfl : 34 = c := by simpa using hc
  rw [if_neg (by decide), Nat.add_zero] at N5
  try dsimp only
  refine wpAny_assign_Name ?_
  obtain ⟨R, N5, hRe⟩ := lex_hide N5
  clear N' F'
  walk_at "mine on"
  rotate_left
  · rename List.isEmpty _ = false => h0
    exact absurd h0 (by decide +kernel)
  refine go (For_start ?_)
  walk_at "mine on"
  rename Fr _ _ _ _ => F6
  rename News _ _ _ _ => N6
  refine go (iter_ci N6 (.head _) ?_)
  refine ForRest_J (LexAt w a g L' I s l.length (fun i => pz + 1 + i) (fun i => l.take i) ln n) (n₀ := l.length)
    ⟨_, _, 0, _, _, _, _, _, _, l0, l1, rfl, Nat.zero_le _, rfl, F6, lex_unhide N6 hRe⟩ ?_
  clear N6 F6 l0 l1 hc
  rintro k s₁ ⟨q, tq, i, h, tk, tp', tln', ch, tt, l0, l1, rfl, hi, rfl, F8, N8⟩
  have hlt : txt.length = pz + (l.length + rest.length + 2) := by
    have := congrArg List.length htx
    rw [List.length_drop] at this
    simp at this
    rw [Nat.eq_add_of_sub_eq (Nat.le_of_lt (Nat.lt_of_sub_pos (this ▸ Nat.succ_pos _))) this]
    clear hok
    omega
  have hdrop : txt.drop (pz + 1 + i) = l.drop i ++ 34 :: rest := by
    rw [Nat.add_assoc, ← List.drop_drop, htx, Nat.add_comm 1 i, List.drop_succ_cons, List.drop_append_of_le_length hi]
  refine ci_next hok0 hR (by omega) l0 l1 N8 F8 B X T rfl rfl rfl rfl (Nat.le_of_ble_eq_true rfl) (Nat.le_of_ble_eq_true rfl) (fun c t5 h5 tk5 tp5 tln5 hc F5 N5 => ?_) (fun _ _ _ _ h0 => ?_)
  rotate_left
  · rw [hdrop] at h0
    simp at h0
  rw [hdrop] at hc
  have hcs := take_case hi hc
  try dsimp only
  obtain ⟨R, N5, hRe⟩ := lex_hide N5
  clear N8 F8
  refine wpAny_assign_Name ?_
  walk_at "mine on"
  · rename Fr _ _ _ _ => F'
    rename News _ _ _ _ => N'
    rename (S [c] == PySem.Str.ofString "\"") = true => h0
    rw [quo_of] at h0
    rcases hcs with ⟨h1, h2, h3⟩ | ⟨h1, h2⟩
    · have := hl c h2
      have := S_one h0
      omega
    · subst h1 h2
      rw [List.take_length]
      refine' hfin _ _ _ _ (lexL w a (pz + 1 + l.length + 1) tp5 ln tln5 #[] n) F' (fun b hb => lex_unhide N' hRe b (List.mem_cons_of_mem _ (List.mem_cons_of_mem _ hb))) ⟨_, _, _, rfl, congrArg (fun z => lexL w a z tp5 ln tln5 #[] n) (by omega)⟩
  · exfalso
    rename (S [c] == PySem.Str.ofString "\\") = true => h0
    rw [bs_of] at h0
    have := S_one h0
    rcases hcs with ⟨h1, h2, h3⟩ | ⟨h1, h2⟩
    · have := hl c h2
      omega
    · omega
  · rename Fr _ _ _ _ => F'
    rename News _ _ _ _ => N'
    rename (S [c] == PySem.Str.ofString "\"") = false => h0
    rcases hcs with ⟨h1, h2, h3⟩ | ⟨h1, h2⟩
    · have h4 := hl c h2
      rw [if_neg (by omega), Nat.add_zero] at hRe
      rw [h3] at F'
      exact ⟨l.length - (i + 1), Nat.sub_succ_lt_self _ _ (by omega), q, tq, i + 1, _, _, _, _, _, _, l0, l1, rfl, h1, rfl, fr_put2 F', lex_unhide N' hRe⟩
    · rw [h2, quo_of] at h0
      exact absurd h0 (by decide)
end
end
section
local macro_rules | `(tactic| walk_at "idle 0") => `(tactic| skip)
theorem freshC16 : True := by
  w_top off
  exact True.intro
section
theorem get_plain (w : World) (txt : List Nat) (a : LexA) (hok : a.ok) (hR : ReadSpec (OpenLaw.row PySem.Challenge.rw_ty0003_01).toRowW.prog w (hd.heap_39 w.params) txt a) (pz : Nat) (tp : Tok) (ln : Nat) (tln : Tok) (n : Nat) (c0 b : Nat) (l rest : List Nat) (htx : txt.drop pz = c0 :: (l ++ b :: rest)) (hb : b = 32 ∨ b = 9 ∨ b = 13 ∨ b = 10) (hl0 : 65 ≤ c0 ∧ c0 < 81) (hl : ∀ c ∈ l, 65 ≤ c ∧ c < 81) (hlen : l.length ≤ 500) (s : Shared) :
    Does (OpenLaw.row PySem.Challenge.rw_ty0003_01).toRowW.prog w (hd.heap_39 w.params) 900 9000 (.ref 42) [.ref a.x] s (lexL w a pz tp ln tln #[] n)
      (fun v rel' _ => ∃ t tp' tln', v = .str (S (c0 :: l)) t ∧ rel' = lexL w a (pz + (l.length + 2)) tp' (ln + if b = 10 then 1 else 0) tln' #[] n) := by
  have hok0 := hok
  unfold LexA.ok at hok
  have hpz : pz ≤ txt.length := by
    rcases Nat.lt_or_ge txt.length pz with h | h
    · rw [List.drop_eq_nil_of_le (Nat.le_of_lt h)] at htx; cases htx
    · exact h
  k_fill
  walk_at "mine enter"
  case kM => exact (rfl : _ = ([("self", some (Value.ref a.x))] : List (PySem.Str × Option Value)))
  intro p loose mean mg mb gd env outer base g h₁ L' Fin F N B X T G hsz st hfin
  try dsimp only
  try k_fold
  unfold lexL topL readL at N
  dsimp only [List.cons_append, List.nil_append] at N
  walk_at "mine on"
  refine go (For_start ?_)
  walk_at "mine on"
  rename Fr _ _ _ _ => F'
  rename News _ _ _ _ => N'
  refine go (iter_ci N' (.head _) ?_)
  rename Addr => I
  rename @LT.lt Nat _ _ _ ∧ _ => l1
  replace l1 := l1.1
  rename @LT.lt Nat _ _ _ ∧ _ => l0
  replace l0 := l0.1
  refine ForRest_once (ci_next hok0 hR hpz l0 l1 N' F' B X T rfl rfl rfl rfl (Nat.le_of_ble_eq_true rfl) (Nat.le_of_ble_eq_true rfl) (fun c t5 h5 tk5 tp5 tln5 hc F5 N5 => ?_) (fun _ _ _ _ h0 => ?_))
  rotate_left
  · rw [htx] at h0; cases h0
  rw [htx] at hc
  obtain rfl : c0 = c := by simpa using hc
  rw [if_neg (by omega), Nat.add_zero] at N5
  have hw1 := ws_of hl0
  have hq1 : (S [c0] == PySem.Str.ofString "\"") = false := by
    rw [quo_of, beq_eq_false_iff_ne]
    intro h
    have := S_one (beq_iff_eq.mpr h)
    omega
  have hb1 : (S [c0] == PySem.Str.ofString "\\") = false := by
    rw [bs_of, beq_eq_false_iff_ne]
    intro h
    have := S_one (beq_iff_eq.mpr h)
    omega
  try dsimp only
  refine wpAny_assign_Name ?_
  obtain ⟨R, N5, hRe⟩ := lex_hide N5
  clear N' F'
  walk_at "mine on"
  refine go (For_start ?_)
  walk_at "mine on"
  rename Fr _ _ _ _ => F6
  rename News _ _ _ _ => N6
  refine go (iter_ci N6 (.head _) ?_)
  refine ForRest_J (LexAt w a g L' I s l.length (fun i => pz + 1 + i) (fun i => c0 :: l.take i) ln n) (n₀ := l.length)
    ⟨_, _, 0, _, _, _, _, _, _, l0, l1, rfl, Nat.zero_le _, rfl, fr_put (l := [("ch", some _), ("fiter", some _), ("token", some _), ("self", some _)]) F6, lex_unhide N6 hRe⟩ ?_
  clear N6 F6 l0 l1 hc
  rintro k s₁ ⟨q, tq, i, h, tk, tp', tln', ch, tt, l0, l1, rfl, hi, rfl, F8, N8⟩
  have hlt : txt.length = pz + (l.length + rest.length + 2) := by
    have := congrArg List.length htx
    rw [List.length_drop] at this
    simp at this
    rw [Nat.eq_add_of_sub_eq (Nat.le_of_lt (Nat.lt_of_sub_pos (this ▸ Nat.succ_pos _))) this]
    clear hok
    omega
  have hdrop : txt.drop (pz + 1 + i) = l.drop i ++ b :: rest := by
    rw [Nat.add_assoc, ← List.drop_drop, htx, Nat.add_comm 1 i, List.drop_succ_cons, List.drop_append_of_le_length hi]
  refine ci_next hok0 hR (by omega) l0 l1 N8 F8 B X T rfl rfl rfl rfl (Nat.le_of_ble_eq_true rfl) (Nat.le_of_ble_eq_true rfl) (fun c t5 h5 tk5 tp5 tln5 hc F5 N5 => ?_) (fun _ _ _ _ h0 => ?_)
  rotate_left
  · rw [hdrop] at h0
    simp at h0
  rw [hdrop] at hc
  have hcs := take_case hi hc
  try dsimp only
  obtain ⟨R, N5, hRe⟩ := lex_hide N5
  clear N8 F8
  refine wpAny_assign_Name ?_
  walk_at "mine on"
  · exfalso
    rename (S [c] == PySem.Str.ofString "\\") = true => h0
    rw [bs_of] at h0
    have := S_one h0
    rcases hcs with ⟨h1, h2, h3⟩ | ⟨h1, h2⟩
    · have := hl c h2
      omega
    · omega
  · rename Fr _ _ _ _ => F'
    rename News _ _ _ _ => N'
    rename List.isEmpty _ = true => h0
    rcases hcs with ⟨h1, h2, h3⟩ | ⟨h1, h2⟩
    · have h4 := hl c h2
      rw [if_neg (by omega), Nat.add_zero] at hRe
      rw [List.cons_append, h3] at F'
      exact ⟨l.length - (i + 1), Nat.sub_succ_lt_self _ _ (by omega), q, tq, i + 1, _, _, _, _, _, _, l0, l1, rfl, h1, rfl, fr_put2 F', lex_unhide N' hRe⟩
    · exact absurd h0 (by rw [h2, ws_in hb]; decide)
  · rename Fr _ _ _ _ => F'
    rename News _ _ _ _ => N'
    rename List.isEmpty _ = false => h0
    rcases hcs with ⟨h1, h2, h3⟩ | ⟨h1, h2⟩
    · rw [ws_of (hl c h2)] at h0
      cases h0
    · subst h1 h2
      rw [List.take_length]
      refine' hfin _ _ _ _ (lexL w a (pz + 1 + l.length + 1) tp5 (ln + if c = 10 then 1 else 0) tln5 #[] n) F' (fun b hb => lex_unhide N' hRe b (List.mem_cons_of_mem _ (List.mem_cons_of_mem _ hb))) ⟨_, _, _, rfl, congrArg (fun z => lexL w a z tp5 (ln + if c = 10 then 1 else 0) tln5 #[] n) (by omega)⟩
end
end
section
theorem freshC17 : True := by
  w_top off
  exact True.intro
section
theorem get_escaped (w : World) (txt : List Nat) (a : LexA) (hok : a.ok) (hR : ReadSpec (OpenLaw.row PySem.Challenge.rw_ty0003_01).toRowW.prog w (hd.heap_39 w.params) txt a) (pz : Nat) (tp : Tok) (ln : Nat) (tln : Tok) (n : Nat) (c0 b : Nat) (l rest : List Nat) (htx : txt.drop pz = 92 :: c0 :: (esc l ++ b :: rest)) (hb : b = 32 ∨ b = 9 ∨ b = 13 ∨ b = 10) (hl0 : 65 ≤ c0 ∧ c0 < 81) (hl : ∀ c ∈ l, 65 ≤ c ∧ c < 81) (hlen : l.length ≤ 500) (s : Shared) :
    Does (OpenLaw.row PySem.Challenge.rw_ty0003_01).toRowW.prog w (hd.heap_39 w.params) 900 9000 (.ref 42) [.ref a.x] s (lexL w a pz tp ln tln #[] n)
      (fun v rel' _ => ∃ t tp' tln', v = .str (S (c0 :: l)) t ∧ rel' = lexL w a (pz + (2 * l.length + 3)) tp' (ln + if b = 10 then 1 else 0) tln' #[] n) := by
  have hok0 := hok
  unfold LexA.ok at hok
  have hlt : txt.length = pz + (2 * l.length + rest.length + 3) := by
    have := congrArg List.length htx
    rw [List.length_drop] at this
    simp only [List.length_cons, List.length_append, esc_len] at this
    rw [Nat.eq_add_of_sub_eq (Nat.le_of_lt (Nat.lt_of_sub_pos (this ▸ Nat.succ_pos _))) this]
    clear hok
    omega
  k_fill
  walk_at "mine enter"
  case kM => exact (rfl : _ = ([("self", some (Value.ref a.x))] : List (PySem.Str × Option Value)))
  intro p loose mean mg mb gd env outer base g h₁ L' Fin F N B X T G hsz st hfin
  try dsimp only
  try k_fold
  unfold lexL topL readL at N
  dsimp only [List.cons_append, List.nil_append] at N
  walk_at "mine on"
  refine go (For_start ?_)
  walk_at "mine on"
  rename Fr _ _ _ _ => F'
  rename News _ _ _ _ => N'
  refine go (iter_ci N' (.head _) ?_)
  rename Addr => I
  rename @LT.lt Nat _ _ _ ∧ _ => l1
  replace l1 := l1.1
  rename @LT.lt Nat _ _ _ ∧ _ => l0
  replace l0 := l0.1
  have hw9 : List.isEmpty (Builtin.Str.occurrences (PySem.Str.ofString "\n\t\r ") (S [92]) 0 (Str.length (PySem.Str.ofString "\n\t\r ")) 1) = true := by decide +kernel
  have hq9 : (S [92] == PySem.Str.ofString "\"") = false := by decide +kernel
  have hb9 : (S [92] == PySem.Str.ofString "\\") = true := by decide +kernel
  refine ForRest_once (ci_next hok0 hR (by omega) l0 l1 N' F' B X T rfl rfl rfl rfl (Nat.le_of_ble_eq_true rfl) (Nat.le_of_ble_eq_true rfl) (fun c t5 h5 tk5 tp5 tln5 hc F5 N5 => ?_) (fun _ _ _ _ h0 => ?_))
  rotate_left
  · rw [htx] at h0; cases h0
  rw [htx] at hc
  obtain rfl : 92 = c := by simpa using hc
  rw [if_neg (by decide), Nat.add_zero] at N5
  try dsimp only
  refine wpAny_assign_Name ?_
  unfold ciL lexL topL readL at N5
  dsimp only [List.cons_append, List.nil_append] at N5
  clear N' F'
  walk_at "mine on"
  rotate_left
  · rename List.isEmpty _ = false => h0
    rw [hw9] at h0
    cases h0
  have hr1 : (txt.drop (pz + 1)).take 1 = [c0] := by
    rw [← List.drop_drop, htx]; rfl
  rename Fr _ _ _ _ => F6
  rename News _ _ _ _ => N6
  refine go (does_use (read_char w txt a hok0 hR (pz + 1) _ ln _ #[] n (by omega) _) B F6 X N6 T rfl rfl rfl rfl (Nat.le_of_ble_eq_true rfl) (Nat.le_of_ble_eq_true rfl) (fun b hb => List.mem_cons_of_mem _ (List.mem_cons_of_mem _ hb)) ?_)
  rintro v h6 tk6 rel' F7 N7 G7 ⟨t7, tp7, tln7, rfl, rfl⟩
  have N8 := ci_after (lex_lt hok0 (Nat.lt_trans l0 l1)) (lex_lt hok0 l0) N6 N7 G7
  rw [hr1] at N8 ⊢
  rw [if_neg (by simp; omega), Nat.add_zero, List.length_singleton] at N8
  unfold ciL lexL topL readL at N8
  dsimp only [List.cons_append, List.nil_append] at N8
  clear N6 F6 N7
  try dsimp only
  walk_at "mine on"
  refine go (For_start ?_)
  walk_at "mine on"
  rename Fr _ _ _ _ => F6
  rename News _ _ _ _ => N6
  refine go (iter_ci N6 (.head _) ?_)
  refine ForRest_J (LexAt w a g L' I s l.length (fun i => pz + 2 + 2 * i) (fun i => c0 :: l.take i) ln n) (n₀ := l.length)
    ⟨_, _, 0, _, _, _, _, _, _, l0, l1, rfl, Nat.zero_le _, rfl, fr_put2 (l := [("ch", some _), ("fiter", some _), ("token", some _), ("self", some _)]) F6, N6⟩ ?_
  clear N6 F6 l0 l1 hc
  rintro k s₁ ⟨q, tq, i, h, tk, tp', tln', ch, tt, l0, l1, rfl, hi, rfl, F8, N8⟩
  have hdrop : txt.drop (pz + 2 + 2 * i) = esc (l.drop i) ++ b :: rest := by
    rw [Nat.add_assoc, ← List.drop_drop, htx, Nat.add_comm 2 (2 * i)]
    exact esc_drop l i (b :: rest) hi
  refine ci_next hok0 hR (by omega) l0 l1 N8 F8 B X T rfl rfl rfl rfl (Nat.le_of_ble_eq_true rfl) (Nat.le_of_ble_eq_true rfl) (fun c t5 h5 tk5 tp5 tln5 hc F5 N5 => ?_) (fun _ _ _ _ h0 => ?_)
  rotate_left
  · rw [hdrop] at h0
    simp at h0
  rw [hdrop] at hc
  try dsimp only
  clear N8 F8
  refine wpAny_assign_Name ?_
  rcases Nat.lt_or_eq_of_le hi with hil | hil
  · obtain ⟨e1, e2⟩ : 92 = c ∧ txt.drop (pz + 2 + 2 * i + 1) = l[i] :: (esc (l.drop (i + 1)) ++ b :: rest) := by
      rw [List.drop_eq_getElem_cons hil] at hc hdrop
      refine ⟨?_, ?_⟩
      · have hc' : [92] = [c] := hc
        exact (List.cons.inj hc').1
      · rw [← List.drop_drop, hdrop]; rfl
    subst e1
    rw [if_neg (by decide), Nat.add_zero] at N5
    unfold ciL lexL topL readL at N5
    dsimp only [List.cons_append, List.nil_append] at N5
    walk_at "mine on"
    rotate_left
    · rename List.isEmpty _ = false => h0
      rw [hw9] at h0
      cases h0
    have hr2 : (txt.drop (pz + 2 + 2 * i + 1)).take 1 = [l[i]] := by rw [e2]; rfl
    have hli := hl _ (List.getElem_mem hil)
    rename Fr _ _ _ _ => F6
    rename News _ _ _ _ => N6
    refine go (does_use (read_char w txt a hok0 hR (pz + 2 + 2 * i + 1) _ ln _ #[] n (by omega) _) B F6 X N6 T rfl rfl rfl rfl (Nat.le_of_ble_eq_true rfl) (Nat.le_of_ble_eq_true rfl) (fun b hb => List.mem_cons_of_mem _ (List.mem_cons_of_mem _ hb)) ?_)
    rintro v h6 tk6 rel' F7 N7 G7 ⟨t7, tp7, tln7, rfl, rfl⟩
    have N8 := ci_after (lex_lt hok0 (Nat.lt_trans l0 l1)) (lex_lt hok0 l0) N6 N7 G7
    rw [hr2] at N8 ⊢
    rw [if_neg (by simp; omega), Nat.add_zero, List.length_singleton] at N8
    unfold ciL lexL topL readL at N8
    dsimp only [List.cons_append, List.nil_append] at N8
    clear N6 F6 N7
    try dsimp only
    walk_at "mine on"
    rename Fr _ _ _ _ => F'
    rename News _ _ _ _ => N'
    rw [List.cons_append, ← List.take_succ_eq_append_getElem hil] at F'
    rw [show pz + 2 + 2 * i + 1 + 1 = pz + 2 + 2 * (i + 1) by omega] at N'
    exact ⟨l.length - (i + 1), Nat.sub_succ_lt_self _ _ (by omega), q, tq, i + 1, _, _, _, _, _, _, l0, l1, rfl, hil, rfl, fr_put3 F', N'⟩
  · subst hil
    have hcb : c = b := by
      rw [List.drop_length] at hc
      exact ((List.cons.inj (hc : [b] = [c])).1).symm
    subst hcb
    have hwb := ws_in hb
    unfold ciL lexL topL readL at N5
    dsimp only [List.cons_append, List.nil_append] at N5
    walk_at "mine on"
    rename Fr _ _ _ _ => F'
    rename News _ _ _ _ => N'
    rw [List.take_length]
    refine' hfin _ _ _ _ (lexL w a (pz + 2 + 2 * l.length + 1) tp5 (ln + if c = 10 then 1 else 0) tln5 #[] n) F' (fun b hb => N' b (List.mem_cons_of_mem _ (List.mem_cons_of_mem _ hb))) ⟨_, _, _, rfl, congrArg (fun z => lexL w a z tp5 (ln + if c = 10 then 1 else 0) tln5 #[] n) (by omega)⟩
end
end
section
local macro_rules | `(tactic| walk_at "idle 0") => `(tactic| skip)
theorem freshC18 : True := by
  w_top off
  exact True.intro
section
theorem get_eof (w : World) (txt : List Nat) (a : LexA) (hok : a.ok) (hR : ReadSpec (OpenLaw.row PySem.Challenge.rw_ty0003_01).toRowW.prog w (hd.heap_39 w.params) txt a) (tp : Tok) (ln : Nat) (tln : Tok) (n : Nat) (s : Shared) :
    Does (OpenLaw.row PySem.Challenge.rw_ty0003_01).toRowW.prog w (hd.heap_39 w.params) 900 9000 (.ref 42) [.ref a.x] s (lexL w a txt.length tp ln tln #[] n)
      (fun v rel' _ => ∃ t tp' tln', v = .str (S []) t ∧ rel' = lexL w a txt.length tp' ln tln' #[] n) := by
  have hok0 := hok
  unfold LexA.ok at hok
  k_fill
  walk_at "mine enter"
  case kM => exact (rfl : _ = ([("self", some (Value.ref a.x))] : List (PySem.Str × Option Value)))
  intro p loose mean mg mb gd env outer base g h₁ L' Fin F N B X T G hsz st hfin
  try dsimp only
  try k_fold
  unfold lexL topL readL at N
  dsimp only [List.cons_append, List.nil_append] at N
  walk_at "mine on"
  refine go (For_start ?_)
  walk_at "mine on"
  rename Fr _ _ _ _ => F'
  rename News _ _ _ _ => N'
  refine go (iter_ci N' (.head _) ?_)
  rename Addr => I
  rename @LT.lt Nat _ _ _ ∧ _ => l1
  replace l1 := l1.1
  rename @LT.lt Nat _ _ _ ∧ _ => l0
  replace l0 := l0.1
  refine ForRest_once (ci_next hok0 hR (Nat.le_refl _) l0 l1 N' F' B X T rfl rfl rfl rfl (Nat.le_of_ble_eq_true rfl) (Nat.le_of_ble_eq_true rfl) (fun c t5 h5 tk5 tp5 tln5 hc F5 N5 => ?_) (fun h5 tk5 tp5 tln5 h0 F5 N5 => ?_))
  · rw [List.drop_length] at hc
    cases hc
  clear N' F'
  try dsimp only
  walk_at "mine on"
  rename Fr _ _ _ _ => F'
  exact hfin _ _ _ _ _ F' N5 ⟨_, _, _, congrArg (fun x => Value.str x _) e_of, rfl⟩
end
end
end
section
theorem does_mono {prog : Program} {w : World} {K : Frag} {d u : Nat} {f : Value} {vs : List Value} {s : Shared} {rel : List (Addr × Obj)} {post post' : Value → List (Addr × Obj) → Heap → Prop} (D : Does prog w K d u f vs s rel post) (h : ∀ v r h', post v r h' → post' v r h') : Does prog w K d u f vs s rel post' :=
  fun p loose mean mg mb gd env outer A₀ base h₀ L m Q B F X N T hf hke hret => D p loose mean mg mb gd env outer A₀ base h₀ L m Q B F X N T hf hke fun v h' tk' rel' F' N' G hp => hret v h' tk' rel' F' N' G (h v rel' h' hp)
theorem blk_in {k : Nat} (h : k < 4) : blk k = 32 ∨ blk k = 9 ∨ blk k = 13 ∨ blk k = 10 := by
  have : ∀ k, k < 4 → blk k = 32 ∨ blk k = 9 ∨ blk k = 13 ∨ blk k = 10 := by decide
  exact this k h
theorem count_letters {l : List Nat} (hl : ∀ c ∈ l, 65 ≤ c ∧ c < 81) : l.count 10 = 0 := by
  rw [List.count_eq_zero]
  intro h
  have := hl _ h
  omega
theorem count_esc {l : List Nat} (hl : ∀ c ∈ l, 65 ≤ c ∧ c < 81) : (esc l).count 10 = 0 := by
  rw [List.count_eq_zero]
  intro h
  obtain ⟨c, hc, h⟩ := List.mem_flatMap.mp h
  have := hl _ hc
  simp at h
  omega
/-- a word that was written -/
theorem get_text (w : World) (txt : List Nat) (a : LexA) (hok : a.ok) (hR : ReadSpec (OpenLaw.row PySem.Challenge.rw_ty0003_01).toRowW.prog w (hd.heap_39 w.params) txt a) (pz : Nat) (tp : Tok) (ln : Nat) (tln : Tok) (n : Nat) (mn : Nat) (l rest : List Nat) (htx : txt.drop pz = wtn l mn ++ rest) (hmn : mn < 12) (hl : ∀ c ∈ l, 65 ≤ c ∧ c < 81) (hlen : l.length ≤ 500) (s : Shared) :
    Does (OpenLaw.row PySem.Challenge.rw_ty0003_01).toRowW.prog w (hd.heap_39 w.params) 900 9000 (.ref 42) [.ref a.x] s (lexL w a pz tp ln tln #[] n)
      (fun v rel' _ => ∃ t tp' tln', v = .str (S l) t ∧ rel' = lexL w a (pz + (wtn l mn).length) tp' (ln + (wtn l mn).count 10) tln' #[] n) := by
  by_cases hq : l = [] ∨ mn % 3 = 2
  · have e : wtn l mn = 34 :: (l ++ [34]) := by unfold wtn; rw [if_pos hq]
    rw [e] at htx ⊢
    refine does_mono (get_quoted w txt a hok hR pz tp ln tln n l rest (by rw [htx]; simp) hl hlen s) ?_
    rintro v r h' ⟨t, tp', tln', rfl, rfl⟩
    refine ⟨t, tp', tln', rfl, ?_⟩
    have e1 : (34 :: (l ++ [34])).length = l.length + 2 := by simp
    have e2 : (34 :: (l ++ [34])).count 10 = 0 := by simp [List.count_cons, List.count_append, count_letters hl]
    rw [e1, e2]; rfl
  · obtain ⟨c0, l', rfl⟩ : ∃ c0 l', l = c0 :: l' := by
      match l, hq with
      | [], hq => exact absurd (.inl rfl) hq
      | c0 :: l', _ => exact ⟨c0, l', rfl⟩
    have hl0 := hl c0 (List.mem_cons_self ..)
    have hl' : ∀ c ∈ l', 65 ≤ c ∧ c < 81 := fun c hc => hl c (List.mem_cons_of_mem _ hc)
    have hlen' : l'.length ≤ 500 := by simp at hlen; omega
    have hb := blk_in (k := mn / 3) (by omega)
    by_cases h1 : mn % 3 = 1
    · have e : wtn (c0 :: l') mn = 92 :: c0 :: (esc l' ++ [blk (mn / 3)]) := by unfold wtn; rw [if_neg hq, if_pos h1]; rfl
      rw [e] at htx ⊢
      refine does_mono (get_escaped w txt a hok hR pz tp ln tln n c0 (blk (mn / 3)) l' rest (by rw [htx]; simp) hb hl0 hl' hlen' s) ?_
      rintro v r h' ⟨t, tp', tln', rfl, rfl⟩
      refine ⟨t, tp', tln', rfl, ?_⟩
      have e1 : (92 :: c0 :: (esc l' ++ [blk (mn / 3)])).length = 2 * l'.length + 3 := by
        rw [List.length_cons, List.length_cons, List.length_append, esc_len]; simp
      have e2 : (92 :: c0 :: (esc l' ++ [blk (mn / 3)])).count 10 = if blk (mn / 3) = 10 then 1 else 0 := by
        have h0 : c0 ≠ 10 := by omega
        rw [List.count_cons, List.count_cons, List.count_append, count_esc hl', List.count_singleton]
        simp [h0]
      rw [e1, e2]
    · have e : wtn (c0 :: l') mn = c0 :: (l' ++ [blk (mn / 3)]) := by unfold wtn; rw [if_neg hq, if_neg h1]; rfl
      rw [e] at htx ⊢
      refine does_mono (get_plain w txt a hok hR pz tp ln tln n c0 (blk (mn / 3)) l' rest (by rw [htx]; simp) hb hl0 hl' hlen' s) ?_
      rintro v r h' ⟨t, tp', tln', rfl, rfl⟩
      refine ⟨t, tp', tln', rfl, ?_⟩
      have e1 : (c0 :: (l' ++ [blk (mn / 3)])).length = l'.length + 2 := by simp
      have e2 : (c0 :: (l' ++ [blk (mn / 3)])).count 10 = if blk (mn / 3) = 10 then 1 else 0 := by
        rw [List.count_cons, List.count_append, count_letters hl', if_neg (by simp; omega), List.count_singleton]
        simp
      rw [e1, e2]
end
section
set_option Elab.async false
open PySem PySem.W PySem.Calls PyProof.Rows PySem.Spec
/-- an int's letters -/
noncomputable def apL (n : Nat) : List Nat := (apB n).map (·.toNat)
noncomputable def psum (t : Nat) : List Nat → List Nat
  | [] => []
  | v :: r => (t + v) :: psum (t + v) r
/-- one row: its words, the totals, the words struck out -/
noncomputable def row1 (r : Nat) (x : List Nat × List Nat × List Nat) : List Nat × List Nat × List Nat :=
  (psum (x.2.1.getD r 0) x.1.dropLast, x.2.1.set r (x.2.1.getD r 0 + x.1.dropLast.sum), x.2.2 ++ [x.1.getLastD 0])
noncomputable def rows : Nat → List Nat × List Nat × List Nat → List Nat × List Nat × List Nat
  | 0, x => x
  | i + 1, x => row1 i (rows i x)
theorem psum_len : ∀ (l : List Nat) (t : Nat), (psum t l).length = l.length
  | [], _ => rfl
  | v :: r, t => by rw [psum, List.length_cons, psum_len r, List.length_cons]
theorem sum_le {l : List Nat} {B : Nat} (h : ∀ v ∈ l, v ≤ B) : l.sum ≤ l.length * B := by
  induction l with
  | nil => simp
  | cons a r ih =>
    have h1 := ih fun v hv => h v (List.mem_cons_of_mem _ hv)
    have h2 := h a (List.mem_cons_self ..)
    rw [List.sum_cons, List.length_cons, Nat.succ_mul]
    omega
theorem psum_le : ∀ (l : List Nat) (t x : Nat), x ∈ psum t l → x ≤ t + l.sum
  | v :: r, t, x, h => by
    rw [psum] at h
    rw [List.sum_cons]
    rcases List.mem_cons.mp h with h | h
    · omega
    · have := psum_le r (t + v) x h; omega
theorem rows_inv {V T0 : List Nat} {M : Nat} (hT5 : T0.length = 5) (hV5 : V.length ≤ 5) (hVM : ∀ v ∈ V, v ≤ M) (hTM : ∀ v ∈ T0, v ≤ M) : ∀ i, i ≤ V.length →
    (rows i (V, T0, [])).1.length = V.length - i ∧ (rows i (V, T0, [])).2.1.length = 5 ∧ (∀ v ∈ (rows i (V, T0, [])).1, v ≤ 6 ^ i * M) ∧ (∀ v ∈ (rows i (V, T0, [])).2.1, v ≤ 6 ^ i * M)
  | 0, _ => ⟨rfl, hT5, by simpa [rows] using hVM, by simpa [rows] using hTM⟩
  | i + 1, hi => by
    obtain ⟨h1, h2, h3, h4⟩ := rows_inv hT5 hV5 hVM hTM i (Nat.le_of_succ_le hi)
    have ht : (rows i (V, T0, [])).2.1.getD i 0 ≤ 6 ^ i * M := by
      rw [List.getD_eq_getElem?_getD]
      cases q : (rows i (V, T0, [])).2.1[i]? with
      | none => simp
      | some x => exact h4 x (List.mem_of_getElem? q)
    have hd : ∀ v ∈ (rows i (V, T0, [])).1.dropLast, v ≤ 6 ^ i * M := fun v hv => h3 v (List.dropLast_subset _ hv)
    have hs := sum_le hd
    have hdl : (rows i (V, T0, [])).1.dropLast.length ≤ 4 := by rw [List.length_dropLast, h1]; exact Nat.sub_le_sub_right (Nat.le_trans (Nat.sub_le _ _) hV5) 1
    have hs2 : (rows i (V, T0, [])).1.dropLast.sum ≤ 4 * (6 ^ i * M) := Nat.le_trans hs (Nat.mul_le_mul_right _ hdl)
    have h6 : 6 ^ (i + 1) * M = 6 * (6 ^ i * M) := by rw [Nat.pow_succ, Nat.mul_comm (6 ^ i) 6, Nat.mul_assoc]
    refine ⟨?_, ?_, ?_, ?_⟩
    · show (psum _ _).length = _
      rw [psum_len, List.length_dropLast, h1, Nat.sub_sub]
    · show (List.set _ _ _).length = _
      rw [List.length_set]; exact h2
    · intro v hv
      have := psum_le _ _ v hv
      omega
    · intro v hv
      rcases List.mem_or_eq_of_mem_set hv with h | h
      · have := h4 v h; omega
      · omega
end
section
open PySem PySem.W PySem.Calls PyProof.Rows PySem.Spec
set_option Elab.async false
set_option maxRecDepth 100000
theorem apL_zero : apL 0 = [] := by unfold apL; rw [apB_zero]; rfl
theorem apL_step {n : Nat} (h : n ≠ 0) : apL n = apL (n / 16) ++ [65 + n % 16] := by
  unfold apL
  rw [apB_step h, List.map_append, List.map_singleton]
  congr 2
  rw [UInt8.toNat_ofNat']
  omega
theorem apL_in (n : Nat) : ∀ c ∈ apL n, 65 ≤ c ∧ c < 81 := by
  induction n using Nat.strongRecOn with
  | ind n ih =>
    intro c hc
    by_cases h : n = 0
    · rw [h, apL_zero] at hc; cases hc
    · rw [apL_step h] at hc
      rcases List.mem_append.mp hc with hc | hc
      · exact ih (n / 16) (Nat.div_lt_self (Nat.pos_of_ne_zero h) (by decide)) c hc
      · rw [List.mem_singleton.mp hc]; omega
theorem hexv_snoc (l : List Nat) (c : Nat) : hexv (l ++ [c]) = 16 * hexv l + (c - 65) := by
  rw [hexv_append]; rfl
theorem hexv_apL (n : Nat) : hexv (apL n) = n := by
  induction n using Nat.strongRecOn with
  | ind n ih =>
    by_cases h : n = 0
    · rw [h, apL_zero]; rfl
    · rw [apL_step h, hexv_snoc, ih (n / 16) (Nat.div_lt_self (Nat.pos_of_ne_zero h) (by decide))]
      omega
theorem apL_len (k : Nat) : ∀ n, n < 16 ^ k → (apL n).length ≤ k := by
  induction k with
  | zero => intro n h; rw [show n = 0 from by simpa using h, apL_zero]; exact Nat.le_refl _
  | succ k ih =>
    intro n h
    by_cases h0 : n = 0
    · rw [h0, apL_zero]; exact Nat.zero_le _
    · rw [apL_step h0, List.length_append, List.length_singleton]
      have := ih (n / 16) (by rw [Nat.pow_succ] at h; omega)
      omega
theorem apL_nil {n : Nat} (h : apL n = []) : n = 0 := by rw [← hexv_apL n, h]; rfl
section
variable {h₀ h h' : Heap} {L : Addr}
theorem news_call {xs rel rel' zs : List (Addr × Obj)} (N : News h₀ L h (xs ++ (rel ++ zs))) (N' : News h₀ L h' rel') (G : GSub h h' (rel.map (·.1))) (hx : ∀ q ∈ xs, q.1 ∉ rel.map (·.1)) (hz : ∀ q ∈ zs, q.1 ∉ rel.map (·.1)) : News h₀ L h' (xs ++ (rel' ++ zs)) := by
  intro q hq
  rcases List.mem_append.mp hq with hq | hq
  · have := N q (List.mem_append_left _ hq)
    exact ⟨G _ _ this.1 (hx q hq), this.2⟩
  · rcases List.mem_append.mp hq with hq | hq
    · exact N' q hq
    · have := N q (List.mem_append_right _ (List.mem_append_right _ hq))
      exact ⟨G _ _ this.1 (hz q hq), this.2⟩
theorem lo_cut {prog : Program} {w : World} {A : Around} {E : Value → Shared → Prop} {s : Shared} {m : PySem.Str → Option Value} {news : List (Addr × Obj)} {l : Addr} {vs : List Value} {n : Nat} {k : Int} {t : Tok} {value slice : PySem.Expr} {Q : Value → Shared → Prop}
    (F : Fr h₀ L s.heap m) (N : News h₀ L s.heap news) (hm : (l, W.listOf vs.toArray n) ∈ news) (h0 : 0 ≤ k) (hz : vs.length ≤ 10000)
    (h : ∀ D h', Fr h₀ L h' m → News h₀ L h' ((D, W.listOf (vs.take k.toNat).toArray 0) :: news) → (∀ p ∈ news, p.1 < D) → Q (.ref D) { s with heap := h' })
    (hs : subscripted slice false (.ref l) (.ref s.heap.objs.size) = operate [.ref s.heap.objs.size, .ref l] (getItem (.ref l) (.ref s.heap.objs.size))) (ht : ∀ r, letTemporaryGo value (.ref l) r = pure ()) :
    wpAny (model prog w) A (subscriptTail value slice (.ref l) (.ref s.heap.objs.size)) Q E { s with heap := s.heap.push { cls := .type "slice", data := .fields #[.none, .int k t, .none] } } := by
  refine kmk_slice F N (lo_isList N hm) .none (.int k t) (fun D h' F' N' l1 => h D h' F' ?_ l1) hs ht (by rw [sizeLine_eq, List.size_toArray]; omega)
  obtain ⟨j, rfl⟩ := Int.eq_ofNat_of_zero_le h0
  have e := slicePick_upto' vs.toArray j
  rw [e] at N'
  exact N'
theorem lo_butLast {prog : Program} {w : World} {A : Around} {E : Value → Shared → Prop} {s : Shared} {m : PySem.Str → Option Value} {news : List (Addr × Obj)} {l : Addr} {vs : List Value} {n : Nat} {t : Tok} {value slice : PySem.Expr} {Q : Value → Shared → Prop}
    (F : Fr h₀ L s.heap m) (N : News h₀ L s.heap news) (hm : (l, W.listOf vs.toArray n) ∈ news) (hz : vs.length ≤ 10000)
    (h : ∀ D h', Fr h₀ L h' m → News h₀ L h' ((D, W.listOf vs.dropLast.toArray 0) :: news) → (∀ p ∈ news, p.1 < D) → Q (.ref D) { s with heap := h' })
    (hs : subscripted slice false (.ref l) (.ref s.heap.objs.size) = operate [.ref s.heap.objs.size, .ref l] (getItem (.ref l) (.ref s.heap.objs.size))) (ht : ∀ r, letTemporaryGo value (.ref l) r = pure ()) :
    wpAny (model prog w) A (subscriptTail value slice (.ref l) (.ref s.heap.objs.size)) Q E { s with heap := s.heap.push { cls := .type "slice", data := .fields #[.none, .int (-1) t, .none] } } := by
  refine kmk_slice F N (lo_isList N hm) .none (.int (-1) t) (fun D h' F' N' l1 => h D h' F' ?_ l1) hs ht (by rw [sizeLine_eq, List.size_toArray]; omega)
  have e := slicePick_butLast vs.toArray 1 (by decide)
  rw [List.dropLast_eq_take]
  rw [show (-((1 : Nat) : Int)) = -1 from rfl] at e
  rw [e] at N'
  simpa using N'
theorem gsub_le {l l' : List Addr} (G : GSub h h' l) (hl : ∀ a ∈ l, a ∈ l') : GSub h h' l' := fun b o e n => G b o e (fun m => n (hl b m))
end
end
section
open PySem PySem.W PySem.Calls PyProof.Rows PySem.Spec
set_option Elab.async false
set_option maxRecDepth 100000
theorem utf8_ascii (b : Array UInt8) (p : Nat) (h : (b.getD p 0).toNat < 128) (f : Bool) : Builtin._codecs.utf8Decoder.find f b p = .text [(b.getD p 0).toNat] (p + 1) := by
  have e : Builtin.Bytes.utf8At b p = (.char (b.getD p 0).toNat, p + 1) := by
    unfold Builtin.Bytes.utf8At
    rw [if_pos h]
  unfold Builtin._codecs.utf8Decoder
  dsimp only
  rw [e]
  rfl
theorem run_ascii (id : String) (l : List UInt8) (hl : ∀ c ∈ l, c.toNat < 128) (hn : l.length ≤ 10000) : Builtin._codecs.runDecoder id Builtin._codecs.utf8Decoder none true l.toArray 0 [] = pure ((l.map (·.toNat)).toArray, l.length) := by
  have key : ∀ (f : Nat → Nat × Array Nat × Builtin._codecs.Faults → Sem (ForInStep (Nat × Array Nat × Builtin._codecs.Faults))) (st : Builtin._codecs.Faults),
      (∀ x p, p < l.length → f x (p, ((l.take p).map (·.toNat)).toArray, st) = pure (.yield (p + 1, ((l.take (p + 1)).map (·.toNat)).toArray, st))) →
      ∀ k p j, p + k = l.length → forIn (List.range' j k) (p, ((l.take p).map (·.toNat)).toArray, st) f = pure (l.length, (l.map (·.toNat)).toArray, st) := by
    intro f st hf k
    induction k with
    | zero =>
      intro p j hp
      have : p = l.length := by omega
      subst this
      rw [List.range'_zero, List.forIn_nil, List.take_length]
    | succ k ih =>
      intro p j hp
      rw [List.range'_succ, List.forIn_cons, hf j p (by omega), pure_bind]
      exact ih (p + 1) (j + 1) (by omega)
  unfold Builtin._codecs.runDecoder
  simp only [Std.Legacy.Range.forIn_eq_forIn_range']
  have hsz : [:l.toArray.size].size = l.length := by simp [Std.Legacy.Range.size]
  rw [hsz]
  refine (congrArg (· >>= _) (key _ _ ?_ l.length 0 0 (by omega))).trans ?_
  · intro x p hp
    have h1 : ¬ (((l.take p).map (·.toNat)).toArray.size > sizeLine) := by
      rw [sizeLine_eq, List.size_toArray, List.length_map, List.length_take]; omega
    have h2 : ¬ (p ≥ l.toArray.size) := by rw [List.size_toArray]; omega
    have hg : l.toArray.getD p 0 = l[p] := by simp [hp]
    have h3 : (l.toArray.getD p 0).toNat < 128 := by rw [hg]; exact hl _ (List.getElem_mem hp)
    dsimp only
    rw [if_neg h1, if_neg h2, utf8_ascii _ _ h3, hg]
    dsimp only
    rw [List.take_add_one, List.getElem?_eq_getElem hp, List.map_append, List.append_toArray]
    rfl
  · rw [pure_bind]
theorem entry_nil {t : Tok} : Builtin.«bytes.decode» ⟨[.bytes #[] t], []⟩ = (rule "bytes.decode.empty" >>= fun _ => mkStr Str.empty >>= fun v => ret v) := by kernel_rfl
theorem meets_nil {t : Tok} : Meets (Builtin.«bytes.decode» ⟨[.bytes #[] t], []⟩) (fun _ R s => ∀ t' k, R (.ok (.ret (.str (S []) t'))) { s with toks := k }) := by
  refine .of_wp fun prog w A R s h => ?_
  rw [entry_nil]
  refine wpAny_bind (wpAny_rule (wpAny_bind (wpAny_mkStr ?_ (by decide))))
  exact wpAny_pure ⟨_, rfl, h _ _⟩
theorem apB_lt (n : Nat) : ∀ c ∈ apB n, c.toNat < 128 := by
  intro c hc
  have := apL_in n c.toNat (List.mem_map_of_mem hc)
  omega
theorem apB_len (n : Nat) : (apB n).length = (apL n).length := by unfold apL; rw [List.length_map]
theorem ap_decode {prog : Program} {w : World} {A : Around} {E : Value → Shared → Prop} {s : Shared} {t : Tok} {n : Nat} {Q : Value → Shared → Prop} (hn : n < 16 ^ 100) (h : ∀ t' k, Q (.str (S (apL n)) t') { s with toks := k }) :
    wpAny (model prog w) A (call (.builtin "bytes.decode") [.bytes (apB n).toArray t]) Q E s := by
  have hlen : (apB n).length ≤ 100 := by rw [apB_len]; exact apL_len 100 n hn
  have hr := fun id => run_ascii id (apB n) (apB_lt n) (by omega)
  have ha : apL n = (apB n).map (·.toNat) := rfl
  generalize apB n = l at *
  cases l with
  | nil =>
    rw [ha] at h
    exact call_meets FB.slot_bytes_decode (typeIs_bytes _ _ _) FB.entry_bytes_decode (FB.args_bytes_decode_1 _) meets_nil h
  | cons c cs =>
    refine KBd.decode (x := S (apL n)) (n := (c :: cs).length) (fun id => ?_) ?_ h
    · rw [hr id, ha]
    · rw [S_len, ha, List.length_map]; omega
theorem set_get {items : Array Value} {k : Int} {v : Value} (h : k < items.size) (h0 : 0 ≤ k) : (items.setIfInBounds k.toNat v)[k.toNat]? = some v := by
  rw [Array.getElem?_setIfInBounds, if_pos rfl, if_pos (by omega)]
theorem strs_dropLast {vs : List Value} {ys : List PySem.Str} (h : StrsAre vs ys) : StrsAre vs.dropLast ys.dropLast := by
  rw [List.dropLast_eq_take, List.dropLast_eq_take, h.len_eq]
  exact h.take' _
theorem int2apN (w : World) (n : Nat) (x : Int) (hx : x = n) (tk : Tok) (s : Shared) (hn : n < 16 ^ 100) : Does (OpenLaw.row PySem.Challenge.rw_ty0003_01).toRowW.prog w (hd.heap_39 w.params) 900 9000 (.ref 70) [.int x tk] s [] (fun v rel' h' => rel' = [] ∧ ∃ t, v = .bytes (apB n).toArray t) := by
  subst hx
  exact int2ap w n tk s hn
section
variable {prog : Program} {w : World} {A : Around} {E : Value → Shared → Prop} {s : Shared} {h₀ : Heap} {L l : Addr} {m : PySem.Str → Option Value} {news : List (Addr × Obj)} {items : Array Value} {n : Nat} {x : Value} {t : Tok}
theorem lo_item {value slice : PySem.Expr} {k : Int} {Q : Value → Shared → Prop} (N : News h₀ L s.heap news) (hm : (l, W.listOf items n) ∈ news) (h0 : 0 ≤ k) (hf : k < 2 ^ 63) (hx : items[k.toNat]? = some x) (h : Q x s)
    (hs : subscripted slice false (.ref l) (.int k t) = operate [.ref l, .int k t] (getItem (.ref l) (.int k t))) (ht : ∀ r, letTemporaryGo value (.ref l) r = pure ()) :
    wpAny (model prog w) A (subscriptTail value slice (.ref l) (.int k t)) Q E s :=
  item_list (lo_isList N hm) h0 hf hx h hs ht
theorem lo_itemLast {value slice : PySem.Expr} {Q : Value → Shared → Prop} (N : News h₀ L s.heap news) (hm : (l, W.listOf items n) ∈ news) (hx : items[items.size - 1]? = some x) (h : Q x s)
    (hs : subscripted slice false (.ref l) (.int (-1) t) = operate [.ref l, .int (-1) t] (getItem (.ref l) (.int (-1) t))) (ht : ∀ r, letTemporaryGo value (.ref l) r = pure ()) :
    wpAny (model prog w) A (subscriptTail value slice (.ref l) (.int (-1) t)) Q E s :=
  subscriptTail_builtin (lo_isList N hm).typeIs slot_list_getitem.lookup (lo_last N hm hx h) hs ht
end
theorem lo_cutI {prog : Program} {w : World} {A : Around} {E : Value → Shared → Prop} {s : Shared} {h₀ : Heap} {L : Addr} {m : PySem.Str → Option Value} {news : List (Addr × Obj)} {l : Addr} {vs : List Value} {k : Int} {t : Tok} {value slice : PySem.Expr} {Q : Value → Shared → Prop}
    (F : Fr h₀ L s.heap m) (N : News h₀ L s.heap news) (hl : s.heap.IsList l vs.toArray) (h0 : 0 ≤ k) (hz : vs.length ≤ 10000)
    (h : ∀ D h', Fr h₀ L h' m → News h₀ L h' ((D, W.listOf (vs.take k.toNat).toArray 0) :: news) → (∀ p ∈ news, p.1 < D) → Q (.ref D) { s with heap := h' })
    (hs : subscripted slice false (.ref l) (.ref s.heap.objs.size) = operate [.ref s.heap.objs.size, .ref l] (getItem (.ref l) (.ref s.heap.objs.size))) (ht : ∀ r, letTemporaryGo value (.ref l) r = pure ()) :
    wpAny (model prog w) A (subscriptTail value slice (.ref l) (.ref s.heap.objs.size)) Q E { s with heap := s.heap.push { cls := .type "slice", data := .fields #[.none, .int k t, .none] } } := by
  refine kmk_slice F N hl .none (.int k t) (fun D h' F' N' l1 => h D h' F' ?_ l1) hs ht (by rw [sizeLine_eq, List.size_toArray]; omega)
  obtain ⟨j, rfl⟩ := Int.eq_ofNat_of_zero_le h0
  have e := slicePick_upto' vs.toArray j
  rw [e] at N'
  exact N'
theorem psum_get : ∀ (l : List Nat) (t j : Nat) (hj : j < l.length), (psum t l)[j]? = some (t + (l.take j).sum + l[j])
  | [], _, _, h => nomatch h
  | v :: r, t, 0, _ => by simp [psum]
  | v :: r, t, j + 1, h => by
    have := psum_get r (t + v) j (by simpa using h)
    simp only [psum, List.getElem?_cons_succ, this, List.take_succ_cons, List.sum_cons, List.getElem_cons_succ]
    congr 1; omega
theorem upd_last {d : Addr} {o o' : Obj} : ∀ {pre : List (Addr × Obj)}, (∀ p ∈ pre, p.1 ≠ d) → Upd d o o' (pre ++ [(d, o)]) (pre ++ [(d, o')])
  | [], _ => .head fun _ h => nomatch h
  | p :: r, h => .tail (h p (List.mem_cons_self ..)) (upd_last fun q hq => h q (List.mem_cons_of_mem _ hq))
theorem upd_mid {d : Addr} {o o' : Obj} {post : List (Addr × Obj)} (hp : ∀ p ∈ post, p.1 ≠ d) : ∀ {pre : List (Addr × Obj)}, (∀ p ∈ pre, p.1 ≠ d) → Upd d o o' (pre ++ (d, o) :: post) (pre ++ (d, o') :: post)
  | [], _ => .head hp
  | p :: r, h => .tail (h p (List.mem_cons_self ..)) (upd_mid hp fun q hq => h q (List.mem_cons_of_mem _ hq))
theorem mp_dup {l : List (PySem.Str × Option Value)} {x : PySem.Str} {v : Option Value} (h : mp l x = v) : mp ((x, v) :: l) = mp l := by
  funext y
  rw [mp]
  by_cases e : y = x
  · rw [if_pos e, e, h]
  · rw [if_neg e]
end
section
noncomputable abbrev en (it : Addr) (i : Int) (old : Value) : Obj := { cls := .type "enumerate", dict := none, data := .fields #[.none, .bool false, .ref it, rawInt i, .none, old], slots := #[] }
section
variable {prog : Program} {w : World} {A : Around} {E : Value → Shared → Prop} {env : Env} {h₀ h9 : Heap} {L : Addr} {m : PySem.Str → Option Value} {news : List (Addr × Obj)}
theorem comp_listP {α : Type} {elt iter : PySem.Expr} {x : PySem.Str} {px : Pos} {ifs : List PySem.Expr} {scope : Scope} {cl : List (PySem.Str × Addr)} {pos : Pos} {s : Shared} {Q : Value → Shared → Prop} (_ : Fr h₀ L h9 m) (_ : News h₀ L h9 news) (At : α → Value → Prop) (un : Value → Option α) (hun : ∀ a v, At a v → un v = some a)
    (xs : List α) (pz : α → Bool) (R : α → Value → Prop)
    (hclos : closureFor scope env = pure cl) (hcell : ∀ y ∈ scope.names, y.2 ≠ .cell) (hkind : scope.kind = .function)
    (hnames : ∀ y ∈ scope.names, y.2 = .local → scope.names.lookup y.1 = some .local) (hx : scope.names.lookup x = some .local) (hh : A.handled = none) (hxs : xs.length ≤ 16777216)
    (h : wpAny (model prog w) A (eval iter env) (ListIn prog w A env h₀ L m news elt x ifs scope cl At xs pz R Q) E s)
    (hs : ∀ x, foldedSetIterable iter env x = pure x := by intro _; rfl) :
    wpAny (model prog w) A (eval (.ListComp elt [⟨.Name x px, iter, ifs, 0⟩] scope pos) env) Q E s :=
  comp_list At un hun xs pz R hclos hcell hkind hnames hx hh hxs h hs
theorem comp_rangeP {elt iter : PySem.Expr} {x : PySem.Str} {px : Pos} {ifs : List PySem.Expr} {scope : Scope} {cl : List (PySem.Str × Addr)} {pos : Pos} {s : Shared} {Q : Value → Shared → Prop} (_ : Fr h₀ L h9 m) (_ : News h₀ L h9 news) (n : Nat) (pz : Int → Bool) (R : Int → Value → Prop)
    (hclos : closureFor scope env = pure cl) (hcell : ∀ y ∈ scope.names, y.2 ≠ .cell) (hkind : scope.kind = .function)
    (hnames : ∀ y ∈ scope.names, y.2 = .local → scope.names.lookup y.1 = some .local) (hx : scope.names.lookup x = some .local) (hh : A.handled = none) (hn : n ≤ 100000)
    (h : wpAny (model prog w) A (eval iter env) (RangeIn prog w A env h₀ L m news elt x ifs scope cl n pz R Q) E s)
    (hs : ∀ x, foldedSetIterable iter env x = pure x := by intro _; rfl) :
    wpAny (model prog w) A (eval (.ListComp elt [⟨.Name x px, iter, ifs, 0⟩] scope pos) env) Q E s :=
  comp_range n pz R hclos hcell hkind hnames hx hh hn h hs
end
section
variable {prog : Program} {w : World} {A : Around} {s : Shared} {h₀ h h' : Heap} {L e it l : Addr} {m : PySem.Str → Option Value} {news : List (Addr × Obj)}
theorem ext2 (F : Fr h₀ L h m) (hk : ∀ b o, b ≠ e → b ≠ it → h.get? b = some o → h'.get? b = some o) (heL : e ≠ L) (hiL : it ≠ L) (he : h₀.get? e = none) (hi : h₀.get? it = none) :
    Fr h₀ L h' m ∧ ∀ nx, News h₀ L h nx → (∀ p ∈ nx, p.1 ≠ e ∧ p.1 ≠ it) → News h₀ L h' nx := by
  obtain ⟨oL, a1, a2, hoL, a3⟩ := F.ns
  refine ⟨⟨⟨oL, a1, a2, hk L oL heL.symm hiL.symm hoL, a3⟩, fun b ob x => hk b ob (fun q => ?_) (fun q => ?_) (F.keep b ob x), F.above⟩, fun nx N hn p hp => ⟨hk p.1 p.2 (hn p hp).1 (hn p hp).2 (N p hp).1, (N p hp).2⟩⟩
  · rw [q, he] at x; cases x
  · rw [q, hi] at x; cases x
theorem fresh_of (F : Fr h₀ L h m) {b : Addr} (hb : h.objs.size ≤ b) : b ≠ L ∧ h₀.get? b = none := by
  have hb0 : ∀ o, h.get? b = some o → False := fun o e => absurd (Heap.lt_size e) (Nat.not_lt.mpr hb)
  refine ⟨?_, ?_⟩
  · rintro rfl
    obtain ⟨o, _, _, e, _⟩ := F.ns
    exact hb0 o e
  · cases q : h₀.get? b with
    | none => rfl
    | some o => exact (hb0 o (F.keep b o q)).elim
/-- behind a turn -/
inductive EnNext (h₀ : Heap) (L : Addr) (s : Shared) (J : Nat → (PySem.Str → Option Value) → List (Addr × Obj) → Prop) (e it : Addr) (oe oi : Obj) (i : Nat) (s₃ : Shared) : Prop
  | mk (h' : Heap) (tk : Nat) (m₂ : PySem.Str → Option Value) (nx₂ : List (Addr × Obj)) (es : s₃ = { s with heap := h', toks := tk }) (F : Fr h₀ L h' m₂) (N : News h₀ L h' ((e, oe) :: (it, oi) :: nx₂)) (hne : ∀ p ∈ nx₂, p.1 ≠ e ∧ p.1 ≠ it) (hJ : J i m₂ nx₂) : EnNext h₀ L s J e it oe oi i s₃
/-- between two turns -/
inductive EnAt (h₀ : Heap) (L : Addr) (s : Shared) (J : Nat → (PySem.Str → Option Value) → List (Addr × Obj) → Prop) (n : Nat) (e it l : Addr) (k : Nat) (s' : Shared) : Prop
  | mk (H : Heap) (tk : Nat) (m' : PySem.Str → Option Value) (nx : List (Addr × Obj)) (i : Nat) (old : Value) (oi : Obj) (es : s' = { s with heap := H, toks := tk }) (N : News h₀ L H ((e, en it ((i : Nat) : Int) old) :: (it, oi) :: nx))
      (hc : oi.cls = .type "list_iterator") (hd : oi.data = .fields #[.ref l, .int (i : Nat) 0]) (F : Fr h₀ L H m') (hne : ∀ p ∈ nx, p.1 ≠ e ∧ p.1 ≠ it) (hJ : J i m' nx) (hi : i ≤ n) (hk : k = n + 1 - i) : EnAt h₀ L s J n e it l k s'
theorem en_turn {n i : Nat} (hi : i < n) : n + 1 - (i + 1) < n + 1 - i := by omega
/-- where a turn of a for over enumerate ends -/
noncomputable def EnStep (h₀ : Heap) (L : Addr) (s : Shared) (J : Nat → (PySem.Str → Option Value) → List (Addr × Obj) → Prop) (Q : Flow → Shared → Prop) (e it : Addr) (oe oi : Obj) (i : Nat) (f : Flow) (s₃ : Shared) : Prop :=
  match f with
  | .next | .cont => EnNext h₀ L s J e it oe oi i s₃
  | .brk => Q .next s₃
  | .ret v => Q (.ret v) s₃
theorem For_enum {env : Env} {xk xv : PySem.Str} {pk pv pt : Pos} {x1 : Nat} {body : List Stmt} {Q : Flow → Shared → Prop} (vs : List Value) (J : Nat → (PySem.Str → Option Value) → List (Addr × Obj) → Prop)
    (hxk : env.kindOf xk = some .local) (hxv : env.kindOf xv = some .local) (hp : (env.scope.kind == .class || (env.scope.kind == .module && env.locals != env.globals)) = false) (hL : env.locals = L) (hh : A.handled = none)
    (he : IsEnum s.heap e it 0 .none) (hit : s.heap.IsListIter it l 0) (hl : ∀ i m₁ nx h, Fr h₀ L h m₁ → News h₀ L h nx → J i m₁ nx → h.IsList l vs.toArray)
    (hei : e ≠ it) (heL : e ≠ L) (hiL : it ≠ L) (he0 : h₀.get? e = none) (hi0 : h₀.get? it = none) (hne : ∀ p ∈ news, p.1 ≠ e ∧ p.1 ≠ it)
    (F : Fr h₀ L s.heap m) (N : News h₀ L s.heap news) (hj : J 0 m news)
    (turn : ∀ (i : Nat) m₁ nx h tk t v oi, vs[i]? = some v → Fr h₀ L h (fun y => if y = xv then some v else if y = xk then some (.int i t) else m₁ y) → News h₀ L h ((e, en it ((i : Int) + 1) v) :: (it, oi) :: nx) → (∀ p ∈ nx, p.1 ≠ e ∧ p.1 ≠ it) → J i m₁ nx →
      wpAny (model prog w) A (execs body env) (EnStep h₀ L s J Q e it (en it ((i : Int) + 1) v) oi (i + 1)) (fun _ _ => False) { s with heap := h, toks := tk })
    (done : ∀ m₁ nx h tk, Fr h₀ L h m₁ → News h₀ L h nx → J vs.length m₁ nx → Q .next { s with heap := h, toks := tk }) :
    ForRest prog w A env (.Tuple [.Name xk pk, .Name xv pv] x1 pt) body Q (.ref e) s := by
  refine codeAny_forLoop_any
    (EnAt h₀ L s J vs.length e it l) ?_ (vs.length + 1)
    ?_
  rotate_left
  · obtain ⟨oi, ho, hc, hd⟩ := hit
    refine ⟨s.heap, s.toks, m, news, 0, .none, oi, rfl, ?_, hc, hd, F, hne, hj, Nat.zero_le _, rfl⟩
    intro p hp
    rcases List.mem_cons.mp hp with rfl | hp
    · exact ⟨he, heL, he0⟩
    · rcases List.mem_cons.mp hp with rfl | hp
      · exact ⟨ho, hiL, hi0⟩
      · exact N p hp
  rintro k s' ⟨H, tk, m', nx, i, old, oi, rfl, N', hc, hd, F', hnx, hJ, hi, rfl⟩
  have he' : IsEnum H e it ((i : Nat) : Int) old := (N' _ (List.mem_cons_self ..)).1
  have hoi := (N' (it, oi) (.tail _ (.head _))).1
  have hit' : H.IsListIter it l i := ⟨oi, hoi, hc, hd⟩
  have Nn : News h₀ L H nx := fun p hp => N' p (.tail _ (.tail _ hp))
  have hl' := hl i m' nx H F' Nn hJ
  by_cases hlt : i < vs.length
  · have hv : vs.toArray[i]? = some vs[i] := by simp [hlt]
    refine wpAny_pyNext_enum_item (s := { s with heap := H, toks := tk }) he' hit' hl' hv hei fun h₁ heo hit₁ ht₁ hz₁ hk₁ => ?_
    refine wpAny_letOwnedTupleGo_enum (s := { s with heap := h₁, toks := tk + 1 }) heo fun h₂ he₂ hs₂ => ?_
    replace hs₂ : Heap.SameBut e h₁ h₂ := hs₂
    have heH : e < H.objs.size := Heap.lt_size he'
    have hiH : it < H.objs.size := Heap.lt_size hoi
    have ht₂ : h₂.IsTuple H.objs.size #[.int i tk, vs[i]] := ⟨_, (hs₂.2 _ (Nat.ne_of_gt heH)).trans ht₁, rfl, _, rfl⟩
    have hz₂ : h₂.objs.size = H.objs.size + 1 := hs₂.1.trans hz₁
    refine wpAny_assign_Tuple (s := { s with heap := h₂, toks := tk + 1 }) hh ht₂ rfl rfl fun h₃ hx₃ => ?_
    replace hx₃ : Heap.ExtBut h₂.objs.size h₂ h₃ := hx₃
    have old₃ : ∀ b o, b < H.objs.size → h₂.get? b = some o → h₃.get? b = some o := fun b o hb x => hx₃ b o (by rw [hz₂]; exact Nat.ne_of_lt (Nat.lt_succ_of_lt hb)) x
    have k3 : ∀ b o, b ≠ e → b ≠ it → H.get? b = some o → h₃.get? b = some o := fun b o q1 q2 x => old₃ b o (Heap.lt_size x) ((hs₂.2 b q1).trans (hk₁ b o q1 q2 x))
    obtain ⟨F3, NN⟩ := ext2 F' k3 heL hiL he0 hi0
    have N3 := NN nx Nn hnx
    obtain ⟨oi₁, hoi₁, hc₁, hd₁⟩ := hit₁
    have hoi₃ : h₃.get? it = some oi₁ := old₃ it oi₁ hiH ((hs₂.2 it hei.symm).trans hoi₁)
    have he₃ : h₃.get? e = some (en it ((i : Int) + 1) vs[i]) := old₃ e _ heH he₂
    have N3' : News h₀ L h₃ ((e, en it ((i : Int) + 1) vs[i]) :: (it, oi₁) :: nx) := by
      intro p hp
      rcases List.mem_cons.mp hp with rfl | hp
      · exact ⟨he₃, heL, he0⟩
      · rcases List.mem_cons.mp hp with rfl | hp
        · exact ⟨hoi₃, hiL, hi0⟩
        · exact N3 p hp
    show wpAny _ A (do holding [vs[i]] (assign (.Name xk pk) env (.int i tk)); do holding [] (assign (.Name xv pv) env vs[i]); pure ()) _ _ _
    have hns : h₃.Ns env.locals m' := hL ▸ F3.ns
    refine wpAny_bind (wpAny_holding (wpAny_assign_Name (wpAny_storeName_local hxk hns (fun h₄ hn₄ hs₄ => ?_) hp)))
    replace hs₄ : Heap.SameBut env.locals h₃ h₄ := hs₄
    refine wpAny_bind (wpAny_holding (wpAny_assign_Name (wpAny_storeName_local hxv hn₄ (fun h₅ hn₅ hs₅ => wpAny_pure ?_) hp)))
    replace hs₅ : Heap.SameBut env.locals h₄ h₅ := hs₅
    rw [hL] at hn₄ hs₄ hn₅ hs₅
    have F5 := (F3.set hn₄ hs₄).set hn₅ hs₅
    have N5 : News h₀ L h₅ ((e, en it ((i : Int) + 1) vs[i]) :: (it, oi₁) :: nx) := fun q hq => ⟨(hs₅.2 q.1 (N3' q hq).2.1).trans ((hs₄.2 q.1 (N3' q hq).2.1).trans (N3' q hq).1), (N3' q hq).2⟩
    refine wpAny_mono (turn i m' nx h₅ _ tk vs[i] oi₁ (by simp [hlt]) F5 N5 hnx hJ) (fun f s₃ h₆ => ?_) fun _ _ x => x.elim
    have go : EnStep h₀ L s J Q e it (en it ((i : Int) + 1) vs[i]) oi₁ (i + 1) .next s₃ → ∃ n', n' < vs.length + 1 - i ∧ EnAt h₀ L s J vs.length e it l n' s₃ := by
      rintro ⟨h8, tk₆, m₂, nx₂, rfl, F6, N6, hn6, J6⟩
      exact ⟨vs.length + 1 - (i + 1), en_turn hlt, h8, tk₆, m₂, nx₂, i + 1, vs[i], oi₁, rfl, N6, hc₁, hd₁, F6, hn6, J6, hlt, rfl⟩
    cases f with
    | next => exact go h₆
    | cont => exact go h₆
    | brk => exact h₆
    | ret v => exact h₆
  · have hin : i = vs.length := by omega
    subst hin
    refine wpAny_pyNext_enum_end (s := { s with heap := H, toks := tk }) hh he' hit' hl' (by simp) fun h₁ he₁ => wpAny_execs_nil ?_
    replace he₁ : Heap.ExtBut it H h₁ := he₁
    obtain ⟨F3, NN⟩ := ext2 (e := e) F' (fun b o _ q2 x => he₁ b o q2 x) heL hiL he0 hi0
    exact done m' nx h₁ tk F3 (NN nx Nn hnx) hJ
end
end
section
/-- the lexer's next words, after which it stands at place e, line eln, nothing pushed back -/
noncomputable def Src (txt : List Nat) (e eln : Nat) (words : List (List Nat)) (p ln : Nat) (ws : List Value) : Prop :=
  (p = e ∧ ln = eln ∧ StrsAre ws (words.map S)) ∨ (ws = [] ∧ ∃ (ms rest : List Nat), ms.length = words.length ∧ (∀ m ∈ ms, m < 12) ∧ p + (List.zipWith wtn words ms).flatten.length = e ∧ ln + (List.zipWith wtn words ms).flatten.count 10 = eln ∧ txt.drop p = (List.zipWith wtn words ms).flatten ++ rest)
theorem get_src (w : World) (txt : List Nat) (a : LexA) (hok : a.ok) (hR : ReadSpec (OpenLaw.row PySem.Challenge.rw_ty0003_01).toRowW.prog w (hd.heap_39 w.params) txt a) (e eln : Nat) (l : List Nat) (words : List (List Nat)) (pz : Nat) (tp : Tok) (ln : Nat) (tln : Tok) (ws : List Value) (n : Nat)
    (hsrc : Src txt e eln (l :: words) pz ln ws) (hl : ∀ c ∈ l, 65 ≤ c ∧ c < 81) (hlen : l.length ≤ 500) (hn : words.length ≤ 1000) (s : Shared) :
    Does (OpenLaw.row PySem.Challenge.rw_ty0003_01).toRowW.prog w (hd.heap_39 w.params) 900 9000 (.ref 42) [.ref a.x] s (lexL w a pz tp ln tln ws.toArray n)
      (fun v rel' _ => ∃ t p' tp' ln' tln' ws' n', v = .str (S l) t ∧ rel' = lexL w a p' tp' ln' tln' ws'.toArray n' ∧ Src txt e eln words p' ln' ws') := by
  rcases hsrc with ⟨h1, h2, h3⟩ | ⟨rfl, ms, rest, h1, h2, h3, h4, h5⟩
  · cases h3 with
    | cons x t h3 =>
      have h4 := h3.len_eq
      rw [List.length_map] at h4
      refine does_mono (get_pushed w a hok pz tp ln tln _ _ n (by omega) s) ?_
      rintro v r h' ⟨rfl, n', rfl⟩
      exact ⟨t, pz, tp, ln, tln, _, n', rfl, rfl, .inl ⟨h1, h2, h3⟩⟩
  · match ms, h1 with
    | m :: ms, h1 =>
      rw [List.zipWith_cons_cons, List.flatten_cons] at h3 h4 h5
      rw [List.length_append] at h3
      rw [List.count_append] at h4
      refine does_mono (get_text w txt a hok hR pz tp ln tln n m l ((List.zipWith wtn words ms).flatten ++ rest) (by rw [h5, List.append_assoc]) (h2 m (List.mem_cons_self ..)) hl hlen s) ?_
      rintro v r h' ⟨t, tp', tln', rfl, rfl⟩
      refine ⟨t, _, tp', _, tln', [], n, rfl, rfl, .inr ⟨rfl, ms, rest, by simpa using h1, fun x hx => h2 x (List.mem_cons_of_mem _ hx), by omega, by omega, ?_⟩⟩
      rw [← List.drop_drop, h5, List.append_assoc, List.drop_left]
end
local macro_rules | `(tactic| walk_at "subscriptTail Name Slice ref ref") => `(tactic| ((first | (k_dflt (refine' lo_butLast ?k1 ?k2 ?k3 ?k5 ?_ ?k6 ?k7; (case k1 => k_asm); (case k2 => k_asm); (case k3 => k_mem); (case k5 => omega); (case k6 => with_unfolding_all rfl); (case k7 => (intro _; with_unfolding_all rfl)))) | (k_dflt (refine' lo_cut ?k1 ?k2 ?k3 ?k4 ?k5 ?_ ?k6 ?k7; (case k1 => k_asm); (case k2 => k_asm); (case k3 => k_mem); (case k4 => omega); (case k5 => omega); (case k6 => with_unfolding_all rfl); (case k7 => (intro _; with_unfolding_all rfl))))); intro D' h' F' N' l1; try dsimp only))
local macro_rules | `(tactic| walk_at "getItem ref int") => `(tactic| (first | (k_dflt (refine' lo_get ?k1 ?k2 ?k3 ?k4 ?k5 ?_; (case k3 => omega); (case k4 => omega); (case k1 => k_asm); (case k2 => k_mem); (case k5 => first | assumption | exact set_get (by assumption) (by omega)))) | (k_dflt (refine' lo_last ?k1 ?k2 ?k3 ?_; (case k1 => k_asm); (case k2 => k_mem); (case k3 => assumption))); try dsimp only))
local macro_rules | `(tactic| walk_at "setItem ref int") => `(tactic| (k_dflt (refine' lo_set ?k1 ?k2 ?k3 ?k4 ?k5 ?k6 ?_; (case k1 => k_asm); (case k2 => k_asm); (case k3 => k_upd); (case k4 => omega); (case k5 => omega); (case k6 => assumption)); intro h' F' N'; try dsimp only))
local macro_rules | `(tactic| walk_at "call builtin:bytes.decode") => `(tactic| ((with_reducible refine' ap_decode ?z ?_); (case z => assumption); intro _ _; try dsimp only))
local macro_rules | `(tactic| walk_at "subscriptTail Name UnaryOp ref int") => `(tactic| ((first | (k_dflt (refine' lo_itemLast ?k1 ?k2 ?k5 ?_ ?k6 ?k7; (case k1 => k_asm); (case k2 => k_mem); (case k5 => assumption); (case k6 => with_unfolding_all rfl); (case k7 => (intro _; with_unfolding_all rfl)))) | (k_dflt (refine' lo_item ?k1 ?k2 ?k3 ?k4 ?k5 ?_ ?k6 ?k7; (case k3 => omega); (case k4 => omega); (case k1 => k_asm); (case k2 => k_mem); (case k5 => first | assumption | exact set_get (by assumption) (by omega)); (case k6 => with_unfolding_all rfl); (case k7 => (intro _; with_unfolding_all rfl))))); try dsimp only))
section
theorem freshC22 : True := by
  w_top off
  exact True.intro
local macro_rules | `(tactic| walk_at "subscriptTail Name Slice ref ref") => `(tactic| ((k_dflt (refine' lo_cutI ?k1 ?k2 ?k3 ?k4 ?k5 ?_ ?k6 ?k7; (case k1 => k_asm); (case k2 => k_asm); (case k3 => assumption); (case k4 => decide); (case k5 => assumption); (case k6 => with_unfolding_all rfl); (case k7 => (intro _; with_unfolding_all rfl)))); intro D' h' F' N' l1; try dsimp only))
local macro_rules | `(tactic| walk_at $k:str) => if keyIn k ["getItem ref int", "setItem ref int", "call type:enumerate"] then `(tactic| refine stop ?_) else Lean.Macro.throwUnsupported
section
/-- between two draws -/
inductive DrawAt (sl ld : Addr) (items : Array Value) (dn : Nat) (i : Nat) (m : PySem.Str → Option Value) (nx : List (Addr × Obj)) : Prop
  | mk (r : List (PySem.Str × Option Value)) (dv' : List Value) (ds' : List Int) (hm : m = mp (("drawn", some (Value.ref ld)) :: r)) (hn : nx = [(sl, W.listOf items 0), (ld, W.listOf dv'.toArray dn)]) (hI : IntsAre dv' ds') (h6 : ds'.length = 6) : DrawAt sl ld items dn i m nx
theorem law_drawn (w : World) (sc ld : Addr) (vs dv : List Value) (ns ds : List Int) (dn : Nat) (hI : IntsAre vs ns) (hD : IntsAre dv ds) (hn : ns.length ≤ 100) (hd6 : ds.length = 6) (s : Shared) (hw : s.heap.IsList sc vs.toArray) :
    Does (OpenLaw.row PySem.Challenge.rw_ty0003_01).toRowW.prog w (hd.heap_39 w.params) 900 9000 (.ref 77) [.ref sc, .ref ld] s [(ld, W.listOf dv.toArray dn)]
      (fun v rel' _ => v = .ref ld ∧ ∃ dv' ds' dn', rel' = [(ld, W.listOf dv'.toArray dn')] ∧ IntsAre dv' ds' ∧ ds'.length = 6) := by
  k_fill
  walk_at "mine enter"
  case kM => exact (rfl : _ = ([("drawn", some (Value.ref ld)), ("script", some (Value.ref sc))] : List (PySem.Str × Option Value)))
  intro p loose mean mg mb gd env outer base g h₁ L' Fin F N B X T G hsz st hfin
  try dsimp only
  try k_fold
  walk_at "mine on"
  refine go (For_start ?_)
  have hw1 : h₁.IsList sc vs.toArray := hw.at fun o e => st sc o e
  have hvl : vs.length ≤ 10000 := by have := hI.length; omega
  walk_at "mine on"
  rename_i sl h2 F2 N2 l1
  refine go (call_enumerate_list (lo_isList (s := { s with heap := h2 }) N2 (.head _)) ?_)
  intro h3 hE hIt hsz3 hk3
  dsimp only at hE hIt hsz3
  walk_at "mine on"
  obtain ⟨i1, i2⟩ := fresh_of F2 (b := h2.objs.size) (Nat.le_refl _)
  obtain ⟨e1, e2⟩ := fresh_of F2 (b := h2.objs.size + 1) (Nat.le_succ _)
  have F3 : Fr g L' h3 (mp [("drawn", some (Value.ref ld)), ("script", some (Value.ref sc))]) := F2.keeps hk3
  have N3 : News g L' h3 [(sl, W.listOf (vs.take (Int.toNat 60)).toArray 0), (ld, W.listOf dv.toArray dn)] := fun q hq => ⟨hk3 _ _ (N2 q hq).1, (N2 q hq).2⟩
  have hsl : @LT.lt Nat _ sl h2.objs.size := Heap.lt_size (N2 _ (.head _)).1
  have hld : @LT.lt Nat _ ld h2.objs.size := Heap.lt_size (N2 _ (.tail _ (.head _))).1
  have hls : @LT.lt Nat _ ld sl := l1 _ (.head _)
  refine go (wpAny_pyIter_enum hE (For_enum (L := L') (vs.take (Int.toNat 60)) (DrawAt sl ld (vs.take (Int.toNat 60)).toArray dn)
    rfl rfl rfl rfl rfl hE hIt ?_ (Nat.ne_of_gt (Nat.lt_succ_self _)) e1 i1 e2 i2 ?_ F3 N3 ⟨_, dv, ds, rfl, rfl, hD, hd6⟩ ?_ ?_))
  · rintro i m₁ nx h F N ⟨r, dv', ds', -, rfl, -, -⟩
    exact lo_isList (s := { s with heap := h }) N (.head _)
  · intro p hp
    rcases List.mem_cons.mp hp with rfl | hp
    · exact ⟨Nat.ne_of_lt (Nat.lt_succ_of_lt hsl), Nat.ne_of_lt hsl⟩
    · rw [List.mem_singleton.mp hp]; exact ⟨Nat.ne_of_lt (Nat.lt_succ_of_lt hld), Nat.ne_of_lt hld⟩
  · rintro i m₁ nx h tk t v oi hv F5 N5 hne5 ⟨r, dv', ds', rfl, rfl, hD', hd6'⟩
    clear F3 N3 F2 N2 F N hE hIt
    obtain ⟨x, tx, rfl⟩ : ∃ x tx, v = .int x tx := by
      have h1 := (IntsAre.take hI 60)
      have h2 : i < (ns.take 60).length := by
        rw [← h1.length]; exact (List.getElem?_eq_some_iff.mp hv).1
      obtain ⟨t9, h3⟩ := h1.get i _ (List.getElem?_eq_getElem h2)
      exact ⟨_, t9, by rw [show Int.toNat 60 = 60 from rfl, h3] at hv; exact (Option.some.inj hv).symm⟩
    try dsimp only
    try k_fold
    walk_at "mine on"
    have e6 : Int.fmod (i : Int) (ds'.length : Int) = ((i % 6 : Nat) : Int) := by
      rw [hd6', Int.fmod_eq_emod_of_nonneg _ (by decide)]; omega
    rw [e6]
    have hm6 : i % 6 < 6 := Nat.mod_lt _ (by decide)
    have hi0 : (0 : Int) ≤ ((i % 6 : Nat) : Int) := by omega
    have hi63 : ((i % 6 : Nat) : Int) < 2 ^ 63 := by omega
    have hts : ((i % 6 : Nat) : Int) < dv'.toArray.size := by rw [List.size_toArray, hD'.length, hd6']; omega
    obtain ⟨t8, ht8⟩ := hD'.get (i % 6) _ (List.getElem?_eq_getElem (by omega))
    refine go (lo_get N5 (show (ld, W.listOf dv'.toArray dn) ∈ _ by simp) hi0 hi63 (x := .int (ds'[i % 6]'(by omega)) t8) (by rw [Int.toNat_natCast, List.getElem?_toArray]; exact ht8) ?_)
    walk_at "mine on"
    refine go (lo_set F5 N5 (upd_last (pre := [(h2.objs.size + 1, _), (h2.objs.size, oi), (sl, W.listOf (vs.take (Int.toNat 60)).toArray 0)]) ?_) hi0 hi63 hts ?_)
    · intro p hp
      simp only [List.mem_cons, List.not_mem_nil, or_false] at hp
      rcases hp with rfl | rfl | rfl
      · exact Nat.ne_of_gt (Nat.lt_succ_of_lt hld)
      · exact Nat.ne_of_gt hld
      · exact Nat.ne_of_gt hls
    intro h7 F7 N7
    rw [List.setIfInBounds_toArray] at N7
    clear N5 F5
    try dsimp only
    walk_at "mine on"
    refine ⟨h7, _, _, _, rfl, F7, N7, ?_, ⟨_, _, ds'.set (i % 6) _, ((mp_dup rfl).symm : mp (("x", some (.int x tx)) :: ("k", some (.int i t)) :: ("drawn", some (Value.ref ld)) :: r) = mp (("drawn", some (Value.ref ld)) :: ("x", some (.int x tx)) :: ("k", some (.int i t)) :: ("drawn", some (Value.ref ld)) :: r)), rfl, ints_set hD' _, by rw [List.length_set]; exact hd6'⟩⟩
    intro p hp
    have hm := List.mem_map_of_mem (f := (·.1)) hp
    obtain ⟨q, hq, eq⟩ := List.mem_map.mp (show p.1 ∈ (([(sl, W.listOf (vs.take (Int.toNat 60)).toArray 0), (ld, W.listOf dv'.toArray dn)]).map (·.1)) from hm)
    exact eq ▸ hne5 q hq
  · rintro m₁ nx h tk F5 N5 ⟨r, dv', ds', rfl, rfl, hD', hd6'⟩
    clear F3 N3 F2 N2 F N hE hIt
    try dsimp only
    try k_fold
    walk_at "mine on"
    exact hfin _ _ _ _ _ F5 (fun q hq => N5 q (.tail _ hq)) ⟨rfl, dv', ds', dn, rfl, hD', hd6'⟩
end
end
section
open PySem PySem.W PySem.Calls PyProof.Rows PySem.Spec
set_option Elab.async false
set_option maxRecDepth 100000
/-- a part of a def's body, read off the written heap -/
noncomputable def BodyOf (K : Frag) (f : Addr) (P : PySem.Str → List Stmt → Scope → Prop) : Prop :=
  ∀ (name qual : PySem.Str) (params : Arguments) (body : List Stmt) (scope : Scope) (dV kV doc pm cdv ct oc : Value) (an od : Option Addr) (osl : Array (Option Value)),
    K.lookup f = some ⟨oc, od, .func (fnOf name qual params body scope dV kV doc pm an cdv ct), osl⟩ → P qual body scope
theorem BodyOf.mk {K : Frag} {f : Addr} {P : PySem.Str → List Stmt → Scope → Prop} {name qual : PySem.Str} {params : Arguments} {body : List Stmt} {scope : Scope} {dV kV doc pm cdv ct oc : Value} {an od : Option Addr} {osl : Array (Option Value)}
    (ho : K.lookup f = some ⟨oc, od, .func (fnOf name qual params body scope dV kV doc pm an cdv ct), osl⟩) (h : P qual body scope) : BodyOf K f P := by
  intro name' qual' params' body' scope' dV' kV' doc' pm' cdv' ct' oc' an' od' osl' ho'
  rw [ho] at ho'
  cases ho'
  exact h
theorem BodyOf.mk2 {K : Frag} {f : Addr} {P P2 : PySem.Str → List Stmt → Scope → Prop} {name qual : PySem.Str} {params : Arguments} {body : List Stmt} {scope : Scope} {dV kV doc pm cdv ct oc : Value} {an od : Option Addr} {osl : Array (Option Value)}
    (D : BodyOf K f P2) (ho : K.lookup f = some ⟨oc, od, .func (fnOf name qual params body scope dV kV doc pm an cdv ct), osl⟩) (h : P2 qual body scope → P qual body scope) : BodyOf K f P :=
  BodyOf.mk ho (h (D _ _ _ _ _ _ _ _ _ _ _ _ _ _ _ ho))
theorem BodyOf.mk3 {K : Frag} {f : Addr} {P P2 P3 P4 : PySem.Str → List Stmt → Scope → Prop} {name qual : PySem.Str} {params : Arguments} {body : List Stmt} {scope : Scope} {dV kV doc pm cdv ct oc : Value} {an od : Option Addr} {osl : Array (Option Value)}
    (D : BodyOf K f P2) (D3 : BodyOf K f P3) (D4 : BodyOf K f P4) (ho : K.lookup f = some ⟨oc, od, .func (fnOf name qual params body scope dV kV doc pm an cdv ct), osl⟩) (h : P2 qual body scope → P3 qual body scope → P4 qual body scope → P qual body scope) : BodyOf K f P :=
  BodyOf.mk ho (h (D _ _ _ _ _ _ _ _ _ _ _ _ _ _ _ ho) (D3 _ _ _ _ _ _ _ _ _ _ _ _ _ _ _ ho) (D4 _ _ _ _ _ _ _ _ _ _ _ _ _ _ _ ho))
/-- all that lies in a heap beside a frame and what lay there before -/
noncomputable def allOf (h₀ : Heap) (L : Addr) (h : Heap) : List (Addr × Obj) :=
  (List.range h.objs.size).filterMap fun b => if b = L ∨ (h₀.get? b).isSome then none else (h.get? b).map fun o => (b, o)
section
variable {h₀ h h' : Heap} {L : Addr} {m m' : PySem.Str → Option Value} {nx : List (Addr × Obj)}
theorem mem_allOf {b : Addr} {o : Obj} : (b, o) ∈ allOf h₀ L h ↔ h.get? b = some o ∧ b ≠ L ∧ h₀.get? b = none := by
  unfold allOf
  rw [List.mem_filterMap]
  constructor
  · rintro ⟨c, hc, e⟩
    split at e
    · cases e
    · rename_i hn
      cases q : h.get? c with
      | none => rw [q] at e; cases e
      | some o' =>
        rw [q] at e
        cases e
        refine ⟨q, fun x => hn (.inl x), ?_⟩
        cases z : h₀.get? b with
        | none => rfl
        | some _ => exact (hn (.inr (by rw [z]; rfl))).elim
  · rintro ⟨h1, h2, h3⟩
    refine ⟨b, List.mem_range.mpr (Heap.lt_size h1), ?_⟩
    rw [if_neg (by rw [h3]; simp [h2]), h1]
    rfl
theorem news_allOf (N : News h₀ L h nx) : News h₀ L h (nx ++ allOf h₀ L h) := fun q hq => by
  rcases List.mem_append.mp hq with hq | hq
  · exact N q hq
  · exact mem_allOf.mp hq
theorem gsub_allOf (F : Fr h₀ L h' m') (N : News h₀ L h' nx) (hs : ∀ q ∈ allOf h₀ L h, q ∈ nx) (hk : ∀ b o, h₀.get? b = some o → h.get? b = some o) (dom : List Addr) : GSub h h' (L :: dom) := fun b o e hb => by
  have hL : b ≠ L := fun q => hb (q ▸ List.mem_cons_self ..)
  cases z : h₀.get? b with
  | none => exact (N _ (hs _ (mem_allOf.mpr ⟨e, hL, z⟩))).1
  | some o' =>
    have := hk b o' z
    rw [e] at this
    cases this
    exact F.keep b o z
end
theorem ints_head {a : Int} {ns : List Int} {vs : List Value} (h : IntsAre vs (a :: ns)) : ∃ t r, vs = .int a t :: r ∧ IntsAre r ns := by
  cases h with
  | cons _ t h => exact ⟨t, _, rfl, h⟩
theorem ints6 {a b c d e f : Int} {vs : List Value} (h : IntsAre vs [a, b, c, d, e, f]) : ∃ t0 t1 t2 t3 t4 t5, vs = [.int a t0, .int b t1, .int c t2, .int d t3, .int e t4, .int f t5] := by
  obtain ⟨t0, _, rfl, h0⟩ := ints_head h
  obtain ⟨t1, _, rfl, h1⟩ := ints_head h0
  obtain ⟨t2, _, rfl, h2⟩ := ints_head h1
  obtain ⟨t3, _, rfl, h3⟩ := ints_head h2
  obtain ⟨t4, _, rfl, h4⟩ := ints_head h3
  obtain ⟨t5, _, rfl, h5⟩ := ints_head h4
  cases h5
  exact ⟨t0, t1, t2, t3, t4, t5, rfl⟩
theorem emod_nat (x : Int) {m : Int} (hm : m ≠ 0) : ((x % m).toNat : Int) = x % m := Int.toNat_of_nonneg (Int.emod_nonneg _ hm)
theorem emod_lt (x : Int) {m : Nat} (hm : 0 < m) : (x % (m : Int)).toNat < m :=
  (Int.toNat_lt (Int.emod_nonneg _ (Int.ofNat_ne_zero.mpr (Nat.ne_of_gt hm)))).mpr (Int.emod_lt_of_pos _ (Int.ofNat_lt.mpr hm))
theorem bit_val (z : Int) (t : Tok) : ∃ (b : Nat) (t' : Tok), Value.int (Int.fmod z 2) t = .int b t' ∧ b < 2 := by
  have h : Int.fmod z 2 = ((z % 2).toNat : Nat) := by rw [Int.fmod_eq_emod_of_nonneg _ (by decide)]; exact (emod_nat z (by decide)).symm
  exact ⟨(z % 2).toNat, t, by rw [h], emod_lt z (m := 2) (by decide)⟩
theorem paired3 {α : Type} {R : α → Value → Prop} {a b c : α} {l : List Value} (h : Paired R [a, b, c] l) : ∃ x y z, l = [x, y, z] ∧ R a x ∧ R b y ∧ R c z := by
  cases h with
  | cons h1 h =>
    cases h with
    | cons h2 h =>
      cases h with
      | cons h3 h =>
        cases h
        exact ⟨_, _, _, rfl, h1, h2, h3⟩
theorem drop23 {h₀ h : Heap} {L : Addr} {a b c : Addr × Obj} {r : List (Addr × Obj)} (N : News h₀ L h (a :: b :: c :: r)) : News h₀ L h (a :: r) := fun q hq => by
  rcases List.mem_cons.mp hq with rfl | hq
  · exact N _ (.head _)
  · exact N _ (.tail _ (.tail _ (.tail _ hq)))
theorem drop4 {h₀ h : Heap} {L : Addr} {a b c d : Addr × Obj} {r : List (Addr × Obj)} (N : News h₀ L h (a :: b :: c :: d :: r)) : News h₀ L h (a :: b :: c :: r) := fun q hq => by
  rcases List.mem_cons.mp hq with rfl | hq
  · exact N _ (.head _)
  · rcases List.mem_cons.mp hq with rfl | hq
    · exact N _ (.tail _ (.head _))
    · rcases List.mem_cons.mp hq with rfl | hq
      · exact N _ (.tail _ (.tail _ (.head _)))
      · exact N _ (.tail _ (.tail _ (.tail _ (.tail _ hq))))
/-- the powers -/
noncomputable def Pw (l : List Nat) : Prop := ∃ p b0 b1 b2, p < 3 ∧ b0 < 2 ∧ b1 < 2 ∧ b2 < 2 ∧ l = [1 + p, b0, b1, b2].take (if p = 2 then 3 else 4)
theorem Pw_len {l : List Nat} (h : Pw l) : 3 ≤ l.length ∧ l.length ≤ 4 := by
  obtain ⟨p, b0, b1, b2, h0, h1, h2, h3, rfl⟩ := h
  rw [List.length_take]
  simp only [List.length_cons, List.length_nil]
  split <;> omega
/-- the blocks' lengths -/
noncomputable def sizesL (l : List Nat) : List Nat := (List.range l.length).map fun n => (l.take (n + 1)).sum
/-- the words' numbers -/
noncomputable def valsL (st sp k : Nat) : List Nat := (List.range k).map fun n => st + n * sp
theorem valsL_ap (st sp k : Nat) : (valsL st sp k).map apL = (List.range k).map fun n => apL (st + n * sp) := by unfold valsL; rw [List.map_map]; rfl
/-- the width of a word -/
noncomputable def WOk (st sp wd : Nat) : Prop := (wd = 3 ∨ wd = 6 ∨ wd = 9) ∧ 128 * (st + 4 * sp) < 16 ^ wd
theorem sizesL_len (l : List Nat) : (sizesL l).length = l.length := by simp [sizesL]
theorem sizesL_take (l : List Nat) (i : Nat) (h : i < l.length) : (sizesL l).take (i + 1) = (sizesL l).take i ++ [(l.take (i + 1)).sum] := by
  rw [List.take_add_one, List.getElem?_eq_getElem (by rw [sizesL_len]; exact h)]
  simp [sizesL]
theorem sizesL_sum {l : List Nat} (h : Pw l) : (sizesL l).sum ≤ 20 := by
  obtain ⟨p, b0, b1, b2, h0, h1, h2, h3, rfl⟩ := h
  have key : ∀ p < 3, ∀ b0 < 2, ∀ b1 < 2, ∀ b2 < 2, (sizesL ([1 + p, b0, b1, b2].take (if p = 2 then 3 else 4))).sum ≤ 20 := by decide
  exact key p h0 b0 h1 b1 h2 b2 h3
theorem sum_ofNat (l : List Nat) : (l.map Int.ofNat).sum = ((l.sum : Nat) : Int) := by
  induction l with
  | nil => rfl
  | cons a r ih => rw [List.map_cons, List.sum_cons, List.sum_cons, ih]; rfl
theorem pow_natN {prog : Program} {w : World} {A : Around} {E : Value → Shared → Prop} {s : Shared} {a k : Nat} {x y : Int} {t u : Tok} {Q : Value → Shared → Prop} (hx : x = a) (hy : y = k) (ha : a < 2 ^ 64) (hk : k ≤ 1000) (h : ∀ t', Q (.int ((a ^ k : Nat) : Int) t') { s with toks := s.toks + 1 }) :
    wpAny (model prog w) A (binaryOp .Pow (.int x t) (.int y u)) Q E s := by
  subst hx hy
  refine pow_int_small (Int.natCast_nonneg _) (by omega) (by rw [Int.natAbs_natCast]; exact ha) ?_
  rw [Int.toNat_natCast, ← Int.natCast_pow]
  exact h _
theorem mul_natN {prog : Program} {w : World} {A : Around} {E : Value → Shared → Prop} {s : Shared} {a b : Nat} {x y : Int} {t u : Tok} {Q : Value → Shared → Prop} (hx : x = a) (hy : y = b) (hb : a < 2 ^ 64 ∨ b < 2 ^ 64) (h : ∀ t', Q (.int ((a * b : Nat) : Int) t') { s with toks := s.toks + 1 }) :
    wpAny (model prog w) A (binaryOp .Mult (.int x t) (.int y u)) Q E s := by
  subst hx hy
  refine mul_int ?_ (hb.elim (fun h => PySem.IntMulOk.of_left (bits_nat h)) (fun h => PySem.IntMulOk.of_right (bits_nat h)))
  rw [← Int.natCast_mul]
  exact h _
theorem imul_natN {prog : Program} {w : World} {A : Around} {E : Value → Shared → Prop} {s : Shared} {a b : Nat} {x y : Int} {t u : Tok} {Q : Value → Shared → Prop} (hx : x = a) (hy : y = b) (hb : a < 2 ^ 64 ∨ b < 2 ^ 64) (h : ∀ t', Q (.int ((a * b : Nat) : Int) t') { s with toks := s.toks + 1 }) :
    wpAny (model prog w) A (inplaceOp .Mult (.int x t) (.int y u)) Q E s := by
  subst hx hy
  refine imul_int ?_ (hb.elim (fun h => PySem.IntMulOk.of_left (bits_nat h)) (fun h => PySem.IntMulOk.of_right (bits_nat h)))
  rw [← Int.natCast_mul]
  exact h _
theorem wtn_len (l : List Nat) (m : Nat) : (wtn l m).length ≤ 2 * l.length + 2 := by
  unfold wtn
  split
  · simp; omega
  · split
    · rw [List.length_append, flat_len]; simp
    · simp; omega
theorem flat_le {B : Nat} : ∀ {ls : List (List Nat)}, (∀ l ∈ ls, l.length ≤ B) → ls.flatten.length ≤ ls.length * B
  | [], _ => by simp
  | a :: r, h => by
    have h1 := flat_le (B := B) (ls := r) fun l hl => h l (List.mem_cons_of_mem _ hl)
    have h2 := h a (List.mem_cons_self ..)
    rw [List.flatten_cons, List.length_append, List.length_cons, Nat.succ_mul]
    omega
theorem valsL_lt {st sp k v : Nat} (h1 : st < 65536) (h2 : sp < 65536) (hk : k ≤ 20) (h : v ∈ valsL st sp k) : v < 16 ^ 6 := by
  unfold valsL at h
  obtain ⟨n, hn, rfl⟩ := List.mem_map.mp h
  have h3 := List.mem_range.mp hn
  have : n * sp ≤ 20 * 65536 := Nat.mul_le_mul (by omega) (by omega)
  have : (16 : Nat) ^ 6 = 16777216 := by decide
  omega
theorem tx_len {st sp k : Nat} {ms : List Nat} (h1 : st < 65536) (h2 : sp < 65536) (hk : k ≤ 20) : (List.zipWith wtn ((valsL st sp k).map apL) ms).flatten.length ≤ 20 * 14 := by
  refine Nat.le_trans (flat_le (B := 14) fun l hl => ?_) (Nat.mul_le_mul_right _ ?_)
  · rw [← List.map_uncurry_zip_eq_zipWith] at hl
    obtain ⟨⟨x, m⟩, hm, rfl⟩ := List.mem_map.mp hl
    have hx := (List.of_mem_zip hm).1
    obtain ⟨v, hv, rfl⟩ := List.mem_map.mp hx
    have := apL_len 6 v (valsL_lt h1 h2 hk hv)
    have h3 := wtn_len (apL v) m
    show (wtn (apL v) m).length ≤ 14
    omega
  · rw [List.length_zipWith, List.length_map]
    unfold valsL
    rw [List.length_map, List.length_range]
    omega
theorem zip_snoc {l : List (List Nat)} {ms : List Nat} (h : l.length = ms.length) (x : List Nat) (m : Nat) : List.zipWith wtn (l ++ [x]) (ms ++ [m]) = List.zipWith wtn l ms ++ [wtn x m] := by
  rw [List.zipWith_append h]; rfl
theorem law_writtenZ (w : World) (l : List Nat) (z : Int) (tk tk2 : Tok) (hl : ∀ c ∈ l, 65 ≤ c ∧ c < 81) (hlen : l.length ≤ 500) (s : Shared)  :
    Does (OpenLaw.row PySem.Challenge.rw_ty0003_01).toRowW.prog w (hd.heap_39 w.params) 900 9000 (.ref 82) [.str (S l) tk, .int (Int.fmod z 12) tk2] s [] (fun v rel' _ => rel' = [] ∧ ∃ mn t, mn < 12 ∧ v = .str (S (wtn l mn)) t) := by
  have e : Int.fmod z 12 = ((z % 12).toNat : Nat) := by rw [Int.fmod_eq_emod_of_nonneg _ (by decide)]; exact (emod_nat z (by decide)).symm
  rw [e]
  refine does_mono (law_written w l (z % 12).toNat tk tk2 hl hlen (emod_lt z (m := 12) (by decide)) s) ?_
  rintro v r h' ⟨h1, t, h2⟩
  exact ⟨h1, _, t, emod_lt z (m := 12) (by decide), h2⟩
end
section
open PySem PySem.W PySem.Calls PyProof.Rows PySem.Spec
set_option Elab.async false
/-- how many words stand before the i-th block -/
noncomputable def offs (PW : List Nat) (i : Nat) : Nat := ((sizesL PW).take i).sum
/-- the numbers of the i-th block -/
noncomputable def blkV (PW : List Nat) (st sp i : Nat) : List Nat := (List.range ((sizesL PW).getD i 0)).map fun c => st + (offs PW i + c) * sp
/-- the rounds' sums before the i-th block -/
noncomputable def tots (PW : List Nat) (st sp : Nat) : Nat → List Nat
  | 0 => [0, 0, 0, 0, 0]
  | i + 1 => (rows (blkV PW st sp i).length (blkV PW st sp i, tots PW st sp i, [])).2.1
/-- what is struck out of the i-th block -/
noncomputable def strk (PW : List Nat) (st sp i : Nat) : List Nat := (rows (blkV PW st sp i).length (blkV PW st sp i, tots PW st sp i, [])).2.2
/-- digits, the lowest first -/
noncomputable def polyv (U : Nat) : List Nat → Nat
  | [] => 0
  | v :: r => v + U * polyv U r
/-- the law's product for the n-th block -/
noncomputable def dueN (PW : List Nat) (st sp U n : Nat) : Nat → Nat
  | 0 => ((st + (n - 1) * sp) * U + sp) * (1 + n * U) ^ (PW.getD 0 0 - 1)
  | j + 1 => dueN PW st sp U n j * (1 + (n - (j + 1)) * U) ^ (PW.getD (j + 1) 0)
/-- what the law says of the i-th block (counted from nought) -/
noncomputable def LawAt (PW : List Nat) (st sp U i : Nat) : Prop :=
  dueN PW st sp U (i + 1) i = sp + U * polyv U (strk PW st sp i) ∧ ∀ v ∈ strk PW st sp i, v < U
theorem blkV_len (PW : List Nat) (st sp i : Nat) : (blkV PW st sp i).length = (sizesL PW).getD i 0 := by unfold blkV; rw [List.length_map, List.length_range]
theorem sizesL_le {l : List Nat} (h : Pw l) (i : Nat) : (sizesL l).getD i 0 ≤ 5 := by
  have hl := Pw_len h
  by_cases hi : i < 4
  · obtain ⟨p, b0, b1, b2, h0, h1, h2, h3, rfl⟩ := h
    have key : ∀ p < 3, ∀ b0 < 2, ∀ b1 < 2, ∀ b2 < 2, ∀ i < 4, (sizesL ([1 + p, b0, b1, b2].take (if p = 2 then 3 else 4))).getD i 0 ≤ 5 := by decide
    exact key p h0 b0 h1 b1 h2 b2 h3 i hi
  · rw [List.getD_eq_getElem?_getD, List.getElem?_eq_none (by rw [sizesL_len]; omega)]
    exact Nat.zero_le _
theorem Pw_get {l : List Nat} (h : Pw l) (i : Nat) : l.getD i 0 ≤ 3 := by
  have hl := Pw_len h
  by_cases hi : i < 4
  · obtain ⟨p, b0, b1, b2, h0, h1, h2, h3, rfl⟩ := h
    have key : ∀ p < 3, ∀ b0 < 2, ∀ b1 < 2, ∀ b2 < 2, ∀ i < 4, ([1 + p, b0, b1, b2].take (if p = 2 then 3 else 4)).getD i 0 ≤ 3 := by decide
    exact key p h0 b0 h1 b1 h2 b2 h3 i hi
  · rw [List.getD_eq_getElem?_getD, List.getElem?_eq_none (by omega)]
    exact Nat.zero_le _
theorem Pw_head {l : List Nat} (h : Pw l) : 1 ≤ l.getD 0 0 := by
  obtain ⟨p, b0, b1, b2, h0, h1, h2, h3, rfl⟩ := h
  have key : ∀ p < 3, ∀ b0 < 2, ∀ b1 < 2, ∀ b2 < 2, 1 ≤ ([1 + p, b0, b1, b2].take (if p = 2 then 3 else 4)).getD 0 0 := by decide
  exact key p h0 b0 h1 b1 h2 b2 h3
theorem Pw_tail {l : List Nat} (h : Pw l) (i : Nat) : l.getD (i + 1) 0 ≤ 1 := by
  have hl := Pw_len h
  by_cases hi : i < 4
  · obtain ⟨p, b0, b1, b2, h0, h1, h2, h3, rfl⟩ := h
    have key : ∀ p < 3, ∀ b0 < 2, ∀ b1 < 2, ∀ b2 < 2, ∀ i < 4, ([1 + p, b0, b1, b2].take (if p = 2 then 3 else 4)).getD (i + 1) 0 ≤ 1 := by decide
    exact key p h0 b0 h1 b1 h2 b2 h3 i hi
  · rw [List.getD_eq_getElem?_getD, List.getElem?_eq_none (by omega)]
    exact Nat.zero_le _
theorem pv_get {pv : List Value} {PW : List Nat} (hP : IntsAre pv (PW.map Int.ofNat)) {i : Nat} (hi : i < PW.length) : ∃ t, pv.toArray[i]? = some (.int ((PW.getD i 0 : Nat) : Int) t) := by
  obtain ⟨t, h⟩ := hP.get i (((PW.getD i 0 : Nat) : Int)) (by rw [List.getElem?_map, List.getElem?_eq_getElem hi, List.getD_eq_getElem?_getD, List.getElem?_eq_getElem hi]; rfl)
  exact ⟨t, by rw [List.getElem?_toArray]; exact h⟩
theorem pow_le1 {b p : Nat} (hp : p ≤ 1) (hb : b < 2 ^ 64) : b ^ p < 2 ^ 64 := by
  match p, hp with
  | 0, _ => simp
  | 1, _ => simpa using hb
/-- the body of the loop that a text begins with -/
noncomputable def forBody : List Stmt → List Stmt
  | .For _ _ b _ _ :: _ => b
  | _ => []
theorem mp_front {W : List (PySem.Str × Option Value)} : ∀ {names : List (PySem.Str × Option Value)}, (∀ q ∈ names, mp W q.1 = q.2) → mp W = mp (names ++ W)
  | [], _ => rfl
  | p :: r, h => by
    have ih := mp_front (W := W) (names := r) fun q hq => h q (List.mem_cons_of_mem _ hq)
    have hp := h p (List.mem_cons_self ..)
    rw [List.cons_append]
    exact ih.trans (mp_dup (by rw [← ih]; exact hp)).symm
/-- some of a ledger ahead, all of it behind, hidden -/
theorem news_pick {h₀ h : Heap} {L : Addr} {l R xs : List (Addr × Obj)} (N : News h₀ L h l) (hR : R = l) (hx : ∀ q ∈ xs, q ∈ l) : News h₀ L h (xs ++ R) := fun q hq => by
  rcases List.mem_append.mp hq with hq | hq
  · exact N q (hx q hq)
  · exact N q (hR ▸ hq)
/-- the frame's names in the law's loop -/
noncomputable abbrev base7U (tl wl zl : Addr) (a : LexA) (wd U : Nat) (tU tW : Tok) : List (PySem.Str × Option Value) :=
  [("totals", some (.ref tl)), ("place", some (.ref a.pl)), ("lexer", some (.ref a.x)), ("unit", some (.int (U : Nat) tU)), ("width", some (.int wd tW)), ("words", some (.ref wl)), ("sizes", some (.ref zl))]
noncomputable abbrev base7 (tl wl zl : Addr) (a : LexA) (wd : Nat) (tU tW : Tok) : List (PySem.Str × Option Value) := base7U tl wl zl a wd (16 ^ wd) tU tW
/-- what lies ahead of the lexer in the loop's ledger -/
noncomputable abbrev xs7 (it wl zl pw L' : Addr) (oi oP oT oS : Obj) (wv zv pv : List Value) (kw kz : Nat) : List (Addr × Obj) :=
  [(it, oi), (wl, W.listOf wv.toArray kw), (zl, W.listOf zv.toArray kz), (pw, W.listOf pv.toArray 0), (L' + 1 + 1 + 1 + 1, oP), (L' + 1 + 1 + 1, oT), (L' + 1 + 1, oS)]
theorem strs_rev : ∀ {vs : List Value} {ss : List PySem.Str}, StrsAre vs ss → StrsAre vs.reverse ss.reverse
  | _, _, .nil => .nil
  | _, _, .cons y t h => by
    rw [List.reverse_cons, List.reverse_cons]
    exact (strs_rev h).append' (.cons y t .nil)
theorem apL_noA (n : Nat) : ((apL n).take 1 == [65]) = false := by
  induction n using Nat.strongRecOn with
  | ind n ih =>
    by_cases h : n = 0
    · rw [h, apL_zero]; rfl
    · rw [apL_step h]
      by_cases h2 : n / 16 = 0
      · rw [h2, apL_zero, List.nil_append]
        have : n % 16 ≠ 0 := by omega
        have h3 : (65 + n % 16) ≠ 65 := by omega
        simp
        omega
      · have h3 := ih (n / 16) (Nat.div_lt_self (Nat.pos_of_ne_zero h) (by decide))
        cases hl : apL (n / 16) with
        | nil => exact absurd (apL_nil hl) h2
        | cons a r =>
          rw [hl] at h3
          simpa using h3
theorem polyv_lt {U : Nat} : ∀ {V : List Nat}, (∀ v ∈ V, v < U) → polyv U V < U ^ V.length
  | [], _ => by simp [polyv]
  | v :: r, h => by
    have h1 := polyv_lt (U := U) (V := r) fun x hx => h x (List.mem_cons_of_mem _ hx)
    have h2 := h v (List.mem_cons_self ..)
    rw [polyv, List.length_cons, Nat.pow_succ]
    have h3 : polyv U r + 1 ≤ U ^ r.length := h1
    have h4 : U * (polyv U r + 1) ≤ U * U ^ r.length := Nat.mul_le_mul_left _ h3
    rw [Nat.mul_add, Nat.mul_one] at h4
    rw [Nat.mul_comm (U ^ r.length) U]
    omega
/-- padded letters of a sum -/
theorem pad_step (k n : Nat) (hn : n < 16 ^ (k + 1)) : pad (k + 1) (apL n) = pad k (apL (n / 16)) ++ [65 + n % 16] := by
  by_cases h : n = 0
  · rw [h, apL_zero]
    simp [pad, List.replicate_succ', apL_zero]
  · rw [apL_step h]
    unfold pad
    rw [List.length_append, List.length_singleton, ← List.append_assoc]
    have : k + 1 - ((apL (n / 16)).length + 1) = k - (apL (n / 16)).length := Nat.add_sub_add_right ..
    rw [this]
theorem pad_join (a : Nat) : ∀ (b x y : Nat), y < 16 ^ b → x < 16 ^ a → pad (a + b) (apL (x * 16 ^ b + y)) = pad a (apL x) ++ pad b (apL y)
  | 0, x, y, hy, hx => by
    have : y = 0 := by simpa using hy
    subst this
    rw [Nat.pow_zero, Nat.mul_one, Nat.add_zero, Nat.add_zero, apL_zero]
    simp [pad]
  | b + 1, x, y, hy, hx => by
    have hy2 : y / 16 < 16 ^ b := by rw [Nat.pow_succ] at hy; omega
    have hxy : x * 16 ^ (b + 1) + y < 16 ^ (a + b + 1) := by
      have h1 : (x + 1) * 16 ^ (b + 1) ≤ 16 ^ a * 16 ^ (b + 1) := Nat.mul_le_mul_right _ hx
      rw [← Nat.pow_add, Nat.add_mul, Nat.one_mul] at h1
      have h2 : a + (b + 1) = a + b + 1 := by omega
      rw [h2] at h1
      omega
    have e1 : (x * 16 ^ (b + 1) + y) / 16 = x * 16 ^ b + y / 16 := by
      rw [Nat.pow_succ, ← Nat.mul_assoc, Nat.mul_comm _ 16, Nat.mul_add_div (by decide)]
    have e2 : (x * 16 ^ (b + 1) + y) % 16 = y % 16 := by
      rw [Nat.pow_succ, ← Nat.mul_assoc, Nat.mul_comm _ 16, Nat.mul_add_mod]
    rw [show a + (b + 1) = (a + b) + 1 from rfl, pad_step _ _ hxy, pad_step _ _ hy, e1, e2, pad_join a b x (y / 16) hy2 hx, List.append_assoc]
theorem laid_pre {wd : Nat} : ∀ (V : List Nat), (∀ v ∈ V, v < 16 ^ wd) → ((V.reverse.map apL).map (pad wd)).flatten = pad (wd * V.length) (apL (polyv (16 ^ wd) V))
  | [], _ => by simp [polyv, apL_zero, pad]
  | v :: r, h => by
    have h1 := laid_pre r fun x hx => h x (List.mem_cons_of_mem _ hx)
    have h2 := h v (List.mem_cons_self ..)
    have h3 := polyv_lt (U := 16 ^ wd) (V := r) fun x hx => h x (List.mem_cons_of_mem _ hx)
    rw [List.reverse_cons, List.map_append, List.map_append, List.flatten_append, h1, List.length_cons, Nat.mul_succ, polyv, Nat.add_comm v, Nat.mul_comm (16 ^ wd)]
    rw [← Nat.pow_mul] at h3
    rw [pad_join (wd * r.length) wd _ v h2 h3]
    simp
theorem laid_eq {V : List Nat} {sp d wd : Nat} (hd : d = sp + 16 ^ wd * polyv (16 ^ wd) V) (hV : ∀ v ∈ V, v < 16 ^ wd) (hsp : sp < 16 ^ wd) : (((V.reverse.map apL) ++ [apL sp]).map (pad wd)).flatten = pad (wd * (V.length + 1)) (apL d) := by
  have h3 := polyv_lt (U := 16 ^ wd) (V := V) hV
  rw [← Nat.pow_mul] at h3
  rw [List.map_append, List.flatten_append, laid_pre V hV, hd, Nat.mul_succ, Nat.add_comm sp, Nat.mul_comm (16 ^ wd), pad_join (wd * V.length) wd _ sp hsp h3]
  simp
end
section
open PySem PySem.W PySem.Calls PyProof.Rows PySem.Spec
set_option Elab.async false
set_option maxRecDepth 100000
theorem slice_none0 (x : PySem.Str) : Txt.slice x none (some 1) = Txt.slice x (some 0) (some 1) := by
  have e : max 0 (min (0 : Int) (x.length : Int)) = 0 := by omega
  unfold Txt.slice Builtin.Str.strSliceIndices
  simp [e]
theorem S_take1 (l : List Nat) : Txt.slice (S l) none (some 1) = S (l.take 1) := by
  rw [slice_none0]
  exact S_slice1 l 0 (Nat.zero_le _)
theorem S_head1 {prog : Program} {w : World} {A : Around} {E : Value → Shared → Prop} {s : Shared} {l : List Nat} {t uj : Tok} {value slice : PySem.Expr} {Q : Value → Shared → Prop} (hl : l.length ≤ 10000)
    (h : ∀ h' t' k, (∀ b o, s.heap.get? b = some o → h'.get? b = some o) → Q (.str (S (l.take 1)) t') { s with heap := h', toks := k })
    (hs : subscripted slice false (.str (S l) t) (.ref s.heap.objs.size) = operate [.ref s.heap.objs.size, .str (S l) t] (getItem (.str (S l) t) (.ref s.heap.objs.size)))
    (ht : ∀ r, letTemporaryGo value (.str (S l) t) r = pure ()) :
    wpAny (model prog w) A (subscriptTail value slice (.str (S l) t) (.ref s.heap.objs.size)) Q E { s with heap := s.heap.push { cls := .type "slice", data := .fields #[.none, .int 1 uj, .none] } } :=
  tail_of_ItemOn (SBH.sliceItem_ns (P := fun h' => ∀ b o, s.heap.get? b = some o → h'.get? b = some o) (fun h ob hp b o e => Heap.get?_push_of_some _ (hp b o e)) (fun _ _ e => e) (fun h' t' k hk => by rw [S_take1]; exact h h' t' k hk) (by rw [sizeLine_eq, S_len]; omega)) hs ht
theorem S_beq (a b : List Nat) : (S a == S b) = (a == b) := by
  rw [Bool.eq_iff_iff, beq_iff_eq, beq_iff_eq]
  constructor
  · intro h
    injection h with h
    injection h
  · intro h; rw [h]
theorem noA_filter (V : List Nat) (d : Nat) : (V.map apL ++ [apL d]).filter (fun l => l.take 1 == [65]) = [] := by
  rw [List.filter_eq_nil_iff]
  intro l hl
  have h : ∃ n, l = apL n := by
    rcases List.mem_append.mp hl with hl | hl
    · obtain ⟨v, -, rfl⟩ := List.mem_map.mp hl; exact ⟨v, rfl⟩
    · exact ⟨d, List.mem_singleton.mp hl⟩
  obtain ⟨n, rfl⟩ := h
  rw [apL_noA]
  exact Bool.false_ne_true
theorem pad_in {k : Nat} {l : List Nat} (h : ∀ c ∈ l, 65 ≤ c ∧ c < 81) : ∀ c ∈ pad k l, 65 ≤ c ∧ c < 81 := by
  intro c hc
  unfold pad at hc
  rcases List.mem_append.mp hc with hc | hc
  · rw [(List.mem_replicate.mp hc).2]; exact ⟨by decide, by decide⟩
  · exact h c hc
theorem pad_len {k : Nat} {l : List Nat} : (pad k l).length ≤ k + l.length := by
  unfold pad
  rw [List.length_append, List.length_replicate]; omega
theorem hexv_padL (k n : Nat) : hexv (pad k (apL n)) = n := by
  unfold pad
  rw [hexv_pad, hexv_apL]
theorem S_ne_self {l : List Nat} (h : (S l != S l) = true) : False := by simp at h
noncomputable abbrev h8 (l : List Nat) (v : Tok) (r : List (PySem.Str × Option Value)) : List (PySem.Str × Option Value) := ("head", some (.str (S l) v)) :: r
noncomputable abbrev w7 (l : List Nat) (v3 : Tok) (d : Nat) (t1 t2 : Tok) (D : Addr) (r : List (PySem.Str × Option Value)) : List (PySem.Str × Option Value) := ("laid", some (.str (S l) v3)) :: ("written", some (.str (S (apL d)) t1)) :: ("due", some (.int d t2)) :: ("struck", some (.ref D)) :: r
noncomputable abbrev nb7 (i : Nat) (tN : Tok) (tl wl zl : Addr) (a : LexA) (wd : Nat) (tU tW : Tok) : List (PySem.Str × Option Value) := ("n", some (.int (i + 1 : Nat) tN)) :: base7 tl wl zl a wd tU tW
theorem count_nl0 : ∀ l : List Nat, PySem.Spec.countIn (.str ⟨#[10]⟩) (l.map fun n => PyData.str ⟨#[n]⟩) = ((l.count 10 : Nat) : Int)
  | [] => rfl
  | n :: r => by
    rw [List.map_cons, PySem.Spec.countIn, count_nl0 r, List.count_cons]
    by_cases h : n = 10
    · subst h
      simp [PySem.Spec.same]
      omega
    · simp [PySem.Spec.same, h]
theorem count_nl (l : List Nat) : Txt.count (S l) (PySem.Str.ofString "\n") = ((l.count 10 : Nat) : Int) := by
  rw [nl_of]
  exact (PyProof.Rows.count_is (S l) 10).trans (count_nl0 l)
theorem due_lt' {V : List Nat} {sp d wd : Nat} (hd : d = sp + 16 ^ wd * polyv (16 ^ wd) V) (hV : ∀ v ∈ V, v < 16 ^ wd) (hsp : sp < 16 ^ wd) (h5 : V.length ≤ 5) (hw : wd ≤ 9) : d < 16 ^ 100 := by
  have h1 := polyv_lt (U := 16 ^ wd) (V := V) hV
  have h2 : 16 ^ wd * (polyv (16 ^ wd) V + 1) ≤ 16 ^ wd * (16 ^ wd) ^ V.length := Nat.mul_le_mul_left _ h1
  rw [Nat.mul_add, Nat.mul_one, Nat.mul_comm (16 ^ wd) ((16 ^ wd) ^ V.length), ← Nat.pow_succ, ← Nat.pow_mul] at h2
  have h3 : wd * (V.length + 1) ≤ 9 * 6 := Nat.mul_le_mul hw (by omega)
  have h4 : 16 ^ (wd * (V.length + 1)) ≤ 16 ^ 100 := Nat.pow_le_pow_right (by decide) (by omega)
  have h5 : d < 16 ^ (wd * (V.length + 1)) := by
    rw [Nat.succ_eq_add_one] at h2
    omega
  exact Nat.lt_of_lt_of_le h5 h4
theorem offs_succ {PW : List Nat} {i : Nat} (hi : i < PW.length) : offs PW (i + 1) = offs PW i + (sizesL PW).getD i 0 := by
  unfold offs
  have hs : i < (sizesL PW).length := by rw [sizesL_len]; exact hi
  rw [List.take_add_one, List.getElem?_eq_getElem hs, List.sum_append, List.getD_eq_getElem?_getD, List.getElem?_eq_getElem hs]
  simp
theorem offs_le (PW : List Nat) (i : Nat) : offs PW i ≤ (sizesL PW).sum := by
  unfold offs
  have h : ((sizesL PW).take i).sum + ((sizesL PW).drop i).sum = (sizesL PW).sum := by
    rw [← List.sum_append, List.take_append_drop]
  omega
theorem blk_le' {PW : List Nat} {st sp i : Nat} (hP : Pw PW) (h1 : st < 65536) (h2 : sp < 65536) : ∀ v ∈ blkV PW st sp i, v ≤ 16 ^ 6 := by
  intro v hv
  unfold blkV at hv
  obtain ⟨c, hc, rfl⟩ := List.mem_map.mp hv
  have h3 := List.mem_range.mp hc
  have h4 := sizesL_le hP i
  have h5 := offs_le PW i
  have h6 := sizesL_sum hP
  have h7 : (offs PW i + c) * sp ≤ 25 * 65536 := Nat.mul_le_mul (by omega) (by omega)
  have : (16 : Nat) ^ 6 = 16777216 := by decide
  omega
theorem tots_ok' {PW : List Nat} {st sp : Nat} (hP : Pw PW) (h1 : st < 65536) (h2 : sp < 65536) : ∀ i, (tots PW st sp i).length = 5 ∧ ∀ v ∈ tots PW st sp i, v ≤ 16 ^ 6 * 6 ^ (5 * i)
  | 0 => ⟨rfl, by
    intro v hv
    have : v = 0 := by simpa [tots] using hv
    omega⟩
  | i + 1 => by
    obtain ⟨a1, a2⟩ := tots_ok' hP h1 h2 i
    have hl := sizesL_le hP i
    have hbl := blkV_len PW st sp i
    have hM : ∀ v ∈ blkV PW st sp i, v ≤ 16 ^ 6 * 6 ^ (5 * i) := fun v hv => Nat.le_trans (blk_le' hP h1 h2 v hv) (Nat.le_mul_of_pos_right _ (Nat.pow_pos (by decide)))
    obtain ⟨-, b2, -, b4⟩ := rows_inv a1 (by omega) hM a2 (blkV PW st sp i).length (Nat.le_refl _)
    refine ⟨b2, fun v hv => Nat.le_trans (b4 v hv) ?_⟩
    have e : 16 ^ 6 * 6 ^ (5 * (i + 1)) = 6 ^ 5 * (16 ^ 6 * 6 ^ (5 * i)) := by
      rw [show 5 * (i + 1) = 5 + 5 * i from by omega, Nat.pow_add, Nat.mul_left_comm]
    rw [e]
    exact Nat.mul_le_mul_right _ (Nat.pow_le_pow_right (by decide) (by omega))
theorem src_block' {PW : List Nat} {st sp i : Nat} {ms : List Nat} {WL : List (List Nat)} {tx : List Nat} (hi : i < PW.length) (hms : ms.length = (sizesL PW).sum) (hm : ∀ m ∈ ms, m < 12) (hW : WL = List.zipWith wtn ((valsL st sp (sizesL PW).sum).map apL) ms) (htx : tx = WL.flatten) :
    Src tx (WL.take (offs PW (i + 1))).flatten.length (1 + (WL.take (offs PW (i + 1))).flatten.count 10) ((blkV PW st sp i).map apL) (WL.take (offs PW i)).flatten.length (1 + (WL.take (offs PW i)).flatten.count 10) [] := by
  have ho := offs_succ hi
  have hle := offs_le PW (i + 1)
  have hbl := blkV_len PW st sp i
  generalize (sizesL PW).getD i 0 = z at *
  have hb : ((valsL st sp (sizesL PW).sum).drop (offs PW i)).take z = blkV PW st sp i := by
    apply List.ext_getElem
    · rw [List.length_take, List.length_drop, hbl]
      unfold valsL
      rw [List.length_map, List.length_range]; exact Nat.min_eq_left (by omega)
    · intro j h1 h2
      simp [valsL, blkV]
  have hz : (WL.drop (offs PW i)).take z = List.zipWith wtn ((blkV PW st sp i).map apL) ((ms.drop (offs PW i)).take z) := by
    rw [hW, List.drop_zipWith, List.take_zipWith, ← List.map_drop, ← List.map_take, hb]
  have ht : WL.take (offs PW (i + 1)) = WL.take (offs PW i) ++ (WL.drop (offs PW i)).take z := by
    rw [ho, List.take_add]
  refine .inr ⟨rfl, (ms.drop (offs PW i)).take z, (WL.drop (offs PW (i + 1))).flatten, ?_, ?_, ?_, ?_, ?_⟩
  · rw [List.length_take, List.length_drop, List.length_map, hbl]; exact Nat.min_eq_left (by omega)
  · exact fun m h => hm m (List.mem_of_mem_drop (List.mem_of_mem_take h))
  · rw [ht, List.flatten_append, List.length_append, hz]
  · rw [ht, List.flatten_append, List.count_append, hz]; omega
  · have e : WL.flatten = (WL.take (offs PW i)).flatten ++ (((WL.drop (offs PW i)).take z).flatten ++ (WL.drop (offs PW (i + 1))).flatten) := by
      rw [← List.append_assoc, ← List.flatten_append, ← ht, ← List.flatten_append, List.take_append_drop]
    rw [htx, e, List.drop_left, hz]
theorem src_block {PW : List Nat} {st sp i : Nat} {ms : List Nat} {WL : List (List Nat)} {tx : List Nat} (hi : i < PW.length) (hms : ms.length = (sizesL PW).sum) (hm : ∀ m ∈ ms, m < 12) (hW : WL = List.zipWith wtn ((valsL st sp (sizesL PW).sum).map apL) ms) (htx : tx = WL.flatten) :
    Src tx (WL.take (offs PW (i + 1))).flatten.length (1 + (WL.take (offs PW (i + 1))).flatten.count 10) ((blkV PW st sp i).map apL) (WL.take (offs PW i)).flatten.length (1 + (WL.take (offs PW i)).flatten.count 10) [] := src_block' hi hms hm hW htx
theorem due_lt {V : List Nat} {sp d wd : Nat} (hd : d = sp + 16 ^ wd * polyv (16 ^ wd) V) (hV : ∀ v ∈ V, v < 16 ^ wd) (hsp : sp < 16 ^ wd) (h5 : V.length ≤ 5) (hw : wd ≤ 9) : d < 16 ^ 100 := due_lt' hd hV hsp h5 hw
theorem blk_le {PW : List Nat} {st sp i : Nat} (hP : Pw PW) (_ : i < PW.length) (h1 : st < 65536) (h2 : sp < 65536) : ∀ v ∈ blkV PW st sp i, v ≤ 16 ^ 6 * 6 ^ 20 :=
  fun v hv => Nat.le_trans (blk_le' hP h1 h2 v hv) (Nat.le_mul_of_pos_right _ (Nat.pow_pos (by decide)))
theorem tots_ok {PW : List Nat} {st sp : Nat} (hP : Pw PW) (h1 : st < 65536) (h2 : sp < 65536) : ∀ i, i < PW.length → (tots PW st sp i).length = 5 ∧ ∀ v ∈ tots PW st sp i, v ≤ 16 ^ 6 * 6 ^ 20 := by
  intro i hi
  have hl := Pw_len hP
  obtain ⟨a, b⟩ := tots_ok' (sp := sp) hP h1 h2 i
  exact ⟨a, fun v hv => Nat.le_trans (b v hv) (Nat.mul_le_mul_left _ (Nat.pow_le_pow_right (by decide) (by omega)))⟩
theorem offs_all (PW : List Nat) : offs PW PW.length = (sizesL PW).sum := by
  unfold offs
  rw [List.take_of_length_le (by rw [sizesL_len]; exact Nat.le_refl _)]
theorem lex_ge {w : World} {a : LexA} (hok : a.ok) {p ln n : Nat} {tp tln : Tok} {ws : Array Value} : ∀ b ∈ (lexL w a p tp ln tln ws n).map (·.1), @LE.le Nat _ a.ct b := by
  unfold LexA.ok at hok
  intro b hb
  rw [lex_fst] at hb
  simp only [List.mem_cons, List.not_mem_nil, or_false] at hb
  obtain ⟨-, k1, k2, k3, k4, k5, k6, k7, k8, k9, k10⟩ := hok
  have g1 := Nat.le_of_lt k1
  have g2 := Nat.le_trans g1 (Nat.le_of_lt k2)
  have g3 := Nat.le_trans g2 (Nat.le_of_lt k3)
  have g4 := Nat.le_trans g3 (Nat.le_of_lt k4)
  have g5 := Nat.le_trans g4 (Nat.le_of_lt k5)
  have g6 := Nat.le_trans g5 (Nat.le_of_lt k6)
  have g7 := Nat.le_trans g6 (Nat.le_of_lt k7)
  have g8 := Nat.le_trans g7 (Nat.le_of_lt k8)
  have g9 := Nat.le_trans g8 (Nat.le_of_lt k9)
  have g10 := Nat.le_trans g9 (Nat.le_of_lt k10)
  rcases hb with rfl | rfl | rfl | rfl | rfl | rfl | rfl | rfl | rfl | rfl | rfl
  · exact g10
  · exact g9
  · exact g8
  · exact g7
  · exact g6
  · exact g5
  · exact g4
  · exact g3
  · exact g2
  · exact g1
  · exact Nat.le_refl _
end
section
open PySem PySem.W PySem.Calls PyProof.Rows PySem.Spec
set_option Elab.async false
set_option maxRecDepth 20000
set_option maxHeartbeats 4000000
/-! All that the rounds and the product make is linear in start and step: it is reckoned once in pairs, and the pairs are compared by evaluation. -/
/-- the pair's worth -/
noncomputable def ev (st sp : Nat) (x : Nat × Nat) : Nat := x.1 * st + x.2 * sp
noncomputable def addP (x y : Nat × Nat) : Nat × Nat := (x.1 + y.1, x.2 + y.2)
noncomputable def sumP : List (Nat × Nat) → Nat × Nat
  | [] => (0, 0)
  | x :: r => addP x (sumP r)
noncomputable def psumP (t : Nat × Nat) : List (Nat × Nat) → List (Nat × Nat)
  | [] => []
  | v :: r => addP t v :: psumP (addP t v) r
noncomputable def row1P (r : Nat) (x : List (Nat × Nat) × List (Nat × Nat) × List (Nat × Nat)) : List (Nat × Nat) × List (Nat × Nat) × List (Nat × Nat) :=
  (psumP (x.2.1.getD r (0, 0)) x.1.dropLast, x.2.1.set r (addP (x.2.1.getD r (0, 0)) (sumP x.1.dropLast)), x.2.2 ++ [x.1.getLastD (0, 0)])
noncomputable def rowsP : Nat → List (Nat × Nat) × List (Nat × Nat) × List (Nat × Nat) → List (Nat × Nat) × List (Nat × Nat) × List (Nat × Nat)
  | 0, x => x
  | i + 1, x => row1P i (rowsP i x)
noncomputable def blkP (PW : List Nat) (i : Nat) : List (Nat × Nat) := (List.range ((sizesL PW).getD i 0)).map fun c => (1, offs PW i + c)
noncomputable def totsP (PW : List Nat) : Nat → List (Nat × Nat)
  | 0 => [(0, 0), (0, 0), (0, 0), (0, 0), (0, 0)]
  | i + 1 => (rowsP (blkP PW i).length (blkP PW i, totsP PW i, [])).2.1
noncomputable def strkP (PW : List Nat) (i : Nat) : List (Nat × Nat) := (rowsP (blkP PW i).length (blkP PW i, totsP PW i, [])).2.2
/-- times 1 + m U -/
noncomputable def mulP (m : Nat) (c : Nat × Nat) : List (Nat × Nat) → List (Nat × Nat)
  | [] => [(m * c.1, m * c.2)]
  | d :: r => addP d (m * c.1, m * c.2) :: mulP m d r
noncomputable def powP (m : Nat) : Nat → List (Nat × Nat) → List (Nat × Nat)
  | 0, l => l
  | k + 1, l => powP m k (mulP m (0, 0) l)
noncomputable def dueP (PW : List Nat) (n : Nat) : Nat → List (Nat × Nat)
  | 0 => powP n (PW.getD 0 0 - 1) [(0, 1), (1, n - 1)]
  | j + 1 => powP (n - (j + 1)) (PW.getD (j + 1) 0) (dueP PW n j)
variable (st sp : Nat)
theorem ev_add (x y : Nat × Nat) : ev st sp (addP x y) = ev st sp x + ev st sp y := by
  simp only [ev, addP, Nat.add_mul]; omega
theorem ev_zero : ev st sp (0, 0) = 0 := by simp [ev]
theorem ev_mul (m : Nat) (c : Nat × Nat) : ev st sp (m * c.1, m * c.2) = m * ev st sp c := by
  simp only [ev, Nat.mul_assoc, Nat.mul_add]
theorem ev_sum : ∀ l, ev st sp (sumP l) = (l.map (ev st sp)).sum
  | [] => ev_zero st sp
  | x :: r => by rw [sumP, ev_add, ev_sum r, List.map_cons, List.sum_cons]
theorem ev_psum : ∀ (l : List (Nat × Nat)) (t : Nat × Nat), (psumP t l).map (ev st sp) = psum (ev st sp t) (l.map (ev st sp))
  | [], _ => rfl
  | v :: r, t => by rw [psumP, List.map_cons, ev_psum r, List.map_cons, psum, ev_add]
theorem ev_getD (l : List (Nat × Nat)) (r : Nat) : (l.map (ev st sp)).getD r 0 = ev st sp (l.getD r (0, 0)) := by
  rw [List.getD_eq_getElem?_getD, List.getD_eq_getElem?_getD, List.getElem?_map]
  cases l[r]? with
  | none => exact (ev_zero st sp).symm
  | some _ => rfl
theorem ev_last (l : List (Nat × Nat)) : (l.map (ev st sp)).getLastD 0 = ev st sp (l.getLastD (0, 0)) := by
  rw [List.getLastD_eq_getLast?, List.getLastD_eq_getLast?, List.getLast?_map]
  cases l.getLast? with
  | none => exact (ev_zero st sp).symm
  | some _ => rfl
/-- the three lists' worth -/
noncomputable def ev3 (x : List (Nat × Nat) × List (Nat × Nat) × List (Nat × Nat)) : List Nat × List Nat × List Nat := (x.1.map (ev st sp), x.2.1.map (ev st sp), x.2.2.map (ev st sp))
theorem ev_row (r : Nat) (x : List (Nat × Nat) × List (Nat × Nat) × List (Nat × Nat)) : ev3 st sp (row1P r x) = row1 r (ev3 st sp x) := by
  unfold row1 row1P ev3
  dsimp only
  rw [ev_psum, List.map_set, List.map_append, ev_add, ev_sum, ev_getD, List.map_dropLast, ev_last, List.map_singleton]
theorem ev_rows : ∀ (i : Nat) (x : List (Nat × Nat) × List (Nat × Nat) × List (Nat × Nat)), ev3 st sp (rowsP i x) = rows i (ev3 st sp x)
  | 0, _ => rfl
  | i + 1, x => by rw [rowsP, ev_row, ev_rows i x, rows]
theorem ev_blk (PW : List Nat) (i : Nat) : (blkP PW i).map (ev st sp) = blkV PW st sp i := by
  unfold blkP blkV
  rw [List.map_map]
  refine List.map_congr_left fun c _ => ?_
  simp [ev]
theorem blkP_len (PW : List Nat) (i : Nat) : (blkP PW i).length = (blkV PW st sp i).length := by rw [← ev_blk st sp, List.length_map]
theorem ev_tots (PW : List Nat) : ∀ i, (totsP PW i).map (ev st sp) = tots PW st sp i
  | 0 => by simp [totsP, tots, ev]
  | i + 1 => by
    have h := ev_rows st sp (blkP PW i).length (blkP PW i, totsP PW i, [])
    rw [totsP, tots, ← ev_blk st sp, List.length_map, ← ev_tots PW i]
    exact congrArg (·.2.1) h
theorem ev_strk (PW : List Nat) (i : Nat) : (strkP PW i).map (ev st sp) = strk PW st sp i := by
  have h := ev_rows st sp (blkP PW i).length (blkP PW i, totsP PW i, [])
  rw [strkP, strk, ← ev_blk st sp, List.length_map, ← ev_tots st sp]
  exact congrArg (·.2.2) h
variable (U : Nat)
theorem ev_mulP (m : Nat) : ∀ (l : List (Nat × Nat)) (c : Nat × Nat), polyv U ((mulP m c l).map (ev st sp)) = polyv U (l.map (ev st sp)) + m * (ev st sp c + U * polyv U (l.map (ev st sp)))
  | [], c => by simp [mulP, polyv, ev_mul]
  | d :: r, c => by
    rw [mulP, List.map_cons, List.map_cons, polyv, polyv, ev_mulP m r d, ev_add, ev_mul]
    simp only [Nat.mul_add, Nat.mul_left_comm U m]
    omega
theorem ev_mul1 (m : Nat) (l : List (Nat × Nat)) : polyv U ((mulP m (0, 0) l).map (ev st sp)) = polyv U (l.map (ev st sp)) * (1 + m * U) := by
  rw [ev_mulP, ev_zero, Nat.zero_add, Nat.mul_add, Nat.mul_one, ← Nat.mul_assoc, Nat.mul_comm (m * U)]
theorem ev_powP (m : Nat) : ∀ (k : Nat) (l : List (Nat × Nat)), polyv U ((powP m k l).map (ev st sp)) = polyv U (l.map (ev st sp)) * (1 + m * U) ^ k
  | 0, l => by rw [powP, Nat.pow_zero, Nat.mul_one]
  | k + 1, l => by rw [powP, ev_powP m k, ev_mul1, Nat.mul_assoc, Nat.pow_succ, Nat.mul_comm ((1 + m * U) ^ k)]
theorem ev_due (PW : List Nat) (n : Nat) : ∀ j, polyv U ((dueP PW n j).map (ev st sp)) = dueN PW st sp U n j
  | 0 => by
    rw [dueP, ev_powP, dueN]
    congr 1
    simp [polyv, ev]
    rw [Nat.mul_comm U, Nat.add_comm]
  | j + 1 => by rw [dueP, ev_powP, ev_due PW n j, dueN]
noncomputable def chk (PW : List Nat) (i : Nat) : Bool := dueP PW (i + 1) i == (0, 1) :: strkP PW i && (strkP PW i).all fun x => x.1 ≤ 128 && x.2 ≤ 512
theorem chk_all : ∀ p < 3, ∀ b0 < 2, ∀ b1 < 2, ∀ b2 < 2, ∀ i < 4, (decide (([1 + p, b0, b1, b2].take (if p = 2 then 3 else 4)).length ≤ i) || chk ([1 + p, b0, b1, b2].take (if p = 2 then 3 else 4)) i) = true := by decide +kernel
theorem law_chk {PW : List Nat} {st sp U i : Nat} (h : 128 * (st + 4 * sp) < U) (hc : chk PW i = true) : LawAt PW st sp U i := by
  unfold chk at hc
  rw [Bool.and_eq_true, beq_iff_eq, List.all_eq_true] at hc
  obtain ⟨h1, h2⟩ := hc
  refine ⟨?_, fun v hv => ?_⟩
  · rw [← ev_due, h1, List.map_cons, polyv, ev_strk]
    simp [ev]
  · rw [← ev_strk] at hv
    obtain ⟨x, hx, rfl⟩ := List.mem_map.mp hv
    have h3 := h2 x hx
    rw [Bool.and_eq_true, decide_eq_true_eq, decide_eq_true_eq] at h3
    have h4 := Nat.mul_le_mul_right st h3.1
    have h5 := Nat.mul_le_mul_right sp h3.2
    unfold ev
    omega
theorem plain_law {PW : List Nat} {st sp wd : Nat} (hP : Pw PW) (_ : st < 65536) (_ : sp < 65536) (hw : WOk st sp wd) : ∀ i, i < PW.length → LawAt PW st sp (16 ^ wd) i := by
  intro i hi
  have h4 := (Pw_len hP).2
  obtain ⟨p, b0, b1, b2, h0, h1, h2, h3, rfl⟩ := hP
  have h := chk_all p h0 b0 h1 b1 h2 b2 h3 i (by omega)
  rw [decide_eq_false (by omega), Bool.false_or] at h
  exact law_chk hw.2 h
end
local macro_rules | `(tactic| walk_at "eval Call Attribute") => `(tactic| refine MethodCall_ ?_)
section
local macro_rules | `(tactic| walk_at "idle 0") => `(tactic| skip)
local macro_rules | `(tactic| walk_at "idle 1") => `(tactic| skip)
theorem freshC20 : True := by
  w_top off
  exact True.intro
theorem src_nil {txt : List Nat} {e eln p ln : Nat} {ws : List Value} (h : Src txt e eln [] p ln ws) : e = p ∧ eln = ln ∧ ws = [] := by
  rcases h with ⟨h1, h2, h3⟩ | ⟨h1, ms, rest, h2, h3, h4, h5, h6⟩
  · exact ⟨h1.symm, h2.symm, by cases h3; rfl⟩
  · rw [List.zipWith_nil_left] at h4 h5
    exact ⟨by simpa using h4.symm, by simpa using h5.symm, h1⟩
local macro_rules | `(tactic| walk_at $k:str) => if keyIn k ["setItem ref int", "subscriptTail Name Name ref int", "call builtin:list.append"] then `(tactic| refine stop ?_) else Lean.Macro.throwUnsupported
theorem KSetAt_ints {vs : List Value} {T : List Nat} {i t : Nat} (h : IntsAre vs ((T.set i t).map Int.ofNat)) (_ : i = i) (u : Tok) (x : Nat) : IntsAre (vs.set i (.int ((t : Nat) + (x : Nat) : Int) u)) ((T.set i (t + x)).map Int.ofNat) := by
  have := ints_set (x := ((t : Nat) + (x : Nat) : Int)) (u := u) h i
  have e : ((T.set i t).map Int.ofNat).set i ((t : Nat) + (x : Nat) : Int) = (T.set i (t + x)).map Int.ofNat := by
    have e2 : ((t : Nat) + (x : Nat) : Int) = Int.ofNat (t + x) := rfl
    rw [e2, ← List.map_set, List.set_set]
  rw [e] at this
  exact this
theorem rows_len3 : ∀ (i : Nat) (x : List Nat × List Nat × List Nat), (rows i x).2.2.length = x.2.2.length + i
  | 0, _ => rfl
  | i + 1, x => by
    show ((rows i x).2.2 ++ [_]).length = _
    rw [List.length_append, rows_len3 i x]; rfl
theorem set_getD_self {l : List Nat} {i : Nat} (h : i < l.length) : l.set i (l.getD i 0) = l := by
  rw [List.getD_eq_getElem?_getD, List.getElem?_eq_getElem h]
  simp
section
/-- between two rounds -/
inductive Rounds (w : World) (txt : List Nat) (a : LexA) (e eln : Nat) (V T0 : List Nat) (tz : Tok) (tl L' : Addr) (o1 : Obj) (i : Nat) (m : PySem.Str → Option Value) (nx : List (Addr × Obj)) : Prop
  | mk (sa : Addr) (r : List (PySem.Str × Option Value)) (p' ln' : Nat) (tp' tln' : Tok) (ws' : List Value) (n' : Nat) (tv' : List Value) (tn' : Nat) (sv : List Value) (sn : Nat)
    (l1 : @LT.lt Nat _ (L' + 1) sa) (hm : m = mp (("size", some (.int V.length tz)) :: ("totals", some (.ref tl)) :: ("struck", some (.ref sa)) :: r))
    (hn : nx = (sa, W.listOf sv.toArray sn) :: (L' + 1, o1) :: (lexL w a p' tp' ln' tln' ws'.toArray n' ++ [(tl, W.listOf tv'.toArray tn')]))
    (hs : Src txt e eln ((rows i (V, T0, [])).1.map apL) p' ln' ws') (hT : IntsAre tv' ((rows i (V, T0, [])).2.1.map Int.ofNat)) (hS : StrsAre sv (((rows i (V, T0, [])).2.2.map apL).map S)) : Rounds w txt a e eln V T0 tz tl L' o1 i m nx
/-- while a row is read -/
inductive Reads (w : World) (txt : List Nat) (a : LexA) (e eln : Nat) (X : List (List Nat)) (pre post : List (Addr × Obj)) (j : Nat) (ys : List Value) (nx : List (Addr × Obj)) : Prop
  | mk (p ln : Nat) (tp tln : Tok) (ws : List Value) (n : Nat) (hn : nx = pre ++ (lexL w a p tp ln tln ws.toArray n ++ post)) (hs : Src txt e eln (X.drop j) p ln ws) (hS : StrsAre ys ((X.take j).map S)) : Reads w txt a e eln X pre post j ys nx
/-- within a row -/
inductive Words (w : World) (a : LexA) (e eln : Nat) (tl : Addr) (fr : List (PySem.Str × Option Value)) (pre : List (Addr × Obj)) (P : Nat → List Nat) (Q : Nat → List Nat) (j : Nat) (m : PySem.Str → Option Value) (nx : List (Addr × Obj)) : Prop
  | mk (r2 : List (PySem.Str × Option Value)) (tp ln0 : Tok) (wj : List Value) (nj : Nat) (tvj : List Value) (tnj : Nat) (hm : m = mp (fr ++ r2))
    (hn : nx = pre ++ (lexL w a e tp eln ln0 wj.toArray nj ++ [(tl, W.listOf tvj.toArray tnj)])) (hw : StrsAre wj (((P j).map apL).map S)) (ht : IntsAre tvj ((Q j).map Int.ofNat)) : Words w a e eln tl fr pre P Q j m nx
theorem struck_out (w : World) (txt : List Nat) (a : LexA) (hok : a.ok) (hR : ReadSpec (OpenLaw.row PySem.Challenge.rw_ty0003_01).toRowW.prog w (hd.heap_39 w.params) txt a) (e eln : Nat) (V T0 : List Nat) (M : Nat) (pz : Nat) (tp : Tok) (ln : Nat) (tln : Tok) (ws : List Value) (n : Nat) (tz : Tok) (tl : Addr) (tv : List Value) (tn : Nat)
    (hsrc : Src txt e eln (V.map apL) pz ln ws) (hT : IntsAre tv (T0.map Int.ofNat)) (hT5 : T0.length = 5) (hV5 : V.length ≤ 5) (hVM : ∀ v ∈ V, v ≤ M) (hTM : ∀ v ∈ T0, v ≤ M) (hM : M ≤ 16 ^ 80) (htl : tl ∉ (lexL w a pz tp ln tln ws.toArray n).map (·.1)) (s : Shared) :
    Does (OpenLaw.row PySem.Challenge.rw_ty0003_01).toRowW.prog w (hd.heap_39 w.params) 800 8000 (.ref 101) [.ref a.x, .int V.length tz, .ref tl] s (lexL w a pz tp ln tln ws.toArray n ++ [(tl, W.listOf tv.toArray tn)])
      (fun v rel' _ => ∃ D sv k tp' tln' n' tv' tn', v = .ref D ∧ rel' = (D, W.listOf sv.toArray k) :: lexL w a e tp' eln tln' #[] n' ++ [(tl, W.listOf tv'.toArray tn')] ∧
        IntsAre tv' ((rows V.length (V, T0, [])).2.1.map Int.ofNat) ∧ StrsAre sv (((rows V.length (V, T0, [])).2.2.map apL).map S)) := by
  have hok0 := hok
  unfold LexA.ok at hok
  k_fill
  walk_at "mine enterC"
  case kM => exact fun L' => (rfl : _ = ([("size", some (Value.int V.length tz)), ("totals", some (Value.ref tl))] : List (PySem.Str × Option Value)))
  intro p loose mean mg mb gd env outer base g h₁ L' tk₁ cells Fin F N Y B X T G hsz hlt st hfin
  obtain ⟨o1, rfl, d1⟩ := CellsAre.one Y
  clear Y
  replace d1 : o1.data = .cell (some (.ref a.x)) := d1
  try dsimp only
  try k_fold
  try dsimp only [List.cons_append, List.nil_append] at N
  walk_at "mine on"
  refine go (For_start ?_)
  walk_at "mine on"
  rename @LT.lt Nat _ _ _ ∧ _ => l1
  have hn1 : @LT.lt Nat _ a.pb L' ∧ @LT.lt Nat _ tl L' := ⟨hlt (a.pb, _) (.head _), hlt (tl, W.listOf tv.toArray tn) (by simp)⟩
  have htl2 : @Ne Nat a.pb tl ∧ @Ne Nat a.x tl ∧ @Ne Nat a.d tl ∧ @Ne Nat a.pbs tl ∧ @Ne Nat a.xs tl ∧ @Ne Nat a.ds tl ∧ @Ne Nat a.f tl ∧ @Ne Nat a.c tl ∧ @Ne Nat a.pl tl ∧ @Ne Nat a.cp tl ∧ @Ne Nat a.ct tl := by
    rw [lex_fst] at htl
    simp only [List.mem_cons, List.not_mem_nil, or_false, not_or] at htl
    obtain ⟨t1, t2, t3, t4, t5, t6, t7, t8, t9, t10, t11⟩ := htl
    exact ⟨Ne.symm t1, Ne.symm t2, Ne.symm t3, Ne.symm t4, Ne.symm t5, Ne.symm t6, Ne.symm t7, Ne.symm t8, Ne.symm t9, Ne.symm t10, Ne.symm t11⟩
  rename IsRange _ _ _ _ _ _ _ _ => hr
  rename Fr _ _ _ _ => F1
  replace F1 := fr_put F1
  rename News _ _ _ _ => N1
  refine go (For_range (Rounds w txt a e eln V T0 tz tl L' o1) V.length hr ?_ ?_ F1 N1 ?_ ?_ ?_)
  · exact rsm0 (Nat.le_trans hV5 (by decide))
  · exact rsz0 _
  · exact ⟨_, [], pz, ln, tp, tln, ws, n, tv, tn, [], 0, l1.1, rfl, rfl, hsrc, hT, .nil⟩
  · clear F1 N1 l1
    rintro it i m₁ nx h tk t9 hit hi F2 N2 hne ⟨sa, r, p', ln', tp', tln', ws', n', tv', tn', sv, sn, l1, rfl, rfl, hs2, hT2, hS2⟩
    obtain ⟨q1, q2, q3, q4⟩ := rows_inv hT5 hV5 hVM hTM i (Nat.le_of_lt hi)
    have hz0 : 6 ^ i * M ≤ 6 ^ 5 * M := Nat.mul_le_mul_right _ (Nat.pow_le_pow_right (by decide) (Nat.le_trans (Nat.le_of_lt hi) hV5))
    obtain ⟨-, -, q5, -⟩ := rows_inv hT5 hV5 hVM hTM (i + 1) hi
    have hVi5 := Nat.le_trans (Nat.le_of_eq q1) (Nat.le_trans (Nat.sub_le _ _) hV5)
    replace q5 : ∀ v ∈ (row1 i (rows i (V, T0, []))).1, v ≤ 6 ^ (i + 1) * M := q5
    have hz1 : 6 ^ (i + 1) * M ≤ 6 ^ 6 * M := Nat.mul_le_mul_right _ (Nat.pow_le_pow_right (by decide) (Nat.le_succ_of_le (Nat.le_trans hi hV5)))
    have hSl := rows_len3 i (V, T0, [])
    generalize hx : rows i (V, T0, []) = x at *
    obtain ⟨Vi, Ti, Si⟩ := x
    dsimp only at q1 q2 q3 q4 hs2 hT2 hS2 hSl
    replace hSl : Si.length = i := hSl.trans (Nat.zero_add i)
    replace q5 : ∀ v ∈ psum (Ti.getD i 0) Vi.dropLast, v ≤ 6 ^ (i + 1) * M := q5
    have hnI : @Ne Nat sa it ∧ @Ne Nat (L' + 1) it ∧ @Ne Nat a.pb it ∧ @Ne Nat a.x it ∧ @Ne Nat a.d it ∧ @Ne Nat a.pbs it ∧ @Ne Nat a.xs it ∧ @Ne Nat a.ds it ∧ @Ne Nat a.f it ∧ @Ne Nat a.c it ∧ @Ne Nat a.pl it ∧ @Ne Nat a.cp it ∧ @Ne Nat a.ct it ∧ @Ne Nat tl it :=
      ⟨hne _ (.head _), hne _ (.tail _ (.head _)), hne _ (.tail _ (.tail _ (.head _))), hne _ (.tail _ (.tail _ (.tail _ (.head _)))), hne _ (.tail _ (.tail _ (.tail _ (.tail _ (.head _))))),
       hne _ (.tail _ (.tail _ (.tail _ (.tail _ (.tail _ (.head _)))))), hne _ (.tail _ (.tail _ (.tail _ (.tail _ (.tail _ (.tail _ (.head _))))))), hne _ (.tail _ (.tail _ (.tail _ (.tail _ (.tail _ (.tail _ (.tail _ (.head _)))))))),
       hne _ (.tail _ (.tail _ (.tail _ (.tail _ (.tail _ (.tail _ (.tail _ (.tail _ (.head _))))))))), hne _ (.tail _ (.tail _ (.tail _ (.tail _ (.tail _ (.tail _ (.tail _ (.tail _ (.tail _ (.head _)))))))))),
       hne _ (.tail _ (.tail _ (.tail _ (.tail _ (.tail _ (.tail _ (.tail _ (.tail _ (.tail _ (.tail _ (.head _))))))))))), hne _ (.tail _ (.tail _ (.tail _ (.tail _ (.tail _ (.tail _ (.tail _ (.tail _ (.tail _ (.tail _ (.tail _ (.head _)))))))))))),
       hne _ (.tail _ (.tail _ (.tail _ (.tail _ (.tail _ (.tail _ (.tail _ (.tail _ (.tail _ (.tail _ (.tail _ (.tail _ (.head _))))))))))))), hne _ (.tail _ (.tail _ (.tail _ (.tail _ (.tail _ (.tail _ (.tail _ (.tail _ (.tail _ (.tail _ (.tail _ (.tail _ (.tail _ (.head _))))))))))))))⟩
    have hin : ∀ b₀, @LT.lt Nat _ a.pb b₀ → ∀ p tp ln tln ws n, b₀ ∉ (lexL w a p tp ln tln ws n).map (·.1) := fun b₀ hb p tp ln tln ws n hm => Nat.lt_irrefl _ (lex_lt hok0 hb b₀ hm)
    have bI : @LT.lt Nat _ a.pb it := hit (a.pb, _) (.tail _ (.tail _ (.head _)))
    have hxs : ∀ p tp ln tln ws n, ∀ q ∈ [(it, ri ((i : Int) + 1) ((V.length : Int) - i - 1) 1), (sa, W.listOf sv.toArray sn), (L' + 1, o1)], q.1 ∉ (lexL w a p tp ln tln ws n).map (·.1) := by
      intro p tp ln tln ws n q hq
      rcases List.mem_cons.mp hq with rfl | hq
      · exact hin _ bI _ _ _ _ _ _
      · rcases List.mem_cons.mp hq with rfl | hq
        · exact hin _ (Nat.lt_trans hn1.1 (Nat.lt_trans (Nat.lt_succ_self _) l1)) _ _ _ _ _ _
        · rw [List.mem_singleton.mp hq]; exact hin _ (Nat.lt_trans hn1.1 (Nat.lt_succ_self _)) _ _ _ _ _ _
    have hzs : ∀ tv tn p tp ln tln ws n, ∀ q ∈ [(tl, W.listOf tv tn)], q.1 ∉ (lexL w a p tp ln tln ws n).map (·.1) := by
      intro tv tn p tp ln tln ws n q hq
      rw [List.mem_singleton.mp hq]; exact htl
    have hbig : ∀ v, v ≤ 6 ^ i * M → v < 16 ^ 100 := fun v hv => Nat.lt_of_le_of_lt (Nat.le_trans hv (Nat.le_trans hz0 (Nat.mul_le_mul_left _ hM))) (by decide +kernel)
    have ez : (0 + 1 * (i : Int)) = (i : Int) := by rw [Int.one_mul, Int.zero_add]
    rw [ez] at N2 ⊢
    have N3 := N2
    try dsimp only [List.cons_append, List.nil_append] at N3
    clear N2
    try dsimp only
    try k_fold
    walk_at "mine on"
    rename Fr _ _ _ _ => F4
    rename News _ _ _ _ => N4
    refine go (assign_comp_range (V.length - i) (Reads w txt a e eln (Vi.map apL) [(it, ri ((i : Int) + 1) ((V.length : Int) - i - 1) 1), (sa, W.listOf sv.toArray sn), (L' + 1, o1)] [(tl, W.listOf tv'.toArray tn')])
      (it :: sa :: (L' + 1) :: ((lexL w a 0 0 0 0 #[] 0).map (·.1) ++ [tl])) (h₀ := g) (L := L') (cl := [("lexer", L' + 1)]) rfl rfl (by decide) rfl (by decide) rfl rfl rfl rfl rfl (Nat.le_trans (Nat.sub_le _ _) (Nat.le_trans hV5 (by decide))) ?_ ?_)
    · rintro j ys nx ⟨p, ln, tp, tln, ws, n, rfl, -, -⟩
      rfl
    · refine stopQ ?_
      walk_at "mine on"
      rename IsRange _ _ _ _ _ _ _ _ => hr2
      rename Fr _ _ _ _ => F5
      rename News _ _ _ _ => N5
      have er : (V.length : Int) - (i : Int) = ((V.length - i : Nat) : Int) := (Int.ofNat_sub (Nat.le_of_lt hi)).symm
      rw [er] at hr2
      refine go ⟨_, _, _, _, _, _, rfl, hr2, F5, N5, ⟨p', ln', tp', tln', ws', n', rfl, by simpa using hs2, .nil⟩, ?_, ?_⟩
      · rintro j ys nx h tk C mC hj hys ⟨p2, ln2, tp2, tln2, ws2, n2, rfl, hs3, hS3⟩ F6 N6 hC -
        have N7 := lex_pair1 N6 (y := (L' + 1, o1)) (.tail _ (.tail _ (.head _)))
        clear N5 F5
        have cE' := InElt.start h
        try dsimp only
        try k_fold
        walk_at "mine on"
        have hj2 : j < Vi.length := q1 ▸ hj
        have ej : (Vi.map apL).drop j = apL Vi[j] :: (Vi.map apL).drop (j + 1) := by
          rw [List.drop_eq_getElem_cons (by simpa using hj2)]; simp
        rw [ej] at hs3
        have hvj : Vi[j] < 16 ^ 100 := hbig _ (q3 _ (List.getElem_mem hj2))
        refine go (does_use (get_src w txt a hok0 hR e eln (apL Vi[j]) _ p2 tp2 ln2 tln2 ws2 n2 hs3 (apL_in _) (Nat.le_trans (apL_len 100 _ hvj) (by decide)) (by rw [List.length_drop, List.length_map]; exact Nat.le_trans (Nat.sub_le _ _) (Nat.le_trans hVi5 (by decide))) _) B F6 X N6 T rfl rfl rfl rfl (Nat.le_of_ble_eq_true rfl) (Nat.le_of_ble_eq_true rfl) (fun q hq => List.mem_append_right _ (List.mem_append_left _ hq)) ?_)
        rintro v h5 tk5 rel' F5 N5 G5 ⟨t, p3, tp3, ln3, tln3, ws3, n3, rfl, rfl, hs4⟩
        refine ⟨_, _, _, rfl, F5, news_call (xs := [(it, ri ((i : Int) + 1) ((V.length : Int) - i - 1) 1), (sa, W.listOf sv.toArray sn), (L' + 1, o1)]) N6 N5 G5 (hxs _ _ _ _ _ _) (hzs _ _ _ _ _ _ _ _), ⟨p3, ln3, tp3, tln3, ws3, n3, rfl, hs4, ?_⟩, gsub_le G5 fun b hb => .tail _ (.tail _ (.tail _ (.tail _ (List.mem_append_left _ hb))))⟩
        have et : ((Vi.map apL).take (j + 1)).map S = ((Vi.map apL).take j).map S ++ [S (apL Vi[j])] := by
          rw [List.take_add_one, List.getElem?_map, List.getElem?_eq_getElem hj2, List.map_append]; rfl
        rw [et]
        exact hS3.append' (.cons _ _ .nil)
      · rintro D k ys nx h tk F6 N6 hD hys ⟨p2, ln2, tp2, tln2, ws2, n2, rfl, hs3, hS3⟩
        have N7 := N6
        try dsimp only [List.cons_append, List.nil_append] at N7
        clear N5 F5
        replace F6 : Fr g L' h (mp (("row", some (.ref D)) :: ("r", some (.int (i : Int) t9)) :: ("size", some (.int V.length tz)) :: ("totals", some (.ref tl)) :: ("struck", some (.ref sa)) :: r)) := F6
        walk_at "mine on"
        refine go (For_start ?_)
        walk_at "mine on"
        rename_i sl h8 F8 N8 l2
        have hVl : (Vi.map apL).take (V.length - i) = Vi.map apL := List.take_of_length_le (by rw [List.length_map, q1]; exact Nat.le_refl _)
        rw [hVl] at hS3
        have hVd : (Vi.map apL).drop (V.length - i) = [] := List.drop_of_length_le (by rw [List.length_map, q1]; exact Nat.le_refl _)
        rw [hVd] at hs3
        obtain ⟨rfl, rfl, rfl⟩ := src_nil hs3
        have bD : D ∉ (lexL w a 0 0 0 0 #[] 0).map (·.1) := fun hm => hD (.tail _ (.tail _ (.tail _ (List.mem_append_left _ hm))))
        have b1 : @Ne Nat tl D ∧ @Ne Nat sa D := ⟨fun q => hD (q ▸ .tail _ (.tail _ (.tail _ (List.mem_append_right _ (.head _))))), fun q => hD (q ▸ .tail _ (.head _))⟩
        have b2 : @LT.lt Nat _ tl sl := l2 (tl, W.listOf tv'.toArray tn') (by simp)
        have bS : @LT.lt Nat _ a.pb sl := l2 (a.pb, _) (.tail _ (.tail _ (.tail _ (.tail _ (.head _)))))
        refine go (For_list ys.dropLast (Words w a e eln tl [("row", some (.ref D)), ("r", some (.int (i : Int) t9)), ("size", some (.int V.length tz)), ("totals", some (.ref tl)), ("struck", some (.ref sa))]
          [(sl, W.listOf ys.dropLast.toArray 0), (D, W.listOf ys.toArray k), (it, ri ((i : Int) + 1) ((V.length : Int) - i - 1) 1), (sa, W.listOf sv.toArray sn), (L' + 1, o1)]
          (fun j => (psum (Ti.getD i 0) Vi.dropLast).take j) (fun j => Ti.set i (Ti.getD i 0 + (Vi.dropLast.take j).sum))) ?_ F8 N8 ?_ ?_ ?_)
        · rintro j m₁ nx h F N ⟨r2, tp, ln0, wj, nj, tvj, tnj, -, rfl, -, -⟩
          exact (lo_isList (s := { s with heap := h }) N (.head _))
        · refine ⟨r, _, _, _, _, _, _, rfl, rfl, .nil, ?_⟩
          have es : Ti.set i (Ti.getD i 0 + (Vi.dropLast.take 0).sum) = Ti := by
            rw [List.take_zero, List.sum_nil, Nat.add_zero]
            exact set_getD_self (q2 ▸ Nat.lt_of_lt_of_le hi hV5)
          rw [es]; exact hT2
        · rintro it2 j m₁ nx h tk v hit2 hv F9 N9 hne2 ⟨r2, tp, ln0, wj, nj, tvj, tnj, rfl, rfl, hwj, htj⟩
          have hyd : StrsAre ys.dropLast ((Vi.dropLast.map apL).map S) := by
            rw [List.map_dropLast, List.map_dropLast]; exact strs_dropLast hS3
          have hj : j < Vi.dropLast.length := by
            have h9 := hyd.len_eq
            rw [List.length_map, List.length_map] at h9
            rw [← h9]; exact (List.getElem?_eq_some_iff.mp hv).1
          obtain ⟨tv9, hv9⟩ := hyd.at (j := j) (y := S (apL Vi.dropLast[j])) (by rw [List.getElem?_map, List.getElem?_map, List.getElem?_eq_getElem hj]; rfl)
          rw [hv9] at hv
          cases hv
          have hi5 : i < 5 := Nat.lt_of_lt_of_le hi hV5
          have hts : (i : Int) < tvj.toArray.size := by
            rw [List.size_toArray, htj.length, List.length_map, List.length_set, q2]; exact Int.ofNat_lt.mpr hi5
          obtain ⟨t8, ht8⟩ := htj.get i _ (by rw [List.getElem?_map, List.getElem?_set_self (q2 ▸ hi5)]; rfl)
          have e8 : (i : Int).toNat = i := Int.toNat_natCast i
          replace ht8 : tvj.toArray[(i : Int).toNat]? = some (.int ((Ti.getD i 0 + (Vi.dropLast.take j).sum : Nat) : Int) t8) := by
            rw [e8, List.getElem?_toArray]; exact ht8
          have b3 : @LT.lt Nat _ tl it2 := hit2 (tl, W.listOf tv'.toArray tn') (by simp)
          have hvb : Vi.dropLast[j] ≤ 6 ^ i * M := q3 _ (List.dropLast_subset _ (List.getElem_mem hj))
          have N3 := N9
          unfold lexL topL readL at N3
          try dsimp only [List.cons_append, List.nil_append] at N3
          clear N8 F8 N6 N7 F6
          try dsimp only
          try k_fold
          walk_at "mine on"
          rename Fr _ _ _ _ => Fa
          rename News _ _ _ _ => Na
          refine go (does_use (law_number w (apL Vi.dropLast[j]) _ (apL_in _) (Nat.le_trans (apL_len 100 _ (hbig _ hvb)) (by decide)) _) B Fa X News.nil T rfl rfl rfl rfl (Nat.le_of_ble_eq_true rfl) (Nat.le_of_ble_eq_true rfl) (fun q hq => hq) ?_)
          rintro v h5 tk5 rel' Fb Nb G5 ⟨rfl, t5, rfl⟩
          rw [hexv_apL]
          replace Nb := news_all Na G5
          try clear Fa Na
          walk_at "mine on"
          have hi63 : (i : Int) < 2 ^ 63 := Int.lt_of_lt_of_le (Int.ofNat_lt.mpr hi5) (by decide)
          have hi0 : 0 ≤ (i : Int) := Int.natCast_nonneg i
          refine go (lo_set Fb (show News g L' h5 (([(it2, li sl (j + 1)), (sl, W.listOf ys.dropLast.toArray 0), (D, W.listOf ys.toArray k), (it, ri ((i : Int) + 1) ((V.length : Int) - i - 1) 1), (sa, W.listOf sv.toArray sn), (L' + 1, o1)] ++ lexL w a e tp eln ln0 wj.toArray nj) ++ [(tl, W.listOf tvj.toArray tnj)]) from Nb) (upd_last ?_) hi0 hi63 hts ?_)
          · intro p hp
            rcases List.mem_append.mp hp with hp | hp
            · simp only [List.mem_cons, List.not_mem_nil, or_false] at hp
              rcases hp with rfl | rfl | rfl | rfl | rfl | rfl
              · exact Ne.symm (Nat.ne_of_lt b3)
              · exact Ne.symm (Nat.ne_of_lt b2)
              · exact Ne.symm b1.1
              · exact Ne.symm hnI.2.2.2.2.2.2.2.2.2.2.2.2.2
              · exact Ne.symm (Nat.ne_of_lt (Nat.lt_trans hn1.2 (Nat.lt_trans (Nat.lt_succ_self _) l1)))
              · exact Ne.symm (Nat.ne_of_lt (Nat.lt_trans hn1.2 (Nat.lt_succ_self _)))
            · exact fun q => htl (q ▸ List.mem_map_of_mem (f := (·.1)) hp)
          clear Nb
          intro h7 Fb2 Nb2
          clear Fb
          have hset := set_get (v := .int ((Ti.getD i 0 + (Vi.dropLast.take j).sum : Nat) + (Vi.dropLast[j] : Nat) : Int) tk5) hts hi0
          unfold lexL topL readL at Nb2
          try dsimp only [List.cons_append, List.nil_append] at Nb2
          rw [List.setIfInBounds_toArray] at Nb2 hset
          rw [e8] at Nb2 hset
          have hs5 := KSetAt_ints htj rfl tk5 (Vi.dropLast[j])
          generalize tvj.set i _ = tvk at Nb2 hset hs5
          try dsimp only
          walk_at "mine on"
          refine go (lo_item Nb2 (show (tl, W.listOf tvk.toArray tnj) ∈ _ by simp) hi0 hi63 (by rw [e8]; exact hset) ?_ (by with_unfolding_all rfl) (by intro _; with_unfolding_all rfl))
          walk_at "mine on"
          rename Fr _ _ _ _ => Fc
          rename News _ _ _ _ => Nc
          have hps := psum_get Vi.dropLast (Ti.getD i 0) j hj
          have hap : Ti.getD i 0 + (Vi.dropLast.take j).sum + Vi.dropLast[j] < 16 ^ 100 := Nat.lt_of_le_of_lt (Nat.le_trans (q5 _ (List.mem_of_getElem? hps)) (Nat.le_trans hz1 (Nat.mul_le_mul_left _ hM))) (by decide +kernel)
          refine go (does_use (int2apN w (Ti.getD i 0 + (Vi.dropLast.take j).sum + Vi.dropLast[j]) _ (by rw [Int.natCast_add (Ti.getD i 0 + (Vi.dropLast.take j).sum)]) _ _ hap) B Fc X News.nil T rfl rfl rfl rfl (Nat.le_of_ble_eq_true rfl) (Nat.le_of_ble_eq_true rfl) (fun q hq => hq) ?_)
          rintro v h6 tk6 rel' Fd Nd G6 ⟨rfl, t6, rfl⟩
          replace Nd := news_all Nc G6
          try clear Fc Nc
          walk_at "mine on"
          rename Fr _ _ _ _ => Fe
          rename News _ _ _ _ => Ne
          have Ne' : News g L' h6 ([(it2, li sl (j + 1)), (sl, W.listOf ys.dropLast.toArray 0), (D, W.listOf ys.toArray k), (it, ri ((i : Int) + 1) ((V.length : Int) - i - 1) 1), (sa, W.listOf sv.toArray sn), (L' + 1, o1)] ++ (lexL w a e tp eln ln0 wj.toArray nj ++ [(tl, W.listOf tvk.toArray tnj)])) := Ne
          have hwl := hwj.len_eq
          rw [List.length_map, List.length_map, List.length_take, psum_len] at hwl
          have hVl4 : Vi.dropLast.length ≤ 4 := by rw [List.length_dropLast]; exact Nat.sub_le_sub_right hVi5 1
          refine go (does_use (push_token w a hok0 e tp eln ln0 wj.toArray nj _ _ (by rw [List.size_toArray, hwl]; exact Nat.le_trans (Nat.min_le_right _ _) (Nat.le_trans hVl4 (by decide))) _) B Fe X Ne' T rfl rfl rfl rfl (Nat.le_of_ble_eq_true rfl) (Nat.le_of_ble_eq_true rfl) (fun q hq => List.mem_append_right _ (List.mem_append_left _ hq)) ?_)
          rintro v h9 tk9 rel' Ff Nf G7 ⟨rfl, n7, rfl⟩
          have Ng := news_call Ne' Nf G7 ?_ (hzs _ _ _ _ _ _ _ _)
          · rw [List.push_toArray] at Ng
            walk_at "mine on"
            have Ff' : Fr g L' h9 (mp (("word", some (.str (S (apL Vi.dropLast[j])) tv9)) :: ("row", some (.ref D)) :: ("r", some (.int (i : Int) t9)) :: ("size", some (.int V.length tz)) :: ("totals", some (.ref tl)) :: ("struck", some (.ref sa)) :: r2)) := Ff
            have em : mp (("word", some (.str (S (apL Vi.dropLast[j])) tv9)) :: ("row", some (.ref D)) :: ("r", some (.int (i : Int) t9)) :: ("size", some (.int V.length tz)) :: ("totals", some (.ref tl)) :: ("struck", some (.ref sa)) :: r2) =
                mp (("row", some (.ref D)) :: ("r", some (.int (i : Int) t9)) :: ("size", some (.int V.length tz)) :: ("totals", some (.ref tl)) :: ("struck", some (.ref sa)) :: (("word", some (.str (S (apL Vi.dropLast[j])) tv9)) :: ("row", some (.ref D)) :: ("r", some (.int (i : Int) t9)) :: ("size", some (.int V.length tz)) :: ("totals", some (.ref tl)) :: ("struck", some (.ref sa)) :: r2)) :=
              ((mp_dup rfl).trans ((mp_dup rfl).trans ((mp_dup rfl).trans ((mp_dup rfl).trans (mp_dup rfl))))).symm
            refine ⟨h9, tk9, _, _, rfl, Ff', Ng, ?_, ⟨_, tp, ln0, _, n7, tvk, tnj, em, rfl, ?_, ?_⟩⟩
            · intro p hp
              have hm := List.mem_map_of_mem (f := (·.1)) hp
              obtain ⟨q, hq, eq⟩ := List.mem_map.mp (show p.1 ∈ (([(sl, W.listOf ys.dropLast.toArray 0), (D, W.listOf ys.toArray k), (it, ri ((i : Int) + 1) ((V.length : Int) - i - 1) 1), (sa, W.listOf sv.toArray sn), (L' + 1, o1)] ++ (lexL w a e tp eln ln0 wj.toArray nj ++ [(tl, W.listOf tvj.toArray tnj)])).map (·.1)) from hm)
              exact eq ▸ hne2 q hq
            · rw [List.take_add_one, hps, List.map_append, List.map_append]
              exact hwj.append' (.cons _ _ .nil)
            · rw [List.take_add_one, List.getElem?_eq_getElem hj, List.sum_append, ← Nat.add_assoc]
              simpa using hs5
          · intro q hq
            simp only [List.mem_cons, List.not_mem_nil, or_false] at hq
            rcases hq with rfl | rfl | rfl | rfl | rfl | rfl
            · exact hin _ (hit2 (a.pb, _) (.tail _ (.tail _ (.tail _ (.tail _ (.tail _ (.head _))))))) _ _ _ _ _ _
            · exact hin _ bS _ _ _ _ _ _
            · exact bD
            · exact hin _ bI _ _ _ _ _ _
            · exact hin _ (Nat.lt_trans hn1.1 (Nat.lt_trans (Nat.lt_succ_self _) l1)) _ _ _ _ _ _
            · exact hin _ (Nat.lt_trans hn1.1 (Nat.lt_succ_self _)) _ _ _ _ _ _
        · rintro m₁ nx h9 tk9 F10 N10 ⟨r2, tp, ln0, wj, nj, tvj, tnj, rfl, rfl, hwj, htj⟩
          have hyl := hys
          obtain ⟨tL, hlast⟩ : ∃ tL, ys.toArray[ys.toArray.size - 1]? = some (.str (S (apL (Vi.getLastD 0))) tL) := by
            obtain ⟨tL, hL⟩ := hS3.at (j := V.length - i - 1) (y := S (apL (Vi.getLastD 0))) (by
              rw [List.getElem?_map, List.getElem?_map, show Vi[V.length - i - 1]? = some (Vi.getLastD 0) from by
                rw [← q1, List.getLastD_eq_getLast?, ← List.getLast?_eq_getElem?]
                cases hg : Vi.getLast? with
                | none => rw [List.getLast?_eq_none_iff] at hg; rw [hg] at q1; simp at q1; omega
                | some x => rfl]
              rfl)
            exact ⟨tL, by rw [List.size_toArray, List.getElem?_toArray, hys]; exact hL⟩
          have N11 := N10
          try dsimp only [List.cons_append, List.nil_append] at N11
          clear N8 F8 N6 N7 F6
          try dsimp only
          try k_fold
          walk_at "mine on"
          have hds : ys.dropLast.length = V.length - i - 1 := by rw [List.length_dropLast, hys]
          have hdv : Vi.dropLast.length = V.length - i - 1 := by rw [List.length_dropLast, q1]
          refine go (append_K F10 N10 (upd_mid (pre := [(sl, W.listOf ys.dropLast.toArray 0), (D, W.listOf ys.toArray k), (it, ri ((i : Int) + 1) ((V.length : Int) - i - 1) 1)]) ?_ ?_) ?_ ?_)
          · intro p hp
            rcases List.mem_cons.mp hp with rfl | hp
            · exact Nat.ne_of_lt l1
            · replace hp : p ∈ lexL w a e tp eln ln0 wj.toArray nj ++ [(tl, W.listOf tvj.toArray tnj)] := hp
              rcases List.mem_append.mp hp with hp | hp
              · exact Nat.ne_of_lt (Nat.lt_trans (lex_lt hok0 hn1.1 _ (List.mem_map_of_mem (f := (·.1)) hp)) (Nat.lt_trans (Nat.lt_succ_self _) l1))
              · rw [List.mem_singleton.mp hp]; exact Nat.ne_of_lt (Nat.lt_trans hn1.2 (Nat.lt_trans (Nat.lt_succ_self _) l1))
          · intro p hp
            simp only [List.mem_cons, List.not_mem_nil, or_false] at hp
            rcases hp with rfl | rfl | rfl
            · exact Ne.symm (Nat.ne_of_lt (l2 (sa, _) (.tail _ (.tail _ (.head _)))))
            · exact Ne.symm b1.2
            · exact Ne.symm hnI.1
          · intro h10 F12 N12
            try dsimp only
            walk_at "mine on"
            rw [List.push_toArray] at N12
            have em : mp (("row", some (.ref D)) :: ("r", some (.int (i : Int) t9)) :: ("size", some (.int V.length tz)) :: ("totals", some (.ref tl)) :: ("struck", some (.ref sa)) :: r2) =
                mp (("size", some (.int V.length tz)) :: ("totals", some (.ref tl)) :: ("struck", some (.ref sa)) :: (("row", some (.ref D)) :: ("r", some (.int (i : Int) t9)) :: ("size", some (.int V.length tz)) :: ("totals", some (.ref tl)) :: ("struck", some (.ref sa)) :: r2)) :=
              ((mp_dup rfl).trans ((mp_dup rfl).trans (mp_dup rfl))).symm
            have er : rows (i + 1) (V, T0, []) = row1 i (Vi, Ti, Si) := by rw [rows, hx]
            have et1 : (psum (Ti.getD i 0) Vi.dropLast).take ys.dropLast.length = psum (Ti.getD i 0) Vi.dropLast := List.take_of_length_le (by rw [psum_len, hds, hdv]; exact Nat.le_refl _)
            have et2 : Vi.dropLast.take ys.dropLast.length = Vi.dropLast := List.take_of_length_le (by rw [hds, hdv]; exact Nat.le_refl _)
            rw [et1] at hwj
            rw [et2] at htj
            refine ⟨h10, _, _, (sa, W.listOf (sv ++ [Value.str (S (apL (Vi.getLastD 0))) tL]).toArray (sn + 1)) :: (L' + 1, o1) :: (lexL w a e tp eln ln0 wj.toArray nj ++ [(tl, W.listOf tvj.toArray tnj)]), rfl, F12, fun q hq => N12 q ?_, ?_, ⟨sa, _, e, eln, tp, ln0, wj, nj, tvj, tnj, _, _, l1, em, rfl, ?_, ?_, ?_⟩⟩
            · rcases List.mem_cons.mp hq with rfl | hq
              · exact .tail _ (.tail _ (.head _))
              · exact List.mem_append_right _ hq
            · intro p hp
              have hm := List.mem_map_of_mem (f := (·.1)) hp
              obtain ⟨q, hq, eq⟩ := List.mem_map.mp (show p.1 ∈ (((sa, W.listOf sv.toArray sn) :: (L' + 1, o1) :: (lexL w a p' tp' ln' tln' ws'.toArray n' ++ [(tl, W.listOf tv'.toArray tn')])).map (·.1)) from hm)
              exact eq ▸ hne q hq
            · rw [er]
              exact .inl ⟨rfl, rfl, hwj⟩
            · rw [er]
              exact htj
            · rw [er]
              show StrsAre _ (((Si ++ [Vi.getLastD 0]).map apL).map S)
              rw [List.map_append, List.map_append]
              exact hS2.append' (.cons _ _ .nil)
          · rw [sizeLine_eq, List.size_toArray, hS2.len_eq, List.length_map, List.length_map, hSl]
            omega
  · rintro m₁ nx h tk F2 N2 ⟨sa, r, p', ln', tp', tln', ws', n', tv', tn', sv, sn, l1, rfl, rfl, hs2, hT2, hS2⟩
    obtain ⟨q1, q2, q3, q4⟩ := rows_inv hT5 hV5 hVM hTM V.length (Nat.le_refl _)
    rw [Nat.sub_self] at q1
    rw [List.eq_nil_of_length_eq_zero q1] at hs2
    obtain ⟨rfl, rfl, rfl⟩ := src_nil hs2
    have N3 := N2
    try dsimp only [List.cons_append, List.nil_append] at N3
    clear N2
    try dsimp only
    try k_fold
    walk_at "mine on"
    refine hfin _ _ _ _ _ F2 (fun q hq => N3 q ?_) ⟨sa, sv, sn, tp', tln', n', tv', tn', rfl, rfl, hT2, hS2⟩
    rcases List.mem_cons.mp hq with rfl | hq
    · exact .head _
    · exact .tail _ (.tail _ hq)
end
end
section
theorem freshL6 : True := by
  w_top off
  exact True.intro
local macro_rules | `(tactic| walk_at $k:str) => if keyIn k ["binaryOp Pow int int", "subscriptTail Name BinOp ref int", "subscriptTail Name Constant ref int", "subscriptTail Name Name ref int", "binaryOp Mult int int", "inplaceOp Mult int int", "call builtin:bytes.decode", "subscriptTail Name Slice ref ref", "call builtin:sum"] then `(tactic| refine stop ?_) else Lean.Macro.throwUnsupported
theorem law_b1 (w : World) (fa : Addr) (cd : Value) : BodyOf (hd.heap_39 w.params) 111 fun qual body scope =>
    ∀ (p : Program) (loose : List Str) (mean : ExcName → Option Value) (mg mb : Str → Option Value) (base g h₁ : Heap) (L' : Addr) (s : Shared) (tk : Nat) (Q : Flow → Shared → Prop)
      (it wl zl pw tl : Addr) (a : LexA) (oi oP oT oS : Obj) (pv zv wv tv : List Value) (kw kz tn : Nat) (PW : List Nat) (st sp wd : Nat) (tS tT tW tU tp tln tN : Tok) (tx : List Nat) (ps : Array Value) (r : List (PySem.Str × Option Value)) (i pz ln nL e eln M : Nat),
      Fr g L' h₁ (mp (("n", some (.int (i + 1 : Nat) tN)) :: (base7 tl wl zl a wd tU tW ++ r))) →
      News g L' h₁ (xs7 it wl zl pw L' oi oP oT oS wv zv pv kw kz ++ ((lexL w a pz tp ln tln #[] nL ++ [(tl, W.listOf tv.toArray tn)]) ++ [(84, tabObj ps)])) →
      oP.data = .cell (some (.ref pw)) → oT.data = .cell (some (.int (sp : Nat) tT)) → oS.data = .cell (some (.int (st : Nat) tS)) →
      IntsAre pv (PW.map Int.ofNat) → IntsAre zv ((sizesL PW).map Int.ofNat) → Pw PW → i < PW.length → wd ≤ 9 → st < 65536 → sp < 65536 →
      a.ok → ReadSpec (OpenLaw.row PySem.Challenge.rw_ty0003_01).toRowW.prog w (hd.heap_39 w.params) tx a →
      Src tx e eln ((blkV PW st sp i).map apL) pz ln [] → IntsAre tv ((tots PW st sp i).map Int.ofNat) → (tots PW st sp i).length = 5 → (∀ v ∈ blkV PW st sp i, v ≤ M) → (∀ v ∈ tots PW st sp i, v ≤ M) → M ≤ 16 ^ 80 →
      dueN PW st sp (16 ^ wd) (i + 1) i < 16 ^ 100 →
      (∀ b ∈ [it, wl, zl, pw, L' + 1 + 1 + 1 + 1, L' + 1 + 1 + 1, L' + 1 + 1, 84], b ∉ (lexL w a 0 0 0 0 #[] 0).map (·.1) ++ [tl]) → tl ∉ (lexL w a 0 0 0 0 #[] 0).map (·.1) →
      Below callerA base [] g → (hd.heap_39 w.params).In g → Top p loose mean mg mb g →
      (∀ h' tk' D sv k tp' tln' n' tv' tn' r' t1 t2 t3, Fr g L' h' (mp (("written", some (.str (S (apL (dueN PW st sp (16 ^ wd) (i + 1) i))) t1)) :: ("due", some (.int (dueN PW st sp (16 ^ wd) (i + 1) i : Nat) t2)) :: ("struck", some (.ref D)) :: ("n", some (.int (i + 1 : Nat) t3)) :: (base7 tl wl zl a wd tU tW ++ r'))) →
        News g L' h' (xs7 it wl zl pw L' oi oP oT oS wv zv pv kw kz ++ (((D, W.listOf sv.toArray k) :: lexL w a e tp' eln tln' #[] n' ++ [(tl, W.listOf tv'.toArray tn')]) ++ [(84, tabObj ps)])) →
        IntsAre tv' ((tots PW st sp (i + 1)).map Int.ofNat) → StrsAre sv (((strk PW st sp i).map apL).map S) →
        wpAny (model (OpenLaw.row PySem.Challenge.rw_ty0003_01).toRowW.prog w) (callerA.deeper (envOfC qual scope L' fa cd)) (execs ((forBody (body.drop 12)).drop 4) (envOfC qual scope L' fa cd)) Q (fun _ _ => False) { s with heap := h', toks := tk' }) →
      wpAny (model (OpenLaw.row PySem.Challenge.rw_ty0003_01).toRowW.prog w) (callerA.deeper (envOfC qual scope L' fa cd)) (execs (forBody (body.drop 12)) (envOfC qual scope L' fa cd)) Q (fun _ _ => False) { s with heap := h₁, toks := tk } := by
  k_fill
  refine' BodyOf.mk ?ho ?_
  case ho => k_is
  intro p loose mean mg mb base g h₁ L' s tk Q it wl zl pw tl a oi oP oT oS pv zv wv tv kw kz tn PW st sp wd tS tT tW tU tp tln tN tx ps r i pz ln nL e eln M F N dP dT dS hP hZ hPw hi hwd hst hsp hok hR hsrc hT hT5 hVM hTM hM hdue hdis htl B X T hnext
  have hpl := Pw_len hPw
  have hdueF : Unit → dueN PW st sp (16 ^ wd) (i + 1) i < 16 ^ 100 := fun _ => hdue
  clear hdue
  obtain ⟨R, hR9⟩ : ∃ R, R = xs7 it wl zl pw L' oi oP oT oS wv zv pv kw kz ++ ((lexL w a pz tp ln tln #[] nL ++ [(tl, W.listOf tv.toArray tn)]) ++ [(84, tabObj ps)]) := ⟨_, rfl⟩
  have N1 : News g L' h₁ ((zl, W.listOf zv.toArray kz) :: R) := news_pick N hR9 (by
    intro q hq
    rw [List.mem_singleton.mp hq]
    exact .tail _ (.tail _ (.head _)))
  unfold base7 at F
  try dsimp only [List.drop, forBody]
  try k_fold
  walk_at "mine on"
  have hz63 : (i : Int) < 2 ^ 63 := by omega
  have hsz : i < (sizesL PW).length := by rw [sizesL_len]; exact hi
  obtain ⟨tz, hzi⟩ := hZ.get i _ (by rw [List.getElem?_map, List.getElem?_eq_getElem hsz]; rfl)
  have ei : (((i + 1 : Nat) : Int) - 1) = (i : Int) := by omega
  rw [ei]
  have hbl := blkV_len PW st sp i
  rw [List.getD_eq_getElem?_getD, List.getElem?_eq_getElem hsz, Option.getD_some] at hbl
  refine go (lo_item N1 (show (zl, W.listOf zv.toArray kz) ∈ _ from .head _) (Int.natCast_nonneg _) hz63 (x := .int ((blkV PW st sp i).length : Nat) tz) (by rw [Int.toNat_natCast, List.getElem?_toArray, hbl]; exact hzi) ?_ (by with_unfolding_all rfl) (by intro _; with_unfolding_all rfl))
  walk_at "mine on"
  refine go (does_use (struck_out w tx a hok hR e eln (blkV PW st sp i) (tots PW st sp i) M pz tp ln tln [] nL tz tl tv tn hsrc hT hT5 (by rw [blkV_len]; exact sizesL_le hPw i) hVM hTM hM htl _) B F X N T rfl rfl rfl rfl (Nat.le_of_ble_eq_true rfl) (Nat.le_of_ble_eq_true rfl) (fun q hq => List.mem_append_right _ (List.mem_append_left _ hq)) ?_)
  rintro v h5 tk5 rel' F5 N5 G5 ⟨D, sv, k, tp', tln', n', tv', tn', rfl, rfl, hT', hS'⟩
  replace N5 := news_call N N5 G5 (fun q hq => by
      simp only [List.mem_cons, List.not_mem_nil, or_false] at hq
      refine hdis q.1 ?_
      rcases hq with rfl | rfl | rfl | rfl | rfl | rfl | rfl <;> simp) (fun q hq => by
      rw [List.mem_singleton.mp hq]
      exact hdis 84 (by simp))
  obtain ⟨R6, hR6⟩ : ∃ R6, R6 = xs7 it wl zl pw L' oi oP oT oS wv zv pv kw kz ++ (((D, W.listOf sv.toArray k) :: lexL w a e tp' eln tln' #[] n' ++ [(tl, W.listOf tv'.toArray tn')]) ++ [(84, tabObj ps)]) := ⟨_, rfl⟩
  have N6 : News g L' h5 ((L' + 1 + 1 + 1, oT) :: (L' + 1 + 1, oS) :: (L' + 1 + 1 + 1 + 1, oP) :: (pw, W.listOf pv.toArray 0) :: R6) := news_pick (xs := [(L' + 1 + 1 + 1, oT), (L' + 1 + 1, oS), (L' + 1 + 1 + 1 + 1, oP), (pw, W.listOf pv.toArray 0)]) N5 hR6 (by
    intro q hq
    simp only [List.mem_cons, List.not_mem_nil, or_false] at hq
    rcases hq with rfl | rfl | rfl | rfl
    · exact .tail _ (.tail _ (.tail _ (.tail _ (.tail _ (.head _)))))
    · exact .tail _ (.tail _ (.tail _ (.tail _ (.tail _ (.tail _ (.head _))))))
    · exact .tail _ (.tail _ (.tail _ (.tail _ (.head _))))
    · exact .tail _ (.tail _ (.tail _ (.head _))))
  clear N5
  clear N1 G5
  try dsimp only
  have hU : 16 ^ wd ≤ 2 ^ 36 := Nat.le_trans (Nat.pow_le_pow_right (by decide) hwd) (by decide)
  generalize hUe : 16 ^ wd = U at *
  walk_at "mine on"
  refine go (mul_natN (a := i) (b := sp) (by omega) rfl (.inl (by omega)) fun u1 => ?_)
  walk_at "mine on"
  refine go (mul_natN (a := st + i * sp) (b := U) (by rw [Int.natCast_add]) rfl (.inr (by omega)) fun u2 => ?_)
  walk_at "mine on"
  refine go (mul_natN (a := i + 1) (b := U) rfl rfl (.inr (by omega)) fun u3 => ?_)
  walk_at "mine on"
  rename_i h7 F7 N7
  have hlen0 : 0 < PW.length := Nat.lt_of_lt_of_le (by decide) hpl.1
  have hp0 := pv_get hP hlen0
  obtain ⟨u4, hp0⟩ := hp0
  have hph := Pw_head hPw
  have hpg := Pw_get hPw 0
  have hiU : (i + 1) * U ≤ 4 * 2 ^ 36 := Nat.mul_le_mul (by omega) hU
  have hisp : i * sp ≤ 4 * 65536 := Nat.mul_le_mul (by omega) (by omega)
  have hsU : (st + i * sp) * U ≤ 2 ^ 19 * 2 ^ 36 := Nat.mul_le_mul (by omega) hU
  refine go (lo_item (k := 0) N7 (show (pw, W.listOf pv.toArray 0) ∈ _ from .tail _ (.tail _ (.tail _ (.head _)))) (by decide) (by decide) hp0 ?_ (by with_unfolding_all rfl) (by intro _; with_unfolding_all rfl))
  walk_at "mine on"
  refine go (pow_natN (a := 1 + (i + 1) * U) (k := PW.getD 0 0 - 1) (by rw [Int.natCast_add]; rfl) (by omega) (by omega) (by omega) fun u5 => ?_)
  walk_at "mine on"
  refine go (mul_natN (a := (st + i * sp) * U + sp) (b := (1 + (i + 1) * U) ^ (PW.getD 0 0 - 1)) (by rw [Int.natCast_add]) rfl (.inl (by omega)) fun u6 => ?_)
  walk_at "mine on"
  refine go (For_start ?_)
  walk_at "mine on"
  rename_i hr F8 N8 hk8
  refine go (For_range (fun jj m nx => ∃ (r2 : List (PySem.Str × Option Value)) (t2 : Tok), m = mp (("due", some (.int (dueN PW st sp U (i + 1) jj : Nat) t2)) :: ("struck", some (.ref D)) :: ("n", some (.int (i + 1 : Nat) tN)) :: ("totals", some (.ref tl)) :: ("place", some (.ref a.pl)) :: ("lexer", some (.ref a.x)) :: ("unit", some (.int (U : Nat) tU)) :: ("width", some (.int wd tW)) :: ("words", some (.ref wl)) :: ("sizes", some (.ref zl)) :: r2) ∧ nx = (L' + 1 + 1 + 1, oT) :: (L' + 1 + 1, oS) :: (L' + 1 + 1 + 1 + 1, oP) :: (pw, W.listOf pv.toArray 0) :: R6) i hr ?_ ?_ F8 N8 ⟨_, u6, rfl, rfl⟩ ?_ ?_)
  · exact rsm1 (Nat.le_trans (Nat.le_of_lt (Nat.lt_of_lt_of_le hi hpl.2)) (by decide))
  · exact rs1 _
  · clear F8 N8 hr hk8
    rintro it2 jj m₁ nx h8 tk8 t9 hit2 hjj F9 N9 hne ⟨r2, t2, rfl, rfl⟩
    have ez : (1 + 1 * (jj : Int)) = ((jj + 1 : Nat) : Int) := by omega
    rw [ez] at N9 ⊢
    have N10 := N9
    try dsimp only
    try k_fold
    walk_at "mine on"
    have hjU : (i + 1 - (jj + 1)) * U ≤ 4 * 2 ^ 36 := Nat.mul_le_mul (by omega) hU
    have hjl : jj + 1 < PW.length := Nat.lt_of_le_of_lt (Nat.succ_le_of_lt hjj) hi
    have hpj := pv_get hP hjl
    obtain ⟨v1, hpj⟩ := hpj
    have hpt := Pw_tail hPw jj
    have hj63 : ((jj + 1 : Nat) : Int) < 2 ^ 63 := by omega
    refine go (mul_natN (a := i + 1 - (jj + 1)) (b := U) (by omega) rfl (.inr (by omega)) fun v2 => ?_)
    walk_at "mine on"
    refine go (lo_item (k := ((jj + 1 : Nat) : Int)) (x := .int ((PW.getD (jj + 1) 0 : Nat) : Int) v1) (by assumption) (show (pw, W.listOf pv.toArray 0) ∈ _ from .tail _ (.tail _ (.tail _ (.tail _ (.head _))))) (Int.natCast_nonneg _) hj63 (by rw [Int.toNat_natCast]; exact hpj) ?_ (by with_unfolding_all rfl) (by intro _; with_unfolding_all rfl))
    walk_at "mine on"
    refine go (pow_natN (a := 1 + (i + 1 - (jj + 1)) * U) (k := PW.getD (jj + 1) 0) (by rw [Int.natCast_add]; rfl) rfl (by omega) (by omega) fun v4 => ?_)
    walk_at "mine on"
    refine go (imul_natN (a := dueN PW st sp U (i + 1) jj) (b := (1 + (i + 1 - (jj + 1)) * U) ^ PW.getD (jj + 1) 0) rfl rfl (.inr (pow_le1 hpt (by omega))) fun v3 => ?_)
    walk_at "mine on"
    rename_i hA FA NA
    replace FA : Fr g L' hA (mp (("due", some (.int (dueN PW st sp U (i + 1) (jj + 1) : Nat) v3)) :: ("j", some (.int (jj + 1 : Nat) t9)) :: ("due", some (.int (dueN PW st sp U (i + 1) jj : Nat) t2)) :: ("struck", some (.ref D)) :: ("n", some (.int (i + 1 : Nat) tN)) :: ("totals", some (.ref tl)) :: ("place", some (.ref a.pl)) :: ("lexer", some (.ref a.x)) :: ("unit", some (.int (U : Nat) tU)) :: ("width", some (.int wd tW)) :: ("words", some (.ref wl)) :: ("sizes", some (.ref zl)) :: r2)) := FA
    exact ⟨hA, _, _, (L' + 1 + 1 + 1, oT) :: (L' + 1 + 1, oS) :: (L' + 1 + 1 + 1 + 1, oP) :: (pw, W.listOf pv.toArray 0) :: R6, rfl, FA, NA, hne, _, v3, mp_front (names := [("due", some (.int (dueN PW st sp U (i + 1) (jj + 1) : Nat) v3)), ("struck", some (.ref D)), ("n", some (.int (i + 1 : Nat) tN)), ("totals", some (.ref tl)), ("place", some (.ref a.pl)), ("lexer", some (.ref a.x)), ("unit", some (.int (U : Nat) tU)), ("width", some (.int wd tW)), ("words", some (.ref wl)), ("sizes", some (.ref zl))]) (by
      intro q hq
      simp only [List.mem_cons, List.not_mem_nil, or_false] at hq
      rcases hq with rfl | rfl | rfl | rfl | rfl | rfl | rfl | rfl | rfl | rfl <;> rfl), rfl⟩
  · clear F8 N8 hr hk8
    rintro m₁ nx h8 tk8 F9 N9 ⟨r2, t2, rfl, rfl⟩
    have N10 := N9
    try dsimp only
    try k_fold
    walk_at "mine on"
    have hap := hdueF ()
    refine go (does_use (int2apN w (dueN PW st sp U (i + 1) i) _ rfl _ _ hap) B F9 X News.nil T rfl rfl rfl rfl (Nat.le_of_ble_eq_true rfl) (Nat.le_of_ble_eq_true rfl) (fun q hq => hq) ?_)
    rintro v h9 tk9 rel' F11 N11 G11 ⟨rfl, v1, rfl⟩
    replace N11 := news_all N9 G11
    have N12 := N11
    walk_at "mine on"
    refine go (ap_decode hap fun v2 k2 => ?_)
    walk_at "mine one"
    rename_i hB FB NB
    subst hUe
    exact hnext hB _ D sv k tp' tln' n' tv' tn' r2 v2 t2 tN FB (fun q hq => NB q (.tail _ (.tail _ (.tail _ (.tail _ (hR6 ▸ hq)))))) hT' hS'
end
section
local macro_rules | `(tactic| walk_at "idle 0") => `(tactic| skip)
theorem freshL7 : True := by
  w_top off
  exact True.intro
local macro_rules | `(tactic| walk_at $k:str) => if keyIn k ["binaryOp Pow int int", "subscriptTail Name BinOp ref int", "subscriptTail Name Constant ref int", "subscriptTail Name Name ref int", "binaryOp Mult int int", "inplaceOp Mult int int", "call builtin:bytes.decode", "binaryOp Add ref ref", "compareOp NotEq ref ref", "subscriptTail Name Slice str ref", "call builtin:len", "execs cons Assign cons", "subscriptTail Name Slice ref ref", "call builtin:sum"] then `(tactic| refine stop ?_) else Lean.Macro.throwUnsupported
theorem drop2' {h₀ h : Heap} {L : Addr} {a b : Addr × Obj} {r : List (Addr × Obj)} (N : News h₀ L h (a :: b :: r)) : News h₀ L h r := fun q hq => N q (.tail _ (.tail _ hq))
theorem drop1' {h₀ h : Heap} {L : Addr} {a : Addr × Obj} {r : List (Addr × Obj)} (N : News h₀ L h (a :: r)) : News h₀ L h r := fun q hq => N q (.tail _ hq)
theorem law_b2 (w : World) (fa : Addr) (cd : Value) : BodyOf (hd.heap_39 w.params) 111 fun qual body scope =>
    ∀ (p : Program) (loose : List Str) (mean : ExcName → Option Value) (mg mb : Str → Option Value) (base g h₁ : Heap) (L' : Addr) (s : Shared) (tk : Nat) (Q : Flow → Shared → Prop)
      (it wl zl pw tl D : Addr) (a : LexA) (oi oP oT oS : Obj) (pv zv wv tv sv : List Value) (kw kz tn k : Nat) (V : List Nat) (d sp wd : Nat) (tT tW tU tp tln tN t1 t2 : Tok) (ps : Array Value) (r : List (PySem.Str × Option Value)) (i pz ln nL : Nat),
      Fr g L' h₁ (mp (("written", some (.str (S (apL d)) t1)) :: ("due", some (.int d t2)) :: ("struck", some (.ref D)) :: ("n", some (.int (i + 1 : Nat) tN)) :: (base7 tl wl zl a wd tU tW ++ r))) →
      News g L' h₁ (xs7 it wl zl pw L' oi oP oT oS wv zv pv kw kz ++ (((D, W.listOf sv.toArray k) :: lexL w a pz tp ln tln #[] nL ++ [(tl, W.listOf tv.toArray tn)]) ++ [(84, tabObj ps)])) →
      oT.data = .cell (some (.int (sp : Nat) tT)) → StrsAre sv ((V.map apL).map S) → d = sp + 16 ^ wd * polyv (16 ^ wd) V → (∀ v ∈ V, v < 16 ^ wd) → sp < 16 ^ wd → V.length ≤ 5 → wd ≤ 9 → d < 16 ^ 100 →
      Below callerA base [] g → (hd.heap_39 w.params).In g → Top p loose mean mg mb g →
      (∀ h' tk' r', Fr g L' h' (mp (("n", some (.int (i + 1 : Nat) tN)) :: (base7 tl wl zl a wd tU tW ++ r'))) →
        News g L' h' (xs7 it wl zl pw L' oi oP oT oS wv zv pv kw kz ++ ((lexL w a pz tp ln tln #[] nL ++ [(tl, W.listOf tv.toArray tn)]) ++ [(84, tabObj ps)])) →
        wpAny (model (OpenLaw.row PySem.Challenge.rw_ty0003_01).toRowW.prog w) (callerA.deeper (envOfC qual scope L' fa cd)) (execs ((forBody (body.drop 12)).drop 8) (envOfC qual scope L' fa cd)) Q (fun _ _ => False) { s with heap := h', toks := tk' }) →
      wpAny (model (OpenLaw.row PySem.Challenge.rw_ty0003_01).toRowW.prog w) (callerA.deeper (envOfC qual scope L' fa cd)) (execs ((forBody (body.drop 12)).drop 4) (envOfC qual scope L' fa cd)) Q (fun _ _ => False) { s with heap := h₁, toks := tk } := by
  k_fill
  refine' BodyOf.mk ?ho ?_
  case ho => k_is
  intro p loose mean mg mb base g h₁ L' s tk Q it wl zl pw tl D a oi oP oT oS pv zv wv tv sv kw kz tn k V d sp wd tT tW tU tp tln tN t1 t2 ps r i pz ln nL F N dT hS hd hV hsp hV5 hwd hd100 B X T hnext
  have hd100F : Unit → d < 16 ^ 100 := fun _ => hd100
  have hsp36 : sp < 2 ^ 36 := Nat.lt_of_lt_of_le hsp (Nat.le_trans (Nat.pow_le_pow_right (by decide) hwd) (by decide))
  have hlaid := laid_eq hd hV hsp
  have hVF : Unit → ∀ v ∈ V, v < 16 ^ wd := fun _ => hV
  have hdF : Unit → d = sp + 16 ^ wd * polyv (16 ^ wd) V := fun _ => hd
  clear hd100 hV hd hsp
  obtain ⟨R, hR⟩ : ∃ R, R = xs7 it wl zl pw L' oi oP oT oS wv zv pv kw kz ++ (((D, W.listOf sv.toArray k) :: lexL w a pz tp ln tln #[] nL ++ [(tl, W.listOf tv.toArray tn)]) ++ [(84, tabObj ps)]) := ⟨_, rfl⟩
  have N1 : News g L' h₁ ((L' + 1 + 1 + 1, oT) :: (D, W.listOf sv.toArray k) :: R) := by
    rw [← hR] at N
    intro q hq
    rcases List.mem_cons.mp hq with rfl | hq
    · exact N _ (by rw [hR]; exact .tail _ (.tail _ (.tail _ (.tail _ (.tail _ (.head _))))))
    · rcases List.mem_cons.mp hq with rfl | hq
      · exact N _ (by rw [hR]; exact List.mem_append_right _ (.head _))
      · exact N _ hq
  clear N
  dsimp only [List.cons_append, List.nil_append] at F
  have hD : (D, W.listOf sv.toArray k) ∈ (L' + 1 + 1 + 1, oT) :: (D, W.listOf sv.toArray k) :: R := .tail _ (.head _)
  have hsl := hS.len_eq
  rw [List.length_map, List.length_map] at hsl
  try dsimp only [List.drop, forBody]
  try k_fold
  walk_at "mine on"
  refine go (wpAny_execs_cons ?_)
  try dsimp only
  try k_fold
  walk_at "mine on"
  refine go (krv_lit F N1 (lo_isList (items := sv.toArray) N1 hD) (.int (-1) _) rfl ?_ (by with_unfolding_all rfl) (by intro _; with_unfolding_all rfl) (by rw [sizeLine_eq, List.size_toArray]; omega))
  intro D1 h2 F2 N2 l2
  try dsimp only
  walk_at "mine on"
  have hS5 : ∀ t, StrsAre (sv ++ [Value.str (S (apL d)) t]) ((V.map apL ++ [apL d]).map S) := by
    intro t
    rw [List.map_append]
    exact hS.append' (.cons _ _ .nil)
  have hsp100 : sp < 16 ^ 100 := Nat.lt_of_lt_of_le hsp36 (by decide +kernel)
  refine go (does_use (int2apN w sp _ rfl _ _ hsp100) B F2 X News.nil T rfl rfl rfl rfl (Nat.le_of_ble_eq_true rfl) (Nat.le_of_ble_eq_true rfl) (fun q hq => hq) ?_)
  rintro v h3 tk3 rel' F3 N3 G3 ⟨rfl, v1, rfl⟩
  replace N3 := news_all N2 G3
  clear G3 F2 N2 l2 N1 F
  walk_at "mine on"
  refine go (ap_decode hsp100 fun v2 k2 => ?_)
  walk_at "mine on"
  rename_i D2 h4 F4 N4 l4
  refine go (kmk_add_lit F4 N4 (lo_isList N4 (.tail _ (.head _))) (lo_isList N4 (.head _)) rfl ?_ (by rw [sizeLine_eq, List.length_reverse]; simp; omega))
  intro D3 h5 F5 N5 l5
  try dsimp only
  walk_at "mine on"
  have hapV : ∀ v, v < 16 ^ wd → (apL v).length ≤ 500 := fun v hv => Nat.le_trans (apL_len wd v hv) (by omega)
  have hvs : StrsAre (sv.reverse ++ [Value.str (S (apL sp)) v2]) ((V.reverse.map apL ++ [apL sp]).map S) := by
    rw [List.map_append, List.map_reverse, List.map_reverse]
    exact (strs_rev hS).append' (.cons _ _ .nil)
  have hlsl : ∀ l ∈ V.reverse.map apL ++ [apL sp], l.length ≤ 500 := by
    intro l hl
    rcases List.mem_append.mp hl with hl | hl
    · obtain ⟨v, hv, rfl⟩ := List.mem_map.mp hl
      exact hapV v (hVF () v (List.mem_reverse.mp hv))
    · rw [List.mem_singleton.mp hl]; exact Nat.le_trans (apL_len 100 _ hsp100) (by decide)
  have hlsn : (V.reverse.map apL ++ [apL sp]).length ≤ 100 := by
    rw [List.length_append, List.length_map, List.length_reverse, List.length_singleton]; omega
  refine go (does_use (law_laid w D3 (sv.reverse ++ [Value.str (S (apL sp)) v2]) (V.reverse.map apL ++ [apL sp]) wd tW hvs hlsl (by omega) hlsn _ (lo_isList N5 (.head _))) B F5 X News.nil T rfl rfl rfl rfl (Nat.le_of_ble_eq_true rfl) (Nat.le_of_ble_eq_true rfl) (fun q hq => hq) ?_)
  rintro v h6 tk6 rel' F6 N6 G6 ⟨rfl, v3, rfl⟩
  rw [hlaid]
  replace N6 := news_all N5 G6
  replace N6 := fun q hq => N6 q (.tail _ (.tail _ (.tail _ hq)))
  clear G6 F5 N5 l5 hvs hlsl hlsn
  try dsimp only
  walk_at "mine on"
  rename_i h7 F7 N7
  refine go (comp_listP F7 N7 AtL unL unL_at (V.map apL ++ [apL d]) (fun l => l.take 1 == [65]) (fun _ _ => True) (cl := []) rfl (by decide) rfl (by decide) rfl rfl (by rw [List.length_append, List.length_map, List.length_singleton]; omega) ?_ (fun _ => rfl))
  refine stopQ ?_
  walk_at "mine on"
  rename_i D4 h8 F8 N8 l8
  refine go (kmk_add_lit F8 N8 (lo_isList (items := sv.toArray) N8 (.tail _ hD)) (lo_isList N8 (.head _)) rfl ?_ (by rw [sizeLine_eq]; simp; omega))
  intro D5 h9 F9 N9 l9
  try dsimp only
  walk_at "mine on"
  refine go ⟨D5, _, rfl, lo_isList (s := { s with heap := h9 }) N9 (.head _), ?_, ?_, F9, fun q hq => N9 q (.tail _ (.tail _ hq)), ⟨?_, ?_⟩, ?_⟩
  · simp; omega
  · exact fun i v hv => strs_at (hS5 _) i v hv
  · rintro C l v s₃ m₃ E' hl ⟨t, rfl⟩ hC hns hm2 hkp
    have hll : l.length ≤ 500 := by
      rcases List.mem_append.mp hl with hl | hl
      · obtain ⟨v, hv, rfl⟩ := List.mem_map.mp hl
        exact hapV v (hVF () v hv)
      · rw [List.mem_singleton.mp hl]; exact Nat.le_trans (apL_len 100 _ (hd100F ())) (by decide)
    have hll2 : (S l).length ≤ 500 := by rw [S_len]; exact hll
    clear N9 F9 l9
    refine stopQ ?_
    walk_at "mine on"
    refine go (S_head1 (by omega) ?_ (by with_unfolding_all rfl) (by intro _; with_unfolding_all rfl))
    intro h10 t10 k10 hk10
    try dsimp only
    walk_at "mine on"
    exact go ⟨by rw [A_of, S_beq], h10, _, rfl, hk10⟩
  · rintro C l v s₃ m₃ E' hl ⟨t, rfl⟩ _ hC hns hm2 hkp
    refine stopQ ?_
    walk_at "mine on"
    exact go ⟨trivial, keeps_refl _⟩
  · rintro D6 n6 ⟨ys⟩ h10 tk10 F10 N10 hD6 - - hP6
    rw [noA_filter] at hP6
    obtain rfl : ys = [] := by cases hP6; rfl
    clear N9 F9 l9 hP6
    try dsimp only
    walk_at "mine on"
    rename_i D7 h11 F11 N11 l11
    refine go (ne_intsK (vs := []) (us := []) (ns := []) (ms := []) (lo_isList N11 (.tail _ (.head _))) .nil (lo_isList N11 (.head _)) .nil (Nat.le_of_ble_eq_true rfl) ?_)
    replace N11 := drop2' N11
    clear l11 hD6
    rw [show (!decide (([] : List Int) = [])) = false from rfl]
    try dsimp only
    walk_at "mine on"
    rename_i D8 h12 F12 N12 l12
    refine go (call_len_list (lo_isList (items := sv.toArray) N12 (.tail _ hD)) (by rw [List.size_toArray]; omega) ?_)
    walk_at "mine on"
    have hwV : wd * (V.length + 1) ≤ 9 * 6 := Nat.mul_le_mul hwd (by omega)
    refine go (mul_natN (a := wd) (b := V.length + 1) rfl (by rw [List.size_toArray]; omega) (.inl (by omega)) fun v5 => ?_)
    walk_at "mine on"
    refine go (does_use (law_laid w D8 [Value.str (S (apL d)) t1] [apL d] (wd * (V.length + 1)) v5 (.cons _ _ .nil) (fun l hl => by rw [List.mem_singleton.mp hl]; exact Nat.le_trans (apL_len 100 _ (hd100F ())) (by decide)) (by omega) (Nat.le_of_ble_eq_true rfl) _ (lo_isList N12 (.head _))) B F12 X News.nil T rfl rfl rfl rfl (Nat.le_of_ble_eq_true rfl) (Nat.le_of_ble_eq_true rfl) (fun q hq => hq) ?_)
    rintro v h13 tk13 rel' F13 N13 G13 ⟨rfl, v6, rfl⟩
    rw [show ([apL d].map (pad (wd * (V.length + 1)))).flatten = pad (wd * (V.length + 1)) (apL d) from by simp]
    replace N13 := news_all N12 G13
    replace N13 := drop1' N13
    clear G13 l12
    try dsimp only
    walk_at "mine on"
    · rename _ = true => hb
      exact (S_ne_self hb).elim
    · refine go (does_use (law_number w (pad (wd * (V.length + 1)) (apL d)) _ (pad_in (apL_in d)) (Nat.le_trans pad_len (by have := apL_len 100 d (hd100F ()); omega)) _) B F13 X News.nil T rfl rfl rfl rfl (Nat.le_of_ble_eq_true rfl) (Nat.le_of_ble_eq_true rfl) (fun q hq => hq) ?_)
      rintro v h14 tk14 rel' F14 N14 G14 ⟨rfl, v7, rfl⟩
      rw [hexv_padL]
      replace N14 := news_all N13 G14
      clear G14
      try dsimp only
      walk_at "mine on"
      · exact absurd rfl (by assumption)
      · obtain ⟨W, hW⟩ : ∃ W : List (PySem.Str × Option Value), W = w7 (pad (wd * (V.length + 1)) (apL d)) v3 d t1 t2 D (nb7 i tN tl wl zl a wd tU tW ++ r) := ⟨_, rfl⟩
        have F15 : Fr g L' h14 (mp W) := by rw [hW]; exact F14
        have em : mp W = mp (nb7 i tN tl wl zl a wd tU tW ++ W) := mp_front (by
          subst hW
          intro q hq
          simp only [List.mem_cons, List.not_mem_nil, or_false] at hq
          rcases hq with rfl | rfl | rfl | rfl | rfl | rfl | rfl | rfl <;> rfl)
        rw [em] at F15
        refine go (hnext h14 _ W F15 (fun q hq => N14 q ?_))
        refine .tail _ (.tail _ ?_)
        rw [hR]
        rcases List.mem_append.mp hq with hq | hq
        · exact List.mem_append_left _ hq
        · exact List.mem_append_right (xs7 it wl zl pw L' oi oP oT oS wv zv pv kw kz) (.tail _ hq)
end
section
theorem freshL8 : True := by
  w_top off
  exact True.intro
local macro_rules | `(tactic| walk_at $k:str) => if keyIn k ["binaryOp Pow int int", "subscriptTail Name BinOp ref int", "subscriptTail Name Constant ref int", "subscriptTail Name Name ref int", "binaryOp Mult int int", "inplaceOp Mult int int", "binaryOp Add ref ref", "compareOp NotEq ref ref", "subscriptTail Name Slice ref ref", "call builtin:sum"] then `(tactic| refine stop ?_) else Lean.Macro.throwUnsupported
theorem drop2'' {h₀ h : Heap} {L : Addr} {a b : Addr × Obj} {r : List (Addr × Obj)} (N : News h₀ L h (a :: b :: r)) : News h₀ L h r := fun q hq => N q (.tail _ (.tail _ hq))
theorem law_b3 (w : World) (fa : Addr) (cd : Value) : BodyOf (hd.heap_39 w.params) 111 fun qual body scope =>
    ∀ (p : Program) (loose : List Str) (mean : ExcName → Option Value) (mg mb : Str → Option Value) (base g h₁ : Heap) (L' : Addr) (s : Shared) (tk : Nat) (Q : Flow → Shared → Prop)
      (it wl zl pw tl : Addr) (a : LexA) (oi oP oT oS : Obj) (pv zv wv tv : List Value) (kw kz tn : Nat) (PW : List Nat) (wd : Nat) (tW tU tp tln tN : Tok) (ps : Array Value) (r : List (PySem.Str × Option Value)) (i nL : Nat) (WL : List (List Nat)),
      Fr g L' h₁ (mp (("n", some (.int (i + 1 : Nat) tN)) :: (base7 tl wl zl a wd tU tW ++ r))) →
      News g L' h₁ (xs7 it wl zl pw L' oi oP oT oS wv zv pv kw kz ++ ((lexL w a (WL.take (offs PW (i + 1))).flatten.length tp (1 + (WL.take (offs PW (i + 1))).flatten.count 10) tln #[] nL ++ [(tl, W.listOf tv.toArray tn)]) ++ [(84, tabObj ps)])) →
      IntsAre zv ((sizesL PW).map Int.ofNat) → StrsAre wv (WL.map S) → WL.length ≤ 20 → (sizesL PW).length ≤ 4 → (∀ j, (WL.take j).flatten.length ≤ 10000) →
      Below callerA base [] g → (hd.heap_39 w.params).In g → Top p loose mean mg mb g →
      (∀ h' tk' r', Fr g L' h' (mp (("n", some (.int (i + 1 : Nat) tN)) :: (base7 tl wl zl a wd tU tW ++ r'))) →
        News g L' h' (xs7 it wl zl pw L' oi oP oT oS wv zv pv kw kz ++ ((lexL w a (WL.take (offs PW (i + 1))).flatten.length tp (1 + (WL.take (offs PW (i + 1))).flatten.count 10) tln #[] nL ++ [(tl, W.listOf tv.toArray tn)]) ++ [(84, tabObj ps)])) → Q .next { s with heap := h', toks := tk' }) →
      wpAny (model (OpenLaw.row PySem.Challenge.rw_ty0003_01).toRowW.prog w) (callerA.deeper (envOfC qual scope L' fa cd)) (execs ((forBody (body.drop 12)).drop 8) (envOfC qual scope L' fa cd)) Q (fun _ _ => False) { s with heap := h₁, toks := tk } := by
  k_fill
  refine' BodyOf.mk ?ho ?_
  case ho => k_is
  intro p loose mean mg mb base g h₁ L' s tk Q it wl zl pw tl a oi oP oT oS pv zv wv tv kw kz tn PW wd tW tU tp tln tN ps r i nL WL F N hZ hWS hWl hzl hWf B X T hnext
  have hWf1 := hWf (offs PW (i + 1))
  have hwvl : wv.length = WL.length := by rw [hWS.len_eq, List.length_map]
  have hzvl : zv.length ≤ 4 := by rw [hZ.length, List.length_map]; exact hzl
  have hpz : ∃ pz, (WL.take (offs PW (i + 1))).flatten.length = pz := ⟨_, rfl⟩
  have hln : ∃ ln, (WL.take (offs PW (i + 1))).flatten.count 10 = ln := ⟨_, rfl⟩
  have N1 := N
  unfold lexL topL readL at N1
  dsimp only [List.cons_append, List.nil_append] at N1
  dsimp only [List.cons_append, List.nil_append] at F
  try dsimp only [List.drop, forBody]
  try k_fold
  walk_at "mine on"
  refine go (lo_cut (k := ((i + 1 : Nat) : Int)) F N1 (.tail _ (.tail _ (.head _))) (Int.natCast_nonneg _) (by omega) ?_ (by with_unfolding_all rfl) (by intro _; with_unfolding_all rfl))
  intro D2 h2 F3 N4 l3
  rw [Int.toNat_natCast] at N4
  try dsimp only
  walk_at "mine on"
  refine go (LSm.sum_ints F3 N4 rfl (lo_isList N4 (.head _)) (IntsAre.take hZ (i + 1)) ?_)
  intro h3 tk3 tq3 F4 N5
  rw [← List.map_take, sum_ofNat]
  walk_at "mine on"
  refine go (lo_cut (k := (offs PW (i + 1) : Nat)) F4 N5 (.tail _ (.tail _ (.head _))) (Int.natCast_nonneg _) (by omega) ?_ (by with_unfolding_all rfl) (by intro _; with_unfolding_all rfl))
  intro D4 h4 F5 N6 l4
  rw [Int.toNat_natCast] at N6
  try dsimp only
  walk_at "mine on"
  refine S_join (lo_isList N6 (.head _)) (ls := WL.take (offs PW (i + 1))) (by rw [List.map_take]; exact hWS.take' _) (by omega) ?_
  intro tJ kJ
  walk_at "mine on"
  rename_i h5 F6 N7
  refine go (lo_item (k := 0) (x := .int ((WL.take (offs PW (i + 1))).flatten.length : Nat) tp) N7 (show (a.pl, W.listOf #[.int ((WL.take (offs PW (i + 1))).flatten.length : Nat) tp] 0) ∈ _ by repeat (first | exact .head _ | refine .tail _ ?_)) (by decide) (by decide) rfl ?_ (by with_unfolding_all rfl) (by intro _; with_unfolding_all rfl))
  walk_at "mine on"
  · exact absurd rfl (by assumption)
  · refine absurd ?_ (by assumption : ¬ (_ = _))
    rw [count_nl, Int.natCast_add]; rfl
  · obtain ⟨W, hW⟩ : ∃ W : List (PySem.Str × Option Value), W = h8 (WL.take (offs PW (i + 1))).flatten tJ (nb7 i tN tl wl zl a wd tU tW ++ r) := ⟨_, rfl⟩
    have F15 : Fr g L' h5 (mp W) := by rw [hW]; exact F6
    have em : mp W = mp (nb7 i tN tl wl zl a wd tU tW ++ W) := mp_front (by
      subst hW
      intro q hq
      simp only [List.mem_cons, List.not_mem_nil, or_false] at hq
      rcases hq with rfl | rfl | rfl | rfl | rfl | rfl | rfl | rfl <;> rfl)
    rw [em] at F15
    exact hnext h5 _ W F15 (fun q hq => N7 q (.tail _ (.tail _ hq)))
end
section
open PySem PySem.W PySem.Calls PyProof.Rows PySem.Spec
set_option Elab.async false
set_option maxRecDepth 100000
set_option maxHeartbeats 800000
local macro_rules | `(tactic| walk_at "idle 0") => `(tactic| skip)
theorem freshL4 : True := by
  w_top off
  exact True.intro
local macro_rules | `(tactic| walk_at $k:str) => if keyIn k ["binaryOp Pow int int", "execs cons Assign cons", "compareOp Eq ref ref", "call builtin:len", "subscriptTail Name Slice ref ref", "call builtin:sum"] then `(tactic| refine stop ?_) else Lean.Macro.throwUnsupported
theorem law_walk4 (w : World) (fa : Addr) (cd : Value) : BodyOf (hd.heap_39 w.params) 111 fun qual body scope =>
    ∀ (p : Program) (loose : List Str) (mean : ExcName → Option Value) (mg mb : Str → Option Value) (base g h₁ : Heap) (L' : Addr) (s : Shared) (tk : Nat) (Q : Flow → Shared → Prop)
      (wl zl pw tl : Addr) (a : LexA) (oP oT oS : Obj) (pv zv wv tv : List Value) (kw kz tn : Nat) (PW : List Nat) (st sp wd : Nat) (tS tT tW tU tp tln : Tok) (ms : List Nat) (ps : Array Value) (r : List (PySem.Str × Option Value)),
      Fr g L' h₁ (mp (("totals", some (.ref tl)) :: ("place", some (.ref a.pl)) :: ("lexer", some (.ref a.x)) :: ("unit", some (.int (16 ^ wd : Nat) tU)) :: ("width", some (.int wd tW)) :: ("words", some (.ref wl)) :: ("sizes", some (.ref zl)) :: r)) →
      News g L' h₁ ([(wl, W.listOf wv.toArray kw), (zl, W.listOf zv.toArray kz), (pw, W.listOf pv.toArray 0), (L' + 1 + 1 + 1 + 1, oP), (L' + 1 + 1 + 1, oT), (L' + 1 + 1, oS)] ++ ((lexL w a 0 tp 1 tln #[] 0 ++ [(tl, W.listOf tv.toArray tn)]) ++ [(84, tabObj ps)])) →
      oP.data = .cell (some (.ref pw)) → oT.data = .cell (some (.int (sp : Nat) tT)) → oS.data = .cell (some (.int (st : Nat) tS)) →
      IntsAre pv (PW.map Int.ofNat) → IntsAre zv ((sizesL PW).map Int.ofNat) → ms.length = (sizesL PW).sum → (∀ m ∈ ms, m < 12) → StrsAre wv ((List.zipWith wtn ((valsL st sp (sizesL PW).sum).map apL) ms).map S) → IntsAre tv [0, 0, 0, 0, 0] →
      Pw PW → st < 65536 → sp < 65536 → WOk st sp wd → (∀ i, i < PW.length → LawAt PW st sp (16 ^ wd) i) →
      a.ok → ReadSpec (OpenLaw.row PySem.Challenge.rw_ty0003_01).toRowW.prog w (hd.heap_39 w.params) (List.zipWith wtn ((valsL st sp (sizesL PW).sum).map apL) ms).flatten a →
      @LT.lt Nat _ wl a.ct → @LT.lt Nat _ zl a.ct → @LT.lt Nat _ pw a.ct → @LT.lt Nat _ (L' + 1 + 1 + 1 + 1) a.ct → @LT.lt Nat _ a.pb tl →
      Below callerA base [] g → (hd.heap_39 w.params).In g → Top p loose mean mg mb g → @LT.lt Nat _ 84 L' →
      (∀ h' tk' m' ps nx, Fr g L' h' m' → News g L' h' ((84, tabObj ps) :: nx) → Q (.ret (.bool true)) { s with heap := h', toks := tk' }) →
      wpAny (model (OpenLaw.row PySem.Challenge.rw_ty0003_01).toRowW.prog w) (callerA.deeper (envOfC qual scope L' fa cd)) (execs (body.drop 12) (envOfC qual scope L' fa cd)) Q (fun _ _ => False) { s with heap := h₁, toks := tk } := by
  k_fill
  refine' BodyOf.mk3 (law_b1 w fa cd) (law_b2 w fa cd) (law_b3 w fa cd) ?ho ?_
  case ho => k_is
  intro b1 b2 b3 p loose mean mg mb base g h₁ L' s tk Q wl zl pw tl a oP oT oS pv zv wv tv kw kz tn PW st sp wd tS tT tW tU tp tln ms ps r F N dP dT dS hP hZ hms hm12 hW hT0 hPw hst hsp hwd hlaw hok hR f1 f2 f3 f4 f5 B X T h84 hfin
  obtain ⟨WL, hWL⟩ : ∃ WL, WL = List.zipWith wtn ((valsL st sp (sizesL PW).sum).map apL) ms := ⟨_, rfl⟩
  rw [← hWL] at hW hR
  have N1 := N
  try dsimp only [List.cons_append, List.nil_append] at N1
  try dsimp only [List.drop]
  try k_fold
  walk_at "mine on"
  refine go (For_start ?_)
  walk_at "mine on"
  have hpl := Pw_len hPw
  have hzvl : zv.length = PW.length := by rw [hZ.length, List.length_map, sizesL_len]
  refine go (call_len_list (lo_isList (items := zv.toArray) N1 (.tail _ (.head _))) (by rw [List.size_toArray]; omega) ?_)
  rw [List.size_toArray, hzvl]
  walk_at "mine on"
  rename_i hr F2 N2 hk2
  refine go (For_range (b := ((PW.length + 1 : Nat) : Int)) (fun i m nx => ∃ (r' : List (PySem.Str × Option Value)) (tp' tln' : Tok) (n' : Nat) (tv' : List Value) (tn' : Nat), m = mp (base7 tl wl zl a wd tU tW ++ r') ∧ nx = [(wl, W.listOf wv.toArray kw), (zl, W.listOf zv.toArray kz), (pw, W.listOf pv.toArray 0), (L' + 1 + 1 + 1 + 1, oP), (L' + 1 + 1 + 1, oT), (L' + 1 + 1, oS)] ++ ((lexL w a (WL.take (offs PW i)).flatten.length tp' (1 + (WL.take (offs PW i)).flatten.count 10) tln' #[] n' ++ [(tl, W.listOf tv'.toArray tn')]) ++ [(84, tabObj ps)]) ∧ IntsAre tv' ((tots PW st sp i).map Int.ofNat)) PW.length hr ?_ ?_ F2 N2 ⟨_, tp, tln, 0, tv, tn, rfl, ?_, hT0⟩ ?_ ?_)
  · exact rsm1 (Nat.le_trans hpl.2 (by decide))
  · exact rs1 _
  · rfl
  · clear F2 N2 hr hk2
    rintro it i m₁ nx h tk2 t9 hit hi F2 N2 hne ⟨r', tp', tln', n', tv', tn', rfl, rfl, hT⟩
    have ez : (1 + 1 * (i : Int)) = ((i + 1 : Nat) : Int) := by omega
    rw [ez] at N2 ⊢
    have bI : @LT.lt Nat _ a.pb it := hit (a.pb, _) (.tail _ (.tail _ (.tail _ (.tail _ (.tail _ (.tail _ (.head _)))))))
    have tI : @LT.lt Nat _ tl it := hit (tl, W.listOf tv.toArray tn) (by simp)
    have htl : tl ∉ (lexL w a 0 0 0 0 #[] 0).map (·.1) := fun hm => Nat.lt_irrefl _ (lex_lt hok f5 tl hm)
    have lo : ∀ b, @LT.lt Nat _ b a.ct → b ∉ (lexL w a 0 0 0 0 #[] 0).map (·.1) ++ [tl] := fun b hb hm => by
      rcases List.mem_append.mp hm with hm | hm
      · exact Nat.lt_irrefl _ (Nat.lt_of_lt_of_le hb (lex_ge hok b hm))
      · rw [List.mem_singleton.mp hm] at hb
        have h1 := lex_ge (w := w) (p := 0) (ln := 0) (n := 0) (tp := 0) (tln := 0) (ws := #[]) hok a.pb (.head _)
        exact Nat.lt_irrefl _ (Nat.lt_trans (Nat.lt_of_lt_of_le hb h1) f5)
    have hdis : ∀ b ∈ [it, wl, zl, pw, L' + 1 + 1 + 1 + 1, L' + 1 + 1 + 1, L' + 1 + 1, 84], b ∉ (lexL w a 0 0 0 0 #[] 0).map (·.1) ++ [tl] := by
      intro b hb
      simp only [List.mem_cons, List.not_mem_nil, or_false] at hb
      rcases hb with rfl | rfl | rfl | rfl | rfl | rfl | rfl | rfl
      · intro hm
        rcases List.mem_append.mp hm with hm | hm
        · exact Nat.lt_irrefl _ (lex_lt hok bI b hm)
        · rw [List.mem_singleton.mp hm] at tI; exact Nat.lt_irrefl _ tI
      · exact lo _ f1
      · exact lo _ f2
      · exact lo _ f3
      · exact lo _ f4
      · exact lo _ (Nat.lt_trans (Nat.lt_succ_self _) f4)
      · exact lo _ (Nat.lt_trans (Nat.lt_succ_self _) (Nat.lt_trans (Nat.lt_succ_self _) f4))
      · exact lo _ (by unfold LexA.ok at hok; exact hok.1)
    have hwd9 : wd ≤ 9 := by rcases hwd.1 with h | h | h <;> omega
    have hspU : sp < 16 ^ wd := by have := hwd.2; omega
    have hti := tots_ok hPw hst hsp i hi
    have hM80 : 16 ^ 6 * 6 ^ 20 ≤ 16 ^ 80 := by decide +kernel
    have hV5 : (strk PW st sp i).length ≤ 5 := by
      have h1 := rows_len3 (blkV PW st sp i).length (blkV PW st sp i, tots PW st sp i, [])
      have h2 := blkV_len PW st sp i
      have h3 := sizesL_le hPw i
      show (rows (blkV PW st sp i).length (blkV PW st sp i, tots PW st sp i, [])).2.2.length ≤ 5
      rw [h1]; simp; omega
    have hlw := hlaw i hi
    have hd100 := due_lt hlw.1 hlw.2 hspU hV5 hwd9
    have hsrc := src_block (tx := WL.flatten) hi hms hm12 hWL rfl (st := st) (sp := sp)
    have hWl : WL.length ≤ 20 := by
      rw [hWL, List.length_zipWith, List.length_map]
      unfold valsL
      have := sizesL_sum hPw
      rw [List.length_map, List.length_range]; omega
    have hWf : ∀ j, (WL.take j).flatten.length ≤ 10000 := by
      intro j
      have h1 := tx_len (ms := ms) hst hsp (sizesL_sum hPw)
      rw [← hWL] at h1
      have h2 : (WL.take j).flatten.length + (WL.drop j).flatten.length = WL.flatten.length := by
        rw [← List.length_append, ← List.flatten_append, List.take_append_drop]
      omega
    have hRF := hR
    try dsimp only
    try k_fold
    walk_at "mine on"
    rename_i h3 F3 N3
    refine go (b1 p loose mean mg mb base g h3 L' s _ _ it wl zl pw tl a _ oP oT oS pv zv wv tv' kw kz tn' PW st sp wd tS tT tW tU tp' tln' t9 WL.flatten ps r' i _ _ n' _ _ (16 ^ 6 * 6 ^ 20) F3 N3 dP dT dS hP hZ hPw hi hwd9 hst hsp hok hRF hsrc hT hti.1 (blk_le hPw hi hst hsp) hti.2 hM80 hd100 hdis htl B X T ?_)
    intro h4 tk4 D sv k tp4 tln4 n4 tv4 tn4 r4 q1 q2 q3 F4 N4 hT4 hS4
    refine b2 p loose mean mg mb base g h4 L' s tk4 _ it wl zl pw tl D a _ oP oT oS pv zv wv tv4 sv kw kz tn4 k (strk PW st sp i) (dueN PW st sp (16 ^ wd) (i + 1) i) sp wd tT tW tU tp4 tln4 q3 q1 q2 ps r4 i _ _ n4 F4 N4 dT hS4 hlw.1 hlw.2 hspU hV5 hwd9 hd100 B X T ?_
    intro h5 tk5 r5 F5 N5
    refine b3 p loose mean mg mb base g h5 L' s tk5 _ it wl zl pw tl a _ oP oT oS pv zv wv tv4 kw kz tn4 PW wd tW tU tp4 tln4 q3 ps r5 i n4 WL F5 N5 hZ hW hWl (by rw [sizesL_len]; exact hpl.2) hWf B X T ?_
    intro h6 tk6 r6 F6 N6
    have em : ∀ W : List (PySem.Str × Option Value), W = nb7 i q3 tl wl zl a wd tU tW ++ r6 → mp W = mp (base7 tl wl zl a wd tU tW ++ W) := by
      rintro W rfl
      refine mp_front ?_
      intro q hq
      simp only [List.mem_cons, List.not_mem_nil, or_false] at hq
      rcases hq with rfl | rfl | rfl | rfl | rfl | rfl | rfl <;> rfl
    exact ⟨h6, tk6, _, _, rfl, F6, N6, (fun q hq => by
      have hm := List.mem_map_of_mem (f := (·.1)) hq
      obtain ⟨q', hq', eq⟩ := List.mem_map.mp (show q.1 ∈ (([(wl, W.listOf wv.toArray kw), (zl, W.listOf zv.toArray kz), (pw, W.listOf pv.toArray 0), (L' + 1 + 1 + 1 + 1, oP), (L' + 1 + 1 + 1, oT), (L' + 1 + 1, oS)] ++ ((lexL w a (WL.take (offs PW i)).flatten.length tp' (1 + (WL.take (offs PW i)).flatten.count 10) tln' #[] n' ++ [(tl, W.listOf tv'.toArray tn')]) ++ [(84, tabObj ps)])).map (fun x : Addr × Obj => x.1)) from hm)
      exact eq ▸ hne q' hq'), _, tp4, tln4, n4, tv4, tn4, em _ rfl, rfl, hT4⟩
  · clear F2 N2 hr hk2
    rintro m₁ nx h tk2 F2 N2 ⟨r', tp', tln', n', tv', tn', rfl, rfl, hT⟩
    have eW : WL.take (offs PW PW.length) = WL := by
      refine List.take_of_length_le ?_
      rw [offs_all, hWL, List.length_zipWith, List.length_map]
      unfold valsL
      rw [List.length_map, List.length_range, hms]
      exact Nat.min_le_left _ _
    rw [eW] at N2
    have N3 : News g L' h ([(wl, W.listOf wv.toArray kw), (zl, W.listOf zv.toArray kz), (pw, W.listOf pv.toArray 0), (L' + 1 + 1 + 1 + 1, oP), (L' + 1 + 1 + 1, oT), (L' + 1 + 1, oS)] ++ (lexL w a WL.flatten.length tp' (1 + WL.flatten.count 10) tln' #[] n' ++ [(tl, W.listOf tv'.toArray tn'), (84, tabObj ps)])) := N2
    have lo : ∀ b, @LT.lt Nat _ b a.ct → b ∉ (lexL w a 0 0 0 0 #[] 0).map (·.1) := fun b hb hm => Nat.lt_irrefl _ (Nat.lt_of_lt_of_le hb (lex_ge hok b hm))
    have N4 := lex_pair N3
    clear N2
    try dsimp only
    try k_fold
    walk_at "mine on"
    refine go (does_use (get_eof w WL.flatten a hok hR tp' (1 + WL.flatten.count 10) tln' n' _) B F2 X N3 T rfl rfl rfl rfl (Nat.le_of_ble_eq_true rfl) (Nat.le_of_ble_eq_true rfl) (fun q hq => List.mem_append_right _ (List.mem_append_left _ hq)) ?_)
    rintro v h5 tk5 rel' F5 N5 G5 ⟨u1, tp5, tln5, rfl, rfl⟩
    replace N5 := news_call N3 N5 G5 (fun q hq => by
        simp only [List.mem_cons, List.not_mem_nil, or_false] at hq
        rcases hq with rfl | rfl | rfl | rfl | rfl | rfl
        · exact lo _ f1
        · exact lo _ f2
        · exact lo _ f3
        · exact lo _ f4
        · exact lo _ (Nat.lt_trans (Nat.lt_succ_self _) f4)
        · exact lo _ (Nat.lt_trans (Nat.lt_succ_self _) (Nat.lt_trans (Nat.lt_succ_self _) f4))) (fun q hq => by
        simp only [List.mem_cons, List.not_mem_nil, or_false] at hq
        rcases hq with rfl | rfl
        · exact fun hm => Nat.lt_irrefl _ (lex_lt hok f5 tl hm)
        · exact lo _ (by unfold LexA.ok at hok; exact hok.1))
    have N6 := lex_pair2 (y := (84, tabObj ps)) N5 (List.mem_append_right _ (List.mem_append_right _ (.tail _ (.head _))))
    clear N5
    try dsimp only
    walk_at "mine on"
    rename_i lp h6 F7 N7 l7
    refine go (eq_intsK (vs := []) (us := []) (ns := []) (ms := []) (lo_isList (items := #[]) (n := n') N7 (by repeat (first | exact .head _ | refine .tail _ ?_))) .nil (lo_isList N7 (.head _)) .nil (Nat.le_of_ble_eq_true rfl) ?_)
    rw [show decide (([] : List Int) = []) = true from rfl]
    exact hfin h6 _ _ ps [] F7 (fun q hq => by
      rw [List.mem_singleton.mp hq]
      exact N7 _ (by repeat (first | exact .head _ | refine .tail _ ?_)))
end
section
open PySem PySem.W PySem.Calls PyProof.Rows PySem.Spec
set_option Elab.async false
set_option maxRecDepth 100000
set_option maxHeartbeats 800000
theorem freshL3 : True := by
  w_top off
  exact True.intro
local macro_rules | `(tactic| walk_at $k:str) => if keyIn k ["binaryOp Pow int int", "execs cons For cons", "subscriptTail Name Slice ref ref", "call builtin:sum"] then `(tactic| refine stop ?_) else Lean.Macro.throwUnsupported
theorem perm5 {g h : Heap} {L tl : Addr} {x y : Addr × Obj} {lx xs : List (Addr × Obj)} {a b c d e : Tok} (N : News g L h ((tl, W.listOf #[.int 0 a, .int 0 b, .int 0 c, .int 0 d, .int 0 e] 0) :: x :: (lx ++ (y :: xs)))) :
    News g L h (xs ++ ((lx ++ [(tl, W.listOf [Value.int 0 a, .int 0 b, .int 0 c, .int 0 d, .int 0 e].toArray 0)]) ++ [y])) := fun q hq => N q (by
  rcases List.mem_append.mp hq with hq | hq
  · exact .tail _ (.tail _ (List.mem_append_right lx (.tail _ hq)))
  · rcases List.mem_append.mp hq with hq | hq
    · rcases List.mem_append.mp hq with hq | hq
      · exact .tail _ (.tail _ (List.mem_append_left _ hq))
      · rw [List.mem_singleton.mp hq]; exact .head _
    · rw [List.mem_singleton.mp hq]; exact .tail _ (.tail _ (List.mem_append_right lx (.head _))))
theorem law_walk3 (w : World) (fa : Addr) (cd : Value) : BodyOf (hd.heap_39 w.params) 111 fun qual body scope =>
    ∀ (p : Program) (loose : List Str) (mean : ExcName → Option Value) (mg mb : Str → Option Value) (base g h₁ : Heap) (L' : Addr) (s : Shared) (tk : Nat) (Q : Flow → Shared → Prop)
      (wl zl pw : Addr) (oP oT oS oD : Obj) (pv zv wv : List Value) (kw kz : Nat) (PW : List Nat) (st sp wd : Nat) (tS tT tW : Tok) (ms : List Nat) (r : List (PySem.Str × Option Value)),
      Fr g L' h₁ (mp (("width", some (.int wd tW)) :: ("words", some (.ref wl)) :: ("sizes", some (.ref zl)) :: r)) →
      News g L' h₁ [(wl, W.listOf wv.toArray kw), (zl, W.listOf zv.toArray kz), (pw, W.listOf pv.toArray 0), (L' + 1 + 1 + 1 + 1, oP), (L' + 1 + 1 + 1, oT), (L' + 1 + 1, oS), (L' + 1, oD), (84, tabObj #[])] →
      oP.data = .cell (some (.ref pw)) → oT.data = .cell (some (.int (sp : Nat) tT)) → oS.data = .cell (some (.int (st : Nat) tS)) →
      IntsAre pv (PW.map Int.ofNat) → IntsAre zv ((sizesL PW).map Int.ofNat) → ms.length = (sizesL PW).sum → (∀ m ∈ ms, m < 12) → StrsAre wv ((List.zipWith wtn ((valsL st sp (sizesL PW).sum).map apL) ms).map S) →
      Pw PW → st < 65536 → sp < 65536 → WOk st sp wd →
      @Ne Nat wl 84 → @Ne Nat zl 84 → @Ne Nat pw 84 →
      Below callerA base [] g → (hd.heap_39 w.params).In g → Top p loose mean mg mb g → @LT.lt Nat _ 84 L' →
      (∀ h' tk' m' ps nx, Fr g L' h' m' → News g L' h' ((84, tabObj ps) :: nx) → Q (.ret (.bool true)) { s with heap := h', toks := tk' }) →
      wpAny (model (OpenLaw.row PySem.Challenge.rw_ty0003_01).toRowW.prog w) (callerA.deeper (envOfC qual scope L' fa cd)) (execs (body.drop 9) (envOfC qual scope L' fa cd)) Q (fun _ _ => False) { s with heap := h₁, toks := tk } := by
  k_fill
  refine' BodyOf.mk2 (law_walk4 w fa cd) ?ho ?_
  case ho => k_is
  intro tl4 p loose mean mg mb base g h₁ L' s tk Q wl zl pw oP oT oS oD pv zv wv kw kz PW st sp wd tS tT tW ms r F N dP dT dS hP hZ hms hm12 hW hPw hst hsp hwd n1 n2 n3 B X T h84 hfin
  try dsimp only [List.drop]
  try k_fold
  have hwd12 : wd ≤ 12 := by rcases hwd.1 with h | h | h <;> omega
  walk_at "mine on"
  refine go (pow_natN (a := 16) rfl rfl (by decide) (by omega) fun tU => ?_)
  walk_at "mine on"
  rename Fr _ _ _ _ => F1
  rename News _ _ _ _ => N1
  have hK := sizesL_sum hPw
  have htl := tx_len (ms := ms) hst hsp hK
  refine S_join (lo_isList N1 (.head _)) hW (by omega) ?_
  intro tJ kJ
  walk_at "mine on"
  rename Fr _ _ _ _ => F2
  rename News _ _ _ _ => N2
  refine go (does_use (law_lexer w (List.zipWith wtn ((valsL st sp (sizesL PW).sum).map apL) ms).flatten _ (by omega) _) B F2 X N2 T rfl rfl rfl rfl (Nat.le_of_ble_eq_true rfl) (Nat.le_of_ble_eq_true rfl) (fun q hq => ?_) ?_)
  · rw [List.mem_singleton.mp hq]; exact .tail _ (.tail _ (.tail _ (.tail _ (.tail _ (.tail _ (.tail _ (.head _)))))))
  rintro v h5 tk5 rel' F5 N5 G5 ⟨Dt, a, tp, tln, ps, rfl, rfl, hok, hDt, hR, hfr⟩
  have N6 := news_after N2 N5 G5 [(wl, W.listOf wv.toArray kw), (zl, W.listOf zv.toArray kz), (pw, W.listOf pv.toArray 0), (L' + 1 + 1 + 1 + 1, oP), (L' + 1 + 1 + 1, oT), (L' + 1 + 1, oS)] (fun q hq => by
      simp only [List.mem_cons, List.not_mem_nil, or_false] at hq
      rcases hq with rfl | rfl | rfl | rfl | rfl | rfl <;> simp) (by
    intro q hq
    simp only [List.mem_cons, List.not_mem_nil, or_false] at hq
    simp only [List.map_cons, List.map_nil, List.mem_singleton]
    have h84' : @LT.lt Nat _ 84 L' := h84
    rcases hq with rfl | rfl | rfl | rfl | rfl | rfl
    · exact n1
    · exact n2
    · exact n3
    · exact Nat.ne_of_gt (Nat.lt_add_right 4 h84')
    · exact Nat.ne_of_gt (Nat.lt_add_right 3 h84')
    · exact Nat.ne_of_gt (Nat.lt_add_right 2 h84'))
  have f1 : @LT.lt Nat _ wl a.ct := Nat.lt_trans (Heap.lt_size (N2 _ (.head _)).1) hfr
  have f2 : @LT.lt Nat _ zl a.ct := Nat.lt_trans (Heap.lt_size (N2 _ (.tail _ (.head _))).1) hfr
  have f3 : @LT.lt Nat _ pw a.ct := Nat.lt_trans (Heap.lt_size (N2 _ (.tail _ (.tail _ (.head _)))).1) hfr
  have f4 : @LT.lt Nat _ (L' + 1 + 1 + 1 + 1) a.ct := Nat.lt_trans (Heap.lt_size (N2 _ (.tail _ (.tail _ (.tail _ (.head _))))).1) hfr
  clear N2 G5 N5 F2
  have N7 := N6
  try dsimp only [List.cons_append, List.nil_append] at N7
  try dsimp only
  walk_at "mine on"
  rename Fr _ _ _ _ => F8
  rename News _ _ _ _ => N8
  rename _ ∧ _ => l8
  rename Addr => tl
  refine go (tl4 p loose mean mg mb base g _ L' s _ Q wl zl pw tl a oP oT oS pv zv wv _ kw kz 0 PW st sp wd tS tT tW tU tp tln ms ps r F8 (perm5 (lx := lexL w a 0 tp 1 tln #[] 0) N8) dP dT dS hP hZ hms hm12 hW (.cons _ _ (.cons _ _ (.cons _ _ (.cons _ _ (.cons _ _ .nil))))) hPw hst hsp hwd (plain_law hPw hst hsp hwd) hok hR f1 f2 f3 f4 l8.2.1 B X T h84 hfin)
end
section
open PySem PySem.W PySem.Calls PyProof.Rows PySem.Spec
set_option Elab.async false
set_option maxRecDepth 100000
set_option maxHeartbeats 800000
local macro_rules | `(tactic| walk_at "idle 0") => `(tactic| skip)
theorem freshL2b : True := by
  w_top off
  exact True.intro
local macro_rules | `(tactic| walk_at $k:str) => if keyIn k ["execs cons Assign cons", "subscriptTail Name Slice ref ref", "call builtin:sum"] then `(tactic| refine stop ?_) else Lean.Macro.throwUnsupported
theorem wd9 {st sp : Nat} (h1 : st < 65536) (h2 : sp < 65536) : 128 * (st + 4 * sp) < 16 ^ 9 := by
  have : (16 : Nat) ^ 9 = 68719476736 := by decide
  omega
theorem law_walk2b (w : World) (fa : Addr) (cd : Value) : BodyOf (hd.heap_39 w.params) 111 fun qual body scope =>
    ∀ (p : Program) (loose : List Str) (mean : ExcName → Option Value) (mg mb : Str → Option Value) (base g h₁ : Heap) (L' : Addr) (s : Shared) (tk : Nat) (Q : Flow → Shared → Prop)
      (wl zl pw : Addr) (oP oT oS oD : Obj) (pv zv wv : List Value) (kw kz : Nat) (PW : List Nat) (st sp : Nat) (tS tT tW : Tok) (ms : List Nat) (r : List (PySem.Str × Option Value)),
      Fr g L' h₁ (mp (("width", some (.int 3 tW)) :: ("words", some (.ref wl)) :: ("sizes", some (.ref zl)) :: r)) →
      News g L' h₁ [(wl, W.listOf wv.toArray kw), (zl, W.listOf zv.toArray kz), (pw, W.listOf pv.toArray 0), (L' + 1 + 1 + 1 + 1, oP), (L' + 1 + 1 + 1, oT), (L' + 1 + 1, oS), (L' + 1, oD), (84, tabObj #[])] →
      oP.data = .cell (some (.ref pw)) → oT.data = .cell (some (.int (sp : Nat) tT)) → oS.data = .cell (some (.int (st : Nat) tS)) →
      IntsAre pv (PW.map Int.ofNat) → IntsAre zv ((sizesL PW).map Int.ofNat) → ms.length = (sizesL PW).sum → (∀ m ∈ ms, m < 12) → StrsAre wv ((List.zipWith wtn ((valsL st sp (sizesL PW).sum).map apL) ms).map S) →
      Pw PW → st < 65536 → sp < 65536 →
      @Ne Nat wl 84 → @Ne Nat zl 84 → @Ne Nat pw 84 →
      Below callerA base [] g → (hd.heap_39 w.params).In g → Top p loose mean mg mb g → @LT.lt Nat _ 84 L' →
      (∀ h' tk' m' ps nx, Fr g L' h' m' → News g L' h' ((84, tabObj ps) :: nx) → Q (.ret (.bool true)) { s with heap := h', toks := tk' }) →
      wpAny (model (OpenLaw.row PySem.Challenge.rw_ty0003_01).toRowW.prog w) (callerA.deeper (envOfC qual scope L' fa cd)) (execs (body.drop 8) (envOfC qual scope L' fa cd)) Q (fun _ _ => False) { s with heap := h₁, toks := tk } := by
  k_fill
  refine' BodyOf.mk2 (law_walk3 w fa cd) ?ho ?_
  case ho => k_is
  intro tl p loose mean mg mb base g h₁ L' s tk Q wl zl pw oP oT oS oD pv zv wv kw kz PW st sp tS tT tW ms r F N dP dT dS hP hZ hms hm12 hW hPw hst hsp n1 n2 n3 B X T h84 hfin
  try dsimp only [List.drop]
  try k_fold
  walk_at "mine on"
  obtain ⟨R, hR⟩ : ∃ R, R = [(wl, W.listOf wv.toArray kw), (zl, W.listOf zv.toArray kz), (pw, W.listOf pv.toArray 0), (L' + 1 + 1 + 1 + 1, oP), (L' + 1 + 1 + 1, oT), (L' + 1 + 1, oS), (L' + 1, oD), (84, tabObj #[])] := ⟨_, rfl⟩
  have N0 : News g L' h₁ ((L' + 1 + 1 + 1, oT) :: (L' + 1 + 1, oS) :: R) := news_pick (xs := [(L' + 1 + 1 + 1, oT), (L' + 1 + 1, oS)]) N hR (by
    intro q hq
    rcases List.mem_cons.mp hq with rfl | hq
    · exact .tail _ (.tail _ (.tail _ (.tail _ (.head _))))
    · rw [List.mem_singleton.mp hq]
      exact .tail _ (.tail _ (.tail _ (.tail _ (.tail _ (.head _))))))
  refine go (While_inv2 (fun kk m nx => nx = (L' + 1 + 1 + 1, oT) :: (L' + 1 + 1, oS) :: R ∧
    ∃ (wd : Nat) (tW : Tok) (r : List (PySem.Str × Option Value)), (wd = 3 ∨ wd = 6 ∨ wd = 9) ∧ kk = 9 - wd ∧ m = mp (("width", some (.int wd tW)) :: ("words", some (.ref wl)) :: ("sizes", some (.ref zl)) :: r)) F N0 (n₀ := 6) ⟨rfl, 3, _, _, .inl rfl, rfl, rfl⟩ ?_)
  rintro kk m₁ nx h8 tk8 F1 N1 ⟨rfl, wd, tW, r, hwd, rfl, rfl⟩
  clear F N N0
  rcases hwd with rfl | rfl | rfl
  · replace F1 : Fr g L' h8 (mp (("width", some (.int 3 tW)) :: ("words", some (.ref wl)) :: ("sizes", some (.ref zl)) :: r)) := F1
    have e9 : (16 : Int) ^ Int.toNat 3 = 4096 := by decide
    try dsimp only
    try k_fold
    walk_at "mine on"
    · rename _ ≤ _ => hc
      rw [e9] at hc
      rename Fr _ _ _ _ => F2
      rename News _ _ _ _ => N2
      exact ⟨_, _, _, _, 9 - 6, rfl, fr_put F2, N2, by decide, rfl, 6, _, r, .inr (.inl rfl), rfl, rfl⟩
    · rename ¬ (_ ≤ _) => hc
      exact go (tl p loose mean mg mb base g _ L' s _ Q wl zl pw oP oT oS oD pv zv wv kw kz PW st sp 3 tS tT tW ms r F1 (fun q hq => N1 q (.tail _ (.tail _ (hR ▸ hq)))) dP dT dS hP hZ hms hm12 hW hPw hst hsp ⟨.inl rfl, by rw [e9] at hc; omega⟩ n1 n2 n3 B X T h84 hfin)
  · replace F1 : Fr g L' h8 (mp (("width", some (.int 6 tW)) :: ("words", some (.ref wl)) :: ("sizes", some (.ref zl)) :: r)) := F1
    have e9 : (16 : Int) ^ Int.toNat 6 = 16777216 := by decide
    try dsimp only
    try k_fold
    walk_at "mine on"
    · rename _ ≤ _ => hc
      rw [e9] at hc
      rename Fr _ _ _ _ => F2
      rename News _ _ _ _ => N2
      exact ⟨_, _, _, _, 9 - 9, rfl, fr_put F2, N2, by decide, rfl, 9, _, r, .inr (.inr rfl), rfl, rfl⟩
    · rename ¬ (_ ≤ _) => hc
      exact go (tl p loose mean mg mb base g _ L' s _ Q wl zl pw oP oT oS oD pv zv wv kw kz PW st sp 6 tS tT tW ms r F1 (fun q hq => N1 q (.tail _ (.tail _ (hR ▸ hq)))) dP dT dS hP hZ hms hm12 hW hPw hst hsp ⟨.inr (.inl rfl), by rw [e9] at hc; omega⟩ n1 n2 n3 B X T h84 hfin)
  · replace F1 : Fr g L' h8 (mp (("width", some (.int 9 tW)) :: ("words", some (.ref wl)) :: ("sizes", some (.ref zl)) :: r)) := F1
    have e9 : (16 : Int) ^ Int.toNat 9 = 68719476736 := by decide
    try dsimp only
    try k_fold
    walk_at "mine on"
    exact go (tl p loose mean mg mb base g _ L' s _ Q wl zl pw oP oT oS oD pv zv wv kw kz PW st sp 9 tS tT tW ms r F1 (fun q hq => N1 q (.tail _ (.tail _ (hR ▸ hq)))) dP dT dS hP hZ hms hm12 hW hPw hst hsp ⟨.inr (.inr rfl), wd9 hst hsp⟩ n1 n2 n3 B X T h84 hfin)
end
section
open PySem PySem.W PySem.Calls PyProof.Rows PySem.Spec
set_option Elab.async false
set_option maxRecDepth 100000
set_option maxHeartbeats 800000
theorem freshL2 : True := by
  w_top off
  exact True.intro
local macro_rules | `(tactic| walk_at $k:str) => if keyIn k ["execs cons While cons", "subscriptTail Name Slice ref ref", "call builtin:sum"] then `(tactic| refine stop ?_) else Lean.Macro.throwUnsupported
/-- while sizes, words are made -/
inductive SizesAt (PW : List Nat) (led : List (Addr × Obj)) (i : Nat) (ys : List Value) (nx : List (Addr × Obj)) : Prop
  | mk (hn : nx = led) (hy : IntsAre ys (((sizesL PW).take i).map Int.ofNat)) : SizesAt PW led i ys nx
inductive WordsAt (st sp : Nat) (led : List (Addr × Obj)) (i : Nat) (zs : List Value) (nx : List (Addr × Obj)) : Prop
  | mk (hn : nx = led) (ms : List Nat) (hms : ms.length = i) (hm : ∀ m ∈ ms, m < 12) (hz : StrsAre zs ((List.zipWith wtn ((List.range i).map fun n => apL (st + n * sp)) ms).map S)) : WordsAt st sp led i zs nx
theorem news_ahead {h₀ h : Heap} {L : Addr} {l xs : List (Addr × Obj)} (N : News h₀ L h l) (hx : ∀ q ∈ xs, q ∈ l) : News h₀ L h (xs ++ l) := fun q hq => by
  rcases List.mem_append.mp hq with hq | hq
  · exact N q (hx q hq)
  · exact N q hq
theorem law_walk2 (w : World) (fa : Addr) (cd : Value) : BodyOf (hd.heap_39 w.params) 111 fun qual body scope =>
    ∀ (p : Program) (loose : List Str) (mean : ExcName → Option Value) (mg mb : Str → Option Value) (base g h₁ : Heap) (L' : Addr) (s : Shared) (tk : Nat) (Q : Flow → Shared → Prop)
      (sc ld pw : Addr) (oP oT oS oD : Obj) (pv : List Value) (PW : List Nat) (st sp : Nat) (tS tT : Tok) (x0 x1 x2 x3 x4 x5 : Int) (t0 t1 t2 t3 t4 t5 : Tok) (dn : Nat),
      Fr g L' h₁ (mp [("script", some (.ref sc))]) →
      News g L' h₁ [(pw, W.listOf pv.toArray 0), (ld, W.listOf #[.int x0 t0, .int x1 t1, .int x2 t2, .int x3 t3, .int x4 t4, .int x5 t5] dn), (L' + 1 + 1 + 1 + 1, oP), (L' + 1 + 1 + 1, oT), (L' + 1 + 1, oS), (L' + 1, oD), (84, tabObj #[])] →
      oP.data = .cell (some (.ref pw)) → oT.data = .cell (some (.int (sp : Nat) tT)) → oS.data = .cell (some (.int (st : Nat) tS)) → oD.data = .cell (some (.ref ld)) →
      IntsAre pv (PW.map Int.ofNat) → Pw PW → st < 65536 → sp < 65536 → @LT.lt Nat _ (L' + 1 + 1 + 1 + 1) ld → @LT.lt Nat _ ld pw →
      Below callerA base [] g → (hd.heap_39 w.params).In g → Top p loose mean mg mb g → @LT.lt Nat _ 84 L' →
      (∀ h' tk' m' ps nx, Fr g L' h' m' → News g L' h' ((84, tabObj ps) :: nx) → Q (.ret (.bool true)) { s with heap := h', toks := tk' }) →
      wpAny (model (OpenLaw.row PySem.Challenge.rw_ty0003_01).toRowW.prog w) (callerA.deeper (envOfC qual scope L' fa cd)) (execs (body.drop 5) (envOfC qual scope L' fa cd)) Q (fun _ _ => False) { s with heap := h₁, toks := tk } := by
  k_fill
  refine' BodyOf.mk2 (law_walk2b w fa cd) ?ho ?_
  case ho => k_is
  intro tl p loose mean mg mb base g h₁ L' s tk Q sc ld pw oP oT oS oD pv PW st sp tS tT x0 x1 x2 x3 x4 x5 t0 t1 t2 t3 t4 t5 dn F N dP dT dS dD hP hPw hst hsp l1 l2 B X T h84 hfin
  obtain ⟨R, hR⟩ : ∃ R, R = [(pw, W.listOf pv.toArray 0), (ld, W.listOf #[.int x0 t0, .int x1 t1, .int x2 t2, .int x3 t3, .int x4 t4, .int x5 t5] dn), (L' + 1 + 1 + 1 + 1, oP), (L' + 1 + 1 + 1, oT), (L' + 1 + 1, oS), (L' + 1, oD), (84, tabObj #[])] := ⟨_, rfl⟩
  rw [← hR] at N
  have xP : ∀ q ∈ [(pw, W.listOf pv.toArray 0), (L' + 1 + 1 + 1 + 1, oP)], q ∈ R := fun q hq => by
    rw [hR]
    rcases List.mem_cons.mp hq with rfl | hq
    · exact .head _
    · rw [List.mem_singleton.mp hq]; exact .tail _ (.tail _ (.head _))
  have xS : ∀ q ∈ [(ld, W.listOf #[.int x0 t0, .int x1 t1, .int x2 t2, .int x3 t3, .int x4 t4, .int x5 t5] dn), (L' + 1 + 1 + 1, oT), (L' + 1 + 1, oS), (L' + 1, oD)], q ∈ R := fun q hq => by
    rw [hR]
    rcases List.mem_cons.mp hq with rfl | hq
    · exact .tail _ (.head _)
    · exact .tail _ (.tail _ (.tail _ (List.mem_append_left [(84, tabObj #[])] hq)))
  have N0 := news_ahead N xP
  dsimp only [List.cons_append, List.nil_append] at N0
  try dsimp only [List.drop]
  try k_fold
  walk_at "mine on"
  have hpl := Pw_len hPw
  have hpvl : pv.length = PW.length := by rw [hP.length, List.length_map]
  refine go (assign_comp_range (h₀ := g) (L := L') (cl := [("powers", L' + 1 + 1 + 1 + 1)]) PW.length
    (SizesAt PW R)
    (R.map (·.1)) rfl rfl (by decide) rfl (by decide) rfl rfl rfl rfl rfl (by omega) ?_ ?_)
  · rintro i ys nx ⟨rfl, -⟩
    rfl
  refine stopQ ?_
  walk_at "mine on"
  rename IsRange _ _ _ _ _ _ _ _ => hr
  rename Fr _ _ _ _ => F1
  rename News _ _ _ _ => N1
  rw [List.length_map] at hr
  refine go ⟨_, _, _, _, _, _, rfl, hr, F1, (fun q hq => N1 q (.tail _ (.tail _ hq))), ⟨rfl, .nil⟩, ?_, ?_⟩
  · rintro i ys nx h tk C mC hi hys ⟨rfl, hy⟩ F2 N2 hC ⟨tn, hCx⟩
    have N3 := news_ahead (news_allOf N2) (fun q hq => List.mem_append_left _ (xP q hq))
    have hkp := F2.keep
    have cE' := InElt.start h
    dsimp only [List.cons_append, List.nil_append] at N3
    clear N1 F1
    try dsimp only
    walk_at "mine on"
    refine go (lo_cut (k := (i : Int) + 1) F2 N3 (.head _) (by omega) (by omega) ?_ (by with_unfolding_all rfl) (by intro _; with_unfolding_all rfl))
    intro D2 h2 F3 N4 l3
    have e1 : ((i : Int) + 1).toNat = i + 1 := by omega
    rw [e1] at N4
    try dsimp only
    walk_at "mine on"
    refine go (LSm.sum_ints F3 N4 rfl (lo_isList N4 (.head _)) (IntsAre.take hP (i + 1)) ?_)
    intro h3 tk3 tq3 F4 N5
    rw [← List.map_take, sum_ofNat]
    refine ⟨h3, tk3, _, rfl, F4, fun q hq => N5 q (.tail _ (.tail _ (.tail _ (List.mem_append_left (allOf g L' h) hq)))), ⟨rfl, ?_⟩, gsub_allOf F4 N5 (fun q hq => .tail _ (.tail _ (.tail _ (List.mem_append_right _ hq)))) hkp _⟩
    rw [sizesL_take _ _ hi, List.map_append]
    exact hy.append (.cons _ _ .nil)
  · rintro D k ys nx h tk F2 N2 hD hys ⟨rfl, hy⟩
    clear N1 F1
    rw [List.take_of_length_le (by rw [sizesL_len]; exact Nat.le_refl _)] at hy
    have hK := sizesL_sum hPw
    walk_at "mine on"
    refine go (assign_comp_range (h₀ := g) (L := L') (cl := [("step", L' + 1 + 1 + 1), ("start", L' + 1 + 1), ("drawn", L' + 1)]) (sizesL PW).sum
      (WordsAt st sp ((D, W.listOf ys.toArray k) :: nx))
      (D :: nx.map (·.1)) rfl rfl (by decide) rfl (by decide) rfl rfl rfl rfl rfl (by omega) ?_ ?_)
    · rintro i ys nx ⟨rfl, -⟩
      rfl
    refine stopQ ?_
    walk_at "mine on"
    refine go (LSm.sum_ints F2 N2 rfl (lo_isList N2 (.head _)) hy ?_)
    intro h3 tk3 tq3 F3 N3
    rw [sum_ofNat]
    walk_at "mine on"
    rename IsRange _ _ _ _ _ _ _ _ => hr
    rename Fr _ _ _ _ => F4
    rename News _ _ _ _ => N4
    clear F2 N2
    refine go ⟨_, _, _, _, _, _, rfl, hr, F4, N4, ⟨rfl, [], rfl, (fun _ h => nomatch h), .nil⟩, ?_, ?_⟩
    · rintro i zs nx h tk C mC hi hzs ⟨rfl, ms, hms, hm12, hz⟩ F2 N2 hC ⟨tn, hCx⟩
      have N3 := news_ahead (news_allOf N2) (fun q hq => List.mem_append_left _ (.tail _ (xS q hq)))
      have hkp := F2.keep
      have cE' := InElt.start h
      dsimp only [List.cons_append, List.nil_append] at N3
      clear F4 N4
      try dsimp only
      walk_at "mine on"
      have hisp : i * sp ≤ 20 * 65536 := Nat.mul_le_mul (by omega) (by omega)
      have hap : st + i * sp < 16 ^ 100 := Nat.lt_of_le_of_lt (show st + i * sp ≤ 2000000 by omega) (by decide +kernel)
      have en : (-((st : Int) + (i : Int) * (sp : Int))).natAbs = st + i * sp := by
        rw [← Int.natCast_mul, ← Int.natCast_add, Int.natAbs_neg, Int.natAbs_natCast]
      refine go (does_use (int2ap w (-((st : Int) + (i : Int) * (sp : Int))) _ _ (by rw [en]; exact hap)) B F2 X News.nil T rfl rfl rfl rfl (Nat.le_of_ble_eq_true rfl) (Nat.le_of_ble_eq_true rfl) (fun q hq => hq) ?_)
      rintro v h6 tk6 rel' F6 N6 G6 ⟨rfl, t6, rfl⟩
      rw [en]
      replace N6 := news_all N3 G6
      have hk6 : ∀ b o, h.get? b = some o → h6.get? b = some o := fun b o e => G6 b o e (fun hm => nomatch hm)
      have hC6 := hC.at' (hk6 C)
      clear hC
      walk_at "mine on"
      refine go (does_use (law_writtenZ w (apL (st + i * sp)) _ _ _ (apL_in _) (Nat.le_trans (apL_len 100 _ hap) (by decide)) _) B F6 X News.nil T rfl rfl rfl rfl (Nat.le_of_ble_eq_true rfl) (Nat.le_of_ble_eq_true rfl) (fun q hq => hq) ?_)
      rintro v h7 tk7 rel' F7 N7 G7 ⟨rfl, mn, t7, hmn, rfl⟩
      replace N7 := news_all N6 G7
      refine ⟨h7, tk7, _, rfl, F7, fun q hq => N7 q (.tail _ (.tail _ (.tail _ (.tail _ (List.mem_append_left (allOf g L' h) hq))))), ⟨rfl, ms ++ [mn], ?_, ?_, ?_⟩, gsub_allOf F7 N7 (fun q hq => .tail _ (.tail _ (.tail _ (.tail _ (.tail _ (List.mem_append_right _ hq)))))) hkp _⟩
      · rw [List.length_append, hms]; rfl
      · intro m hm
        rcases List.mem_append.mp hm with hm | hm
        · exact hm12 m hm
        · rw [List.mem_singleton.mp hm]; exact hmn
      · rw [List.range_succ, List.map_append, List.map_singleton, zip_snoc (by rw [List.length_map, List.length_range, hms]), List.map_append]
        exact hz.append' (.cons _ _ .nil)
    · rintro D2 k2 zs nx h tk F2 N2 hD2 hzs ⟨rfl, ms, hms, hm12, hz⟩
      clear F4 N4
      walk_at "mine on"
      rename Fr _ _ _ _ => F1
      rename News _ _ _ _ => N1
      clear xP xS
      subst hR
      have hD' := hD
      have hD2' := hD2
      simp only [List.map_cons, List.map_nil, List.mem_cons, List.not_mem_nil, or_false, not_or] at hD' hD2'
      exact go (tl p loose mean mg mb base g _ L' s _ Q D2 D pw oP oT oS oD pv ys zs k2 k PW st sp tS tT _ ms _ F1 (drop4 N1) dP dT dS hP hy hms hm12 (by rw [valsL_ap]; exact hz) hPw hst hsp hD2'.2.2.2.2.2.2.2 hD'.2.2.2.2.2.2 (Nat.ne_of_gt (Nat.lt_trans (Nat.lt_trans (Nat.lt_add_of_pos_right (k := 4) (by decide)) l1) l2 |> Nat.lt_trans h84)) B X T h84 hfin)
end
section
open PySem PySem.W PySem.Calls PyProof.Rows PySem.Spec
set_option Elab.async false
set_option maxRecDepth 100000
set_option maxHeartbeats 800000
local macro_rules | `(tactic| walk_at "idle 0") => `(tactic| skip)
theorem freshL1 : True := by
  w_top off
  exact True.intro
local macro_rules | `(tactic| walk_at $k:str) => if keyIn k ["subscriptTail Name Slice ref ref", "binaryOp Add ref ref", "binaryOp Pow int int", "binaryOp FloorDiv int int"] then `(tactic| refine stop ?_) else Lean.Macro.throwUnsupported
theorem drop2 {h₀ h : Heap} {L : Addr} {a b : Addr × Obj} {r : List (Addr × Obj)} (N : News h₀ L h (a :: b :: r)) : News h₀ L h (a :: r) := fun q hq => by
  rcases List.mem_cons.mp hq with rfl | hq
  · exact N _ (.head _)
  · exact N _ (.tail _ (.tail _ hq))
theorem pw_ints (p0 b0 b1 b2 : Nat) (t u0 u1 u2 : Tok) (k : Nat) : IntsAre (([Value.int ((1 + p0 : Nat) : Int) t] ++ [Value.int (b0 : Int) u0, Value.int (b1 : Int) u1, Value.int (b2 : Int) u2]).take k) (([1 + p0, b0, b1, b2].take k).map Int.ofNat) := by
  rw [List.map_take]
  exact IntsAre.take (.cons _ _ (.cons _ _ (.cons _ _ (.cons _ _ .nil)))) k
theorem fmod_nat (x : Int) : Int.fmod x 65536 = (((x % 65536).toNat : Nat) : Int) := by
  rw [Int.fmod_eq_emod_of_nonneg _ (by decide)]; exact (emod_nat x (by decide)).symm
theorem law_walk (w : World) (fa : Addr) (cd : Value) (sc : Addr) (vs : List Value) (ns : List Int) (hI : IntsAre vs ns) (hn : ns.length ≤ 100) : BodyOf (hd.heap_39 w.params) 111 fun qual body scope =>
    ∀ (p : Program) (loose : List Str) (mean : ExcName → Option Value) (mg mb : Str → Option Value) (base g h₁ : Heap) (L' : Addr) (s : Shared) (tk : Nat) (cells : List (Addr × Obj)) (Q : Flow → Shared → Prop),
      Fr g L' h₁ (mp [("script", some (.ref sc))]) → News g L' h₁ (cells ++ [(84, tabObj #[])]) → CellsAre (fun _ => none) (cellsFrom (L' + 1) scope.names []) cells →
      Below callerA base [] g → (hd.heap_39 w.params).In g → Top p loose mean mg mb g → g.IsList sc vs.toArray → @LT.lt Nat _ 84 L' →
      (∀ h' tk' m' ps nx, Fr g L' h' m' → News g L' h' ((84, tabObj ps) :: nx) → Q (.ret (.bool true)) { s with heap := h', toks := tk' }) →
      wpAny (model (OpenLaw.row PySem.Challenge.rw_ty0003_01).toRowW.prog w) (callerA.deeper (envOfC qual scope L' fa cd)) (execs body (envOfC qual scope L' fa cd)) Q (fun _ _ => False) { s with heap := h₁, toks := tk } := by
  k_fill
  refine' BodyOf.mk2 (law_walk2 w fa cd) ?ho ?_
  case ho => k_is
  intro tl p loose mean mg mb base g h₁ L' s tk cells Q F N Y B X T hLs h84 hfin
  obtain ⟨o1, o2, o3, o4, rfl, d1, d2, d3, d4⟩ := CellsAre.four Y
  clear Y
  try dsimp only
  try k_fold
  dsimp only [List.cons_append, List.nil_append] at N
  refine wpAny_noRaise ?_
  walk_at "mine on"
  rename_i ld h2 F1 N1 l1
  refine go (does_use (law_drawn w sc ld vs [.int 1 _, .int 1 _, .int 0 _, .int 7 _, .int 0 _, .int 5 _] ns [1, 1, 0, 7, 0, 5] 0 hI (.cons _ _ (.cons _ _ (.cons _ _ (.cons _ _ (.cons _ _ (.cons _ _ .nil)))))) hn rfl _ (hLs.at fun o e => F1.keep _ o e)) B F1 X N1 T rfl rfl rfl rfl (Nat.le_of_ble_eq_true rfl) (Nat.le_of_ble_eq_true rfl) (fun q hq => List.mem_singleton.mp hq ▸ .head _) ?_)
  rintro v h5 tk5 rel' F5 N5 G5 ⟨rfl, dv, ds, dn, rfl, hD, hd6⟩
  have l84 : @Ne Nat 84 ld := Nat.ne_of_lt l1.2.2.2.2
  replace N5 := news_after N1 N5 G5 [(L' + 1 + 1 + 1 + 1, o1), (L' + 1 + 1 + 1, o2), (L' + 1 + 1, o3), (L' + 1, o4), (84, tabObj #[])] (fun q hq => .tail _ hq) (by
    intro q hq
    simp only [List.mem_cons, List.not_mem_nil, or_false] at hq
    simp only [List.map_cons, List.map_nil, List.mem_singleton]
    rcases hq with rfl | rfl | rfl | rfl | rfl
    · exact Nat.ne_of_lt l1.1
    · exact Nat.ne_of_lt l1.2.1
    · exact Nat.ne_of_lt l1.2.2.1
    · exact Nat.ne_of_lt l1.2.2.2.1
    · exact l84)
  match ds, hd6 with
  | [x0, x1, x2, x3, x4, x5], _ => ?_
  obtain ⟨t0, t1, t2, t3, t4, t5, rfl⟩ := ints6 hD
  clear hD F1 N1 G5
  dsimp only [List.cons_append, List.nil_append] at N5
  walk_at "mine on"
  rename Fr _ _ _ _ => F6
  rename News _ _ _ _ => N6
  refine go (comp_rangeP F6 N6 3 (fun _ => true) (fun _ y => ∃ (b : Nat) (t : Tok), y = .int b t ∧ b < 2) (cl := [("drawn", L' + 1)]) rfl (by decide) rfl (by decide) rfl rfl (by decide) ?_ (fun _ => rfl))
  refine stopQ ?_
  walk_at "mine on"
  rename IsRange _ _ _ _ _ _ _ _ => hr
  rename Fr _ _ _ _ => F7
  rename News _ _ _ _ => N7
  refine go ⟨_, _, _, _, rfl, hr, F7, N7, ⟨?_, ?_⟩, ?_⟩
  · intros; exact no_tests
  · rintro C j v s₃ m₃ E' hj ⟨t, rfl⟩ _ hC hns hm2 hkp
    obtain ⟨i, hi, rfl⟩ := List.mem_map.mp hj
    replace hi := List.mem_range.mp hi
    have h2 : (((2 ^ i : Nat) : Int)) ≠ 0 := Int.ofNat_ne_zero.mpr (Nat.ne_of_gt (Nat.pow_pos (by decide)))
    refine stopQ ?_
    walk_at "mine on"
    refine go (pow_natN (a := 2) (k := i) rfl rfl (by decide) (Nat.le_trans (Nat.le_of_lt hi) (by decide)) fun t2 => ?_)
    try dsimp only
    walk_at "mine on"
    refine go (floordiv_int h2 ?_ (.inl (PyProof.noPylong_of_log2 (by rw [Int.natAbs_natCast, Nat.log2_two_pow]; exact Nat.lt_trans hi (by decide)))))
    try dsimp only
    walk_at "mine on"
    exact go ⟨bit_val _ _, _, _, rfl, fun _ _ e => e⟩
  · rintro D k ⟨ys⟩ h8 tk8 F8 N8 hD8 - - hP
    rw [filter_all] at hP
    obtain ⟨y0, y1, y2, rfl, ⟨b0, u0, rfl, hb0⟩, ⟨b1, u1, rfl, hb1⟩, ⟨b2, u2, rfl, hb2⟩⟩ := paired3 hP
    clear F7 N7 hP
    walk_at "mine on"
    refine go (kmk_add_lit F8 N8 (lo_isList N8 (.tail _ (.head _))) (lo_isList N8 (.head _)) rfl ?_ (show (1 + 3 : Nat) ≤ sizeLine by decide))
    intro P0 h9 F9 N9 l9
    have e2 : (1 + Int.fmod (List.getD [x0, x1, x2, x3, x4, x5] (Int.toNat 2) 0) 3) = ((1 + (x2 % 3).toNat : Nat) : Int) := by
      rw [show List.getD [x0, x1, x2, x3, x4, x5] (Int.toNat 2) 0 = x2 from rfl, Int.fmod_eq_emod_of_nonneg _ (by decide), Int.natCast_add, emod_nat x2 (by decide)]; rfl
    have hp3 : (x2 % 3).toNat < 3 := emod_lt x2 (m := 3) (by decide)
    rw [e2] at N9
    generalize (x2 % 3).toNat = p0 at N9 hp3
    replace N9 := drop23 N9
    have l9' : @LT.lt Nat _ ld P0 := l9 (ld, _) (.tail _ (.tail _ (.head _)))
    clear F8 N8 l9
    try dsimp only
    walk_at "mine on"
    refine go (floordiv_int (by decide) ?_ (.inl (PyProof.noPylong_of_log2 (by decide +kernel))))
    try dsimp only
    walk_at "mine on"
    rename Fr _ _ _ _ => F10
    rename News _ _ _ _ => N10
    have e4 : (4 - Int.fdiv ((1 + p0 : Nat) : Int) 3) = ((if p0 = 2 then 3 else 4 : Nat) : Int) := by
      match p0, hp3 with
      | 0, _ | 1, _ | 2, _ => decide
    refine go (lo_cut (k := 4 - Int.fdiv ((1 + p0 : Nat) : Int) 3) F10 N10 (.head _) (e4 ▸ Int.natCast_nonneg _) (show (4 : Nat) ≤ 10000 by decide) ?_ (by with_unfolding_all rfl) (by intro _; with_unfolding_all rfl))
    intro pw h11 F11 N11 l11
    rw [e4, Int.toNat_natCast] at N11
    clear F10 N10
    have lpw : @LT.lt Nat _ P0 pw := l11 (P0, _) (.head _)
    try dsimp only
    walk_at "mine one"
    rename Fr _ _ _ _ => F12
    rename News _ _ _ _ => N12
    rename _ = Data.cell (some (Value.int (Int.fmod (List.getD [x0, x1, x2, x3, x4, x5] (Int.toNat 0) 0) _) _)) => hdS
    rename _ = Data.cell (some (Value.int (Int.fmod (List.getD [x0, x1, x2, x3, x4, x5] (Int.toNat 1) 0) _) _)) => hdT
    rename _ = Data.cell (some (Value.ref pw)) => hdP
    rename _ = Data.cell (some (Value.ref ld)) => hdD
    exact tl p loose mean mg mb base g _ L' s _ Q sc ld pw _ _ _ _ _ _ (x0 % 65536).toNat (x1 % 65536).toNat _ _ x0 x1 x2 x3 x4 x5 t0 t1 t2 t3 t4 t5 dn F12 (drop2 N12) hdP (hdT.trans (congrArg (fun z => Data.cell (some (Value.int z _))) (fmod_nat x1))) (hdS.trans (congrArg (fun z => Data.cell (some (Value.int z _))) (fmod_nat x0))) hdD (pw_ints p0 b0 b1 b2 _ u0 u1 u2 _) ⟨p0, b0, b1, b2, hp3, hb0, hb1, hb2, rfl⟩ (emod_lt x0 (m := 65536) (by decide)) (emod_lt x1 (m := 65536) (by decide)) l1.1 (Nat.lt_trans l9' lpw) B X T h84 hfin
end
end Mine
end
section
open PySem PySem.W PySem.Calls PyProof.Rows PySem.Spec
set_option Elab.async false
set_option maxRecDepth 100000
set_option maxHeartbeats 1000000
namespace Mine
theorem BodyOf.use {K : Frag} {f : Addr} {P : PySem.Str → List Stmt → Scope → Prop} {name qual : PySem.Str} {params : Arguments} {body : List Stmt} {scope : Scope} {dV kV doc pm cdv ct oc : Value} {an od : Option Addr} {osl : Array (Option Value)} {G : Prop}
    (D : BodyOf K f P) (ho : K.lookup f = some ⟨oc, od, .func (fnOf name qual params body scope dV kV doc pm an cdv ct), osl⟩) (h : P qual body scope → G) : G :=
  h (D _ _ _ _ _ _ _ _ _ _ _ _ _ _ _ ho)
/-- where the law ends -/
inductive LawEnd (s1 : PySem.Shared) (f : Flow) (s' : PySem.Shared) : Prop
  | mk (h' : Heap) (tk' : Nat) (m' : PySem.Str → Option Value) (ps : Array Value) (nx : List (Addr × Obj)) (ef : f = .ret (.bool true)) (es : s' = { s1 with heap := h', toks := tk' }) (F : Fr (ghostOf s1.heap [(88, 84)]) s1.heap.objs.size h' m') (N : News (ghostOf s1.heap [(88, 84)]) s1.heap.objs.size h' ((84, tabObj ps) :: nx)) : LawEnd s1 f s'
theorem top : PySem.Challenge.rw_ty0003_01.Holds := by
  refine hd ?_
  k_go0
  rename Below _ _ _ _ => Bq
  rename PyProof.Rows.Top _ _ _ _ _ _ => Tq
  rename Frag.In _ _ => Xq
  rename IntsAre _ _ => hIq
  rename PySem.World => w
  rename ¬ (_ < _) => hlen
  rename Heap.IsList _ _ _ => hLq
  rename Fr _ _ _ _ => F1
  rename News _ _ _ _ => N1
  rename CellsAre _ _ _ => Yq
  rename PySem.Shared => s1
  refine wpAny_mono (?_ : wpAny _ _ _ (LawEnd s1) (fun _ _ => False) _) ?_ ?_
  · refine' BodyOf.use (law_walk w _ _ _ _ _ hIq ?hn) ?ho ?h
    case hn => omega
    case ho => k_is
    case h =>
      intro tl
      refine' tl _ _ _ _ _ _ _ _ _ s1 _ _ _ F1 N1 Yq Bq Xq Tq hLq ?h84 ?hfin
      case h84 => assumption
      case hfin =>
        intro h' tk' m' ps nx F' N'
        exact ⟨h', tk', m', ps, nx, rfl, rfl, F', N'⟩
  · rintro f s' ⟨h', tk', m', ps, nx, rfl, rfl, F', N'⟩
    refine ⟨⟨.inl ⟨.bool true, ofPy (.bool true), [], rfl, fun _ => rfl, ?_, ?_, ?_⟩, F'.keep, rfl, by assumption⟩, ⟨ps, (N' _ (.head _)).1⟩, trivial⟩
    · constructor
    · with_unfolding_all rfl
    · intro _; exact ⟨List.nodup_nil, fun _ h => nomatch h⟩
  · intro _ _ h
    exact h.elim
end Mine
end
theorem PySem.Challenge.cw_ty0003_01_holds : PySem.Challenge.rw_ty0003_01.Holds :=
  Mine.top
