import PyProof.Rows.All
import Wide.All
import OpenK.AllK
import Wide.FinOn
import Lean
import PySem.Challenge.RW_ib0003_01
open PySem PySem.W PyProof.Rows PySem.Calls PySem.Spec
set_option Elab.async false
set_option maxRecDepth 100000

namespace Mine
set_option maxHeartbeats 8000000
open_top hd for PySem.Challenge.rw_ib0003_01
end Mine

namespace Mine
set_option maxHeartbeats 8000000
/-- the heap has only grown -/
abbrev Up (h h' : Heap) : Prop := ∀ b o, h.get? b = some o → h'.get? b = some o

section
variable {prog : Program} {w : World} {A₀ A : Around} {s : Shared} {base h₀ : Heap} {outer : List Env} {L : Addr} {m : Str → Option Value} {env : Env} {own : List (Addr × Obj)} {K : Frag} {p : Program} {loose : List Str} {mean : ExcName → Option Value} {mg mb : Str → Option Value}
  {R : Result → Shared → Prop} {name qual : Str} {params : Arguments} {body : List Stmt} {scope : Scope} {dV kV doc pm cdv ct oc : Value} {an od : Option Addr} {osl : Array (Option Value)} {f : Addr} {args : Args} {binds : List (Str × Value)}

theorem up_of {g h h' : Heap} {L' : Addr} {m' : Str → Option Value} {own news' : List (Addr × Obj)} (eg : g = hideAll h (own.map (·.1))) (hown : ∀ q ∈ own, h.get? q.1 = some q.2)
    (F' : Fr g L' h' m') (N' : News g L' h' news') (hs : ∀ q ∈ own, q ∈ news') : Up h h' := by
  intro b o e
  by_cases hb : b ∈ own.map (·.1)
  · obtain ⟨q, hq, rfl⟩ := List.mem_map.mp hb
    rw [hown q hq] at e
    cases e
    exact (N' q (hs q hq)).1
  · subst eg
    exact F'.keep b o (hideAll_get _ e hb)

theorem enterG (B : Below A₀ base outer h₀) (F : Fr h₀ L s.heap m) (X₀ : K.In h₀) (N : News h₀ L s.heap own) (T : Top p loose mean mg mb h₀) (hA : A.frames = some (env :: outer)) (hf : env.frame = some L) (hke : env.scope.kind = .function)
    (ho : K.lookup f = some ⟨oc, od, .func (fnOf name qual params body scope dV kV doc pm an cdv ct), osl⟩) (hcd : codeIn K cdv qual = true) (hroom : A.depth < recursionLimit)
    (hbind : BindsTo s (fnOf name qual params body scope dV kV doc pm an cdv ct) args binds) (hloc : ∀ y ∈ binds, scope.names.lookup y.1 = some .local)
    (h : ∀ g L' h₁, g = hideAll s.heap (own.map (·.1)) → Fr g L' h₁ (fun y => binds.reverse.lookup y) → News g L' h₁ own → Below A base (env :: outer) g → K.In g → Top p loose mean mg mb g →
      wpAny (model prog w) (A.deeper (envOf qual scope L' f cdv)) (execs body (envOf qual scope L' f cdv))
        (fun fl s' => R (.ok (.ret (match fl with | .ret v => v | _ => .none))) s') (fun _ _ => False)
        { s with heap := h₁, toks := s.toks + binds.length })
    (hco : scope.isCoroutine = false) (hgen : scope.isGenerator = false) (hk : scope.kind = .function)
    (hcell : ∀ x ∈ scope.names, x.2 ≠ .cell) : codeAny (model prog w) A (.call (.ref f) args) R s := by
  obtain ⟨_, BG, st, _⟩ := groundX (R := R) B F N hA hf hke
  refine codeAny_call_def (fd := fnX name qual params body scope [] dV kV doc pm an cdv ct) (body := body) (binds := binds) hroom ((X₀.keeps F.keep) _ _ ho) rfl (T.nolimit.keeps F.keep) (codeRec_of (X₀.keeps F.keep) hcd) rfl hbind hcell hloc (fun h₁ hns hk₁ => ?_) hco hgen hk
  exact wpAny_mono (h _ s.heap.objs.size h₁ rfl ⟨hns, fun b o e => hk₁ b o (of_hideAll _ e), Nat.le_of_eq (hideAll_size _ _)⟩
    (fun q hq => ⟨hk₁ _ _ (N q hq).1, Nat.ne_of_lt (Heap.lt_size (N q hq).1), hideAll_none _ (List.mem_map_of_mem hq)⟩) BG (X₀.keeps st) (T.keeps st)) (fun _ _ y => y) fun _ _ y => y.elim

theorem enterCG (B : Below A₀ base outer h₀) (F : Fr h₀ L s.heap m) (X₀ : K.In h₀) (N : News h₀ L s.heap own) (T : Top p loose mean mg mb h₀) (hA : A.frames = some (env :: outer)) (hf : env.frame = some L) (hke : env.scope.kind = .function)
    (ho : K.lookup f = some ⟨oc, od, .func (fnOf name qual params body scope dV kV doc pm an cdv ct), osl⟩) (hcd : codeIn K cdv qual = true) (hroom : A.depth < recursionLimit)
    (hbind : BindsTo s (fnOf name qual params body scope dV kV doc pm an cdv ct) args binds) (hkind : (binds.all fun y => scope.names.lookup y.1 == some .local || scope.names.lookup y.1 == some .cell) = true)
    (hnd : ((cellsFrom 0 scope.names []).map (·.1)).Nodup)
    (h : ∀ g L' h₁ tk cells, g = hideAll s.heap (own.map (·.1)) → Fr g L' h₁ (bindL (envOfC qual scope L' f cdv).kindOf binds fun _ => none) → News g L' h₁ (cells ++ own) →
      CellsAre (bindC (envOfC qual scope L' f cdv).kindOf binds fun _ => none) (cellsFrom (L' + 1) scope.names []) cells → Below A base (env :: outer) g → K.In g → Top p loose mean mg mb g → (∀ q ∈ own, q.1 < L') →
      wpAny (model prog w) (A.deeper (envOfC qual scope L' f cdv)) (execs body (envOfC qual scope L' f cdv))
        (fun fl s' => R (.ok (.ret (match fl with | .ret v => v | _ => .none))) s') (fun _ _ => False)
        { s with heap := h₁, toks := tk })
    (hco : scope.isCoroutine = false) (hgen : scope.isGenerator = false) (hk : scope.kind = .function) : codeAny (model prog w) A (.call (.ref f) args) R s := by
  obtain ⟨_, BG, st, _⟩ := groundX (R := R) B F N hA hf hke
  refine codeAny_call_function hroom ((X₀.keeps F.keep) _ _ ho) rfl hco hgen rfl (codeRec_of (X₀.keeps F.keep) hcd) (hbind _ _ _ _ ?_)
  refine wpAny_newFunctionEnv_cells hk ((kindsX hkind) _) fun env' he s' x => ?_
  subst he
  refine ⟨(T.nolimit.keeps F.keep).keeps x.toInCall.keep, codeAny_func ?_⟩
  obtain ⟨h₁, tk, rfl, _⟩ := x.done
  have hk₁ := x.toInCall.keep
  obtain ⟨cells, NC, Y⟩ := Cl.news (h₀ := s.heap) (Nat.le_refl _) fun n c hm => ⟨x.cell n c (lookup_of_mem_nodup (cellsFrom_names scope.names 0 (s.heap.objs.size + 1) [] [] rfl ▸ hnd) hm), x.above n c hm⟩
  refine wpAny_mono (h _ s.heap.objs.size h₁ tk cells rfl ⟨x.toInCall.ns, fun b o e => hk₁ b o (of_hideAll _ e), Nat.le_of_eq (hideAll_size _ _)⟩ (fun q hq => ?_) Y BG (X₀.keeps st) (T.keeps st) (fun q hq => Heap.lt_size (N q hq).1)) (fun _ _ y => y) fun _ _ y => y.elim
  rcases List.mem_append.mp hq with hq | hq
  · refine ⟨(NC q hq).1, (NC q hq).2.1, ?_⟩
    cases e : (hideAll s.heap (own.map (·.1))).get? q.1 with
    | none => rfl
    | some o => have := of_hideAll _ e; rw [(NC q hq).2.2] at this; cases this
  · exact ⟨hk₁ _ _ (N q hq).1, Nat.ne_of_lt (Heap.lt_size (N q hq).1), hideAll_none _ (List.mem_map_of_mem hq)⟩
end
end Mine

namespace Mine
set_option maxHeartbeats 8000000
theorem Up.refl (h : Heap) : Up h h := fun _ _ e => e
theorem Up.trans {a b c : Heap} (x : Up a b) (y : Up b c) : Up a c := fun q o e => y q o (x q o e)
theorem keeps_refl (s : Shared) : Keeps s s := ⟨s.heap, s.toks, rfl, fun _ _ e => e⟩
theorem keeps_trans {a b c : Shared} (x : Keeps a b) (y : Keeps b c) : Keeps a c := by
  obtain ⟨h1, t1, rfl, k1⟩ := x
  obtain ⟨h2, t2, rfl, k2⟩ := y
  exact ⟨h2, t2, rfl, fun q o e => k2 q o (k1 q o e)⟩
theorem keeps_mk {s : Shared} {h' : Heap} {tk : Nat} (u : Up s.heap h') : Keeps s { s with heap := h', toks := tk } := ⟨h', tk, rfl, u⟩
theorem keeps_up {s s' : Shared} (x : Keeps s s') : Up s.heap s'.heap := by obtain ⟨_, _, rfl, k⟩ := x; exact k

section
variable {prog : Program} {w : World} {A : Around} {R : Result → Shared → Prop} {E : Value → Shared → Prop} {s : Shared}

theorem compLoop_gen {elt target iter : Expr} {scope : Scope} {pos : Pos} {it acc : Value} {env : Env} (I : Nat → Shared → Prop)
    (turn : ∀ n s, I n s → wpAny (model prog w) A (pyNext it) (fun r s₁ => match r with
      | none => R (.ok .next) s₁
      | some v => wpAny (model prog w) A (letOwnedTupleGo target it v) (fun _ s₁' => wpAny (model prog w) A (assign target env v) (fun _ s₂ =>
          wpAny (model prog w) A (eval elt env) (fun x s₄ =>
              wpAny (model prog w) A (call (.builtin "list.append") [acc, x]) (fun _ s₅ => ∃ m, m < n ∧ I m s₅) (notedBy (model prog w) A env fun e s' => R (.error e) s') s₄) (notedBy (model prog w) A env fun e s' => R (.error e) s') s₂)
          (notedBy (model prog w) A env fun e s' => R (.error e) s') s₁') (notedBy (model prog w) A env fun e s' => R (.error e) s') s₁) (notedBy (model prog w) A env fun e s' => R (.error e) s') s)
    (n : Nat) (h : I n s) : codeAny (model prog w) A (.compLoop (.ListComp elt [⟨target, iter, [], 0⟩] scope pos) 0 it acc env) R s := by
  refine codeAny_loop rfl I (fun n s hI => ?_) n h
  show wpAny _ A ((compTurn (.ListComp elt [⟨target, iter, [], 0⟩] scope pos) 0 it acc env).onRaise (fun x => do noteFrame x env; theTreesLotGoes x)) _ _ s
  refine wpAny_noted ?_
  rw [compTurn_list]
  refine wpAny_bind (wpAny_standAt (wpAny_bind (wpAny_mono (turn n s hI) (fun r s₁ h₁ => ?_) fun _ _ h' => h')))
  cases r with
  | none => exact wpAny_pure h₁
  | some v =>
    refine wpAny_bind (wpAny_mono h₁ (fun _ s₁' h₁' => ?_) fun _ _ h' => h')
    refine wpAny_bind (wpAny_mono h₁' (fun _ s₂ h₂ => wpAny_bind (wpAny_mono (wpAny_tests_nil (Q := fun ok s₃ => ok = true ∧ s₃ = s₂) ⟨rfl, rfl⟩) (fun ok s₃ h₃ => ?_) fun _ _ h' => h')) fun _ _ h' => h')
    obtain ⟨rfl, rfl⟩ := h₃
    exact wpAny_bind (wpAny_bind (wpAny_mono h₂ (fun x s₄ h₄ => wpAny_bind (wpAny_mono h₄ (fun _ s₅ h₅ => wpAny_pure (wpAny_pure ⟨rfl, h₅⟩)) fun _ _ h' => h')) fun _ _ h' => h'))

theorem loopG {elt target iter : Expr} {scope : Scope} {pos : Pos} {it : Value} {cenv : Env} {D : Addr} (X : List Addr) (n : Nat) (S : Nat → Heap → Prop) (B : Nat → Heap → Prop) (T : Heap → Prop) (F : Nat → Value → Heap → Prop)
    (hsz : n ≤ sizeLine) (hDX : D ∉ X)
    (hS : ∀ i h h', S i h → (∀ b o, b ≠ D → h.get? b = some o → h'.get? b = some o) → S i h')
    (hF : ∀ i y h h', F i y h → (∀ b o, b ≠ D → b ∉ X → h.get? b = some o → h'.get? b = some o) → F i y h')
    (next : ∀ i s₁ (Q : Shared → Prop) (E' : Value → Shared → Prop), i < n → S i s₁.heap → (∀ h' tk, (∀ b o, b ∉ X → s₁.heap.get? b = some o → h'.get? b = some o) → S (i + 1) h' → B i h' → Q { s₁ with heap := h', toks := tk }) →
      wpAny (model prog w) A (pyNext it) (fun r s₂ => match r with
        | none => False
        | some v => wpAny (model prog w) A (letOwnedTupleGo target it v) (fun _ s₃ => wpAny (model prog w) A (assign target cenv v) (fun _ s₄ => Q s₄) E' s₃) E' s₂) E' s₁)
    (done : ∀ s₁ (Q : Shared → Prop) (E' : Value → Shared → Prop), S n s₁.heap → (∀ h' tk, (∀ b o, b ∉ X → s₁.heap.get? b = some o → h'.get? b = some o) → T h' → Q { s₁ with heap := h', toks := tk }) →
      wpAny (model prog w) A (pyNext it) (fun r s₂ => r = none ∧ Q s₂) E' s₁)
    (helt : ∀ i h' tk (E' : Value → Shared → Prop), i < n → S (i + 1) h' → B i h' → (∃ ys, h'.PlainList D ys) → (∀ b o, b ≠ D → b ∉ X → s.heap.get? b = some o → h'.get? b = some o) →
      wpAny (model prog w) A (eval elt cenv) (fun y s₂ => Keeps { s with heap := h', toks := tk } s₂ ∧ F i y s₂.heap) E' { s with heap := h', toks := tk })
    (hst : S 0 s.heap) (hacc : s.heap.PlainList D #[])
    (hR : ∀ h' tk ys, h'.PlainList D ys → ys.size = n → (∀ i y, ys[i]? = some y → F i y h') → T h' → (∀ b o, b ≠ D → b ∉ X → s.heap.get? b = some o → h'.get? b = some o) → R (.ok .next) { s with heap := h', toks := tk }) :
    codeAny (model prog w) A (.compLoop (.ListComp elt [⟨target, iter, [], 0⟩] scope pos) 0 it (.ref D) cenv) R s := by
  refine compLoop_gen
    (fun k s' => ∃ h' tk i ys, s' = { s with heap := h', toks := tk } ∧ S i h' ∧ h'.PlainList D ys ∧ ys.size = i ∧ i ≤ n ∧ k = n + 1 - i ∧ (∀ j y, ys[j]? = some y → F j y h') ∧
      (∀ b o, b ≠ D → b ∉ X → s.heap.get? b = some o → h'.get? b = some o)) ?_ (n + 1)
    ⟨s.heap, s.toks, 0, #[], rfl, hst, hacc, rfl, Nat.zero_le _, rfl, fun _ _ e => by simp at e, fun _ _ _ _ e => e⟩
  rintro k s' ⟨H, tk, i, ys, rfl, hSi, hl, hys, hi, rfl, hFs, hk⟩
  by_cases hlt : i < n
  · refine wpAny_mono (next i { s with heap := H, toks := tk } (fun s₄ => wpAny (model prog w) A (eval elt cenv) (fun x s₅ =>
        wpAny (model prog w) A (call (.builtin "list.append") [.ref D, x]) (fun _ s₆ => ∃ m, m < n + 1 - i ∧ ∃ h' tk i ys, s₆ = { s with heap := h', toks := tk } ∧ S i h' ∧ h'.PlainList D ys ∧ ys.size = i ∧ i ≤ n ∧ m = n + 1 - i ∧ (∀ j y, ys[j]? = some y → F j y h') ∧
          (∀ b o, b ≠ D → b ∉ X → s.heap.get? b = some o → h'.get? b = some o)) (notedBy (model prog w) A cenv fun e s' => R (.error e) s') s₅) (notedBy (model prog w) A cenv fun e s' => R (.error e) s') s₄)
      (notedBy (model prog w) A cenv fun e s' => R (.error e) s') hlt hSi fun h₁ tk₁ hk₁ hS₁ hB₁ => ?_) (fun r s₂ h₂ => ?_) fun _ _ e => e
    · have hl₁ : h₁.PlainList D ys := hl.at fun o e => hk₁ D o hDX e
      have hk₁' : ∀ b o, b ≠ D → b ∉ X → s.heap.get? b = some o → h₁.get? b = some o := fun b o h1 h2 e => hk₁ b o h2 (hk b o h1 h2 e)
      refine wpAny_mono (helt i h₁ tk₁ _ hlt hS₁ hB₁ ⟨ys, hl₁⟩ hk₁') (fun y s₅ h₅ => ?_) fun _ _ e => e
      obtain ⟨⟨h₅, tk₅, rfl, hk₅⟩, hFy⟩ := h₅
      have hl₅ : h₅.PlainList D ys := hl₁.at fun o e => hk₅ D o e
      refine wpAny_list_append_plain (hsz := by rw [hys]; exact Nat.le_trans hi hsz) hl₅ fun h₆ hl₆ hs₆ => ?_
      have hk₆ : ∀ b o, b ≠ D → h₅.get? b = some o → h₆.get? b = some o := fun b o h1 e => hs₆.extBut b o h1 e
      refine ⟨n + 1 - (i + 1), by omega, h₆, tk₅, i + 1, ys.push y, rfl, hS _ _ _ hS₁ fun b o h1 e => hk₆ b o h1 (hk₅ b o e), hl₆, by rw [Array.size_push, hys], hlt, rfl, fun j u hj => ?_, fun b o h1 h2 e => hk₆ b o h1 (hk₅ b o (hk₁' b o h1 h2 e))⟩
      rw [Array.getElem?_push] at hj
      split at hj
      · rename_i e
        cases hj
        rw [e, hys]
        exact hF _ _ _ _ hFy fun b o h1 _ e => hk₆ b o h1 e
      · exact hF _ _ _ _ (hFs j u hj) fun b o h1 h2 e => hk₆ b o h1 (hk₅ b o (hk₁ b o h2 e))
    · cases r with
      | none => exact h₂.elim
      | some v => exact h₂
  · obtain rfl : i = n := Nat.le_antisymm hi (Nat.not_lt.mp hlt)
    refine wpAny_mono (done { s with heap := H, toks := tk } (fun s₂ => R (.ok .next) s₂) _ hSi fun h₁ tk₁ hk₁ hT => ?_) (fun r s₂ h₂ => ?_) fun _ _ e => e
    · exact hR h₁ tk₁ ys (hl.at fun o e => hk₁ D o hDX e) hys (fun j y hj => hF _ _ _ _ (hFs j y hj) fun b o _ h2 e => hk₁ b o h2 e) hT fun b o h1 h2 e => hk₁ b o h2 (hk b o h1 h2 e)
    · obtain ⟨rfl, h₂⟩ := h₂
      exact h₂
end

section
variable {prog : Program} {w : World} {A : Around} {E : Value → Shared → Prop} {s : Shared} {env : Env}

/-- what a comprehension's turns do: n turns; wr: what the iterator turns; oc: the block's own cells; S: the state ahead of turn i; B: bound in turn i; F: what turn i hands on -/
structure CompOk (prog : Program) (w : World) (A : Around) (env : Env) (elt target : Expr) (scope : Scope) (cl : List (Str × Addr)) (it : Value) (s₂ : Shared) (n : Nat) (wr : List Addr) (oc : Addr → List Addr)
    (S : Addr → Nat → Heap → Prop) (B : Addr → Nat → Heap → Prop) (F : List Addr → Nat → Value → Heap → Prop) : Prop where
  size : n ≤ sizeLine
  wrlt : ∀ b ∈ wr, b < s₂.heap.objs.size
  ocge : ∀ C, ∀ b ∈ oc C, C < b
  self : ∀ C i s (Q : Value → Shared → Prop) (E : Value → Shared → Prop), S C i s.heap → Q it s → wpAny (model prog w) A (pyIter it) Q E s
  start : ∀ C h₁, s₂.heap.objs.size ≤ C → Up s₂.heap h₁ → (∃ m, h₁.Ns C m) → (∀ nm c, (nm, c) ∈ cellsFrom (C + 1) scope.names [] → h₁.IsCell c none) → S C 0 h₁
  stab : ∀ C D i h h', s₂.heap.objs.size ≤ C → s₂.heap.objs.size ≤ D → D < C → S C i h → (∀ b o, b ≠ D → h.get? b = some o → h'.get? b = some o) → S C i h'
  fstab : ∀ X i y h h', F X i y h → (∀ b o, b ∉ X → h.get? b = some o → h'.get? b = some o) → F X i y h'
  next : ∀ C i s₁ (Q : Shared → Prop) (E' : Value → Shared → Prop), s₂.heap.objs.size ≤ C → i < n → S C i s₁.heap →
    (∀ h' tk, (∀ b o, b ∉ C :: oc C ++ wr → s₁.heap.get? b = some o → h'.get? b = some o) → S C (i + 1) h' → B C i h' → Q { s₁ with heap := h', toks := tk }) →
    wpAny (model prog w) A (pyNext it) (fun r s₂ => match r with
        | none => False
        | some v => wpAny (model prog w) A (letOwnedTupleGo target it v) (fun _ s₃ => wpAny (model prog w) A (assign target (compEnvC scope (cellsFrom (C + 1) scope.names cl) C env) v) (fun _ s₄ => Q s₄) E' s₃) E' s₂) E' s₁
  done : ∀ C s₁ (Q : Shared → Prop) (E' : Value → Shared → Prop), s₂.heap.objs.size ≤ C → S C n s₁.heap →
    (∀ h' tk, (∀ b o, b ∉ C :: oc C ++ wr → s₁.heap.get? b = some o → h'.get? b = some o) → (∃ m, h'.Ns C m) → Q { s₁ with heap := h', toks := tk }) →
      wpAny (model prog w) A (pyNext it) (fun r s₂ => r = none ∧ Q s₂) E' s₁
  elt : ∀ C X i h' tk (E' : Value → Shared → Prop), s₂.heap.objs.size ≤ C → i < n → S C (i + 1) h' → B C i h' → (∀ b ∈ X, b ∈ wr ∨ s₂.heap.objs.size ≤ b) → (∀ b ∈ X, b ∈ wr ∨ b ∈ C :: oc C ∨ ∃ o, h'.get? b = some o) → (∀ b o, b ∉ X → s₂.heap.get? b = some o → h'.get? b = some o) →
      wpAny (model prog w) A (eval elt (compEnvC scope (cellsFrom (C + 1) scope.names cl) C env)) (fun y s₃ => Keeps { s₂ with heap := h', toks := tk } s₃ ∧ F X i y s₃.heap) E' { s₂ with heap := h', toks := tk }

theorem pushCells_size_le : ∀ (names : List (Str × NameKind)) (h : Heap), h.objs.size ≤ (pushCells h names).objs.size
  | [], _ => Nat.le_refl _
  | (_, kind) :: r, h => by
    unfold pushCells
    split
    · exact Nat.le_trans (by rw [Heap.size_push]; exact Nat.le_succ _) (pushCells_size_le r _)
    · exact pushCells_size_le r h

theorem newEnv_comp {scope : Scope} {globals : Addr} {cl : List (Str × Addr)} {qual : Str} {Q : Env → Shared → Prop}
    (hQ : Q (newEnv scope s.heap.objs.size globals (cellsFrom (s.heap.objs.size + 1) scope.names cl) qual none .none (some env) builtinsNs)
      { s with heap := pushCells (s.heap.push { cls := .type "dict", data := .dict #[] }) scope.names }) :
    wpAny (model prog w) A (newFunctionEnv scope globals cl [] qual none .none (some env)) Q E s := by
  simp only [newFunctionEnv, Option.isSome_some, if_true]
  refine wpAny_bind (wpAny_alloc ?_)
  refine wpAny_bind (wpAny_layCells _ (fun name kind cells => by cases hkc : kind == NameKind.cell <;> simp [hkc]) _ _ _ _ ?_)
  rw [show ({ s with heap := s.heap.push { cls := .type "dict", data := .dict #[] } } : Shared).heap.objs.size = s.heap.objs.size + 1 from Heap.size_push ..]
  rw [List.forIn_nil]
  exact wpAny_bind (wpAny_pure (wpAny_pure hQ))

theorem compG {elt target iter : Expr} {scope : Scope} {cl : List (Str × Addr)} {pos : Pos} {Q : Value → Shared → Prop}
    (hclos : closureFor scope env = pure cl) (hkind : scope.kind = .function) (hnames : ∀ y ∈ scope.names, y.2 = .local → scope.names.lookup y.1 = some .local)
    (h : wpAny (model prog w) A (eval iter env) (fun xv s₁ => wpAny (model prog w) A (pyIter xv) (fun it s₂ => ∃ n wr oc S B F, CompOk prog w A env elt target scope cl it s₂ n wr oc S B F ∧
      (∀ D h' tk ys X, h'.PlainList D ys → ys.size = n → (∀ i y, ys[i]? = some y → F X i y h') → (∀ b o, b ∉ wr → s₂.heap.get? b = some o → h'.get? b = some o) → s₂.heap.get? D = none → Q (.ref D) { s₂ with heap := h', toks := tk })) E s₁) E s)
    (hs : ∀ x, foldedSetIterable iter env x = pure x := by intro _; rfl) :
    wpAny (model prog w) A (eval (.ListComp elt [⟨target, iter, [], 0⟩] scope pos) env) Q E s := by
  rw [eval_ListComp]
  refine wpAny_comprehension_free (use := none) rfl hs hclos hkind hnames (wpAny_mono h (fun xv s₁ h₁ => wpAny_mono h₁ (fun it s₂ h₂ => ?_) fun _ _ e => e) fun _ _ e => e)
  obtain ⟨n, wr, oc, S, B, F, ok, hQ⟩ := h₂
  refine wpAny_newObj_type (newEnv_comp ?_)
  generalize hH1 : s₂.heap.push { cls := .type "list", dict := none, data := .seq ([] : List Value).toArray } = H1
  have hD : H1.objs.size = s₂.heap.objs.size + 1 := by rw [← hH1, Heap.size_push]
  have hDl : H1.PlainList s₂.heap.objs.size #[] := ⟨_, by rw [← hH1]; exact Heap.get?_push_size _ rfl⟩
  have up1 : Up s₂.heap H1 := fun b o e => by rw [← hH1]; exact Heap.get?_push_of_some _ e
  show codeAny _ A (.compStart _ 0 it (.ref s₂.heap.objs.size) (compEnvC scope (cellsFrom (H1.objs.size + 1) scope.names cl) H1.objs.size env)) _ _
  generalize hH3 : pushCells (H1.push { cls := .type "dict", data := .dict #[] }) scope.names = H3
  have up3 : Up H1 H3 := fun b o e => by rw [← hH3]; exact pushCells_keeps _ _ b o (Heap.get?_push_of_some _ e)
  have hNs : H3.Ns H1.objs.size (fun _ => none) := by rw [← hH3]; exact (Heap.Ns.new H1 (.type "dict")).keeps (pushCells_keeps _ _)
  have hcells : ∀ nm c, (nm, c) ∈ cellsFrom (H1.objs.size + 1) scope.names [] → H3.IsCell c none := fun nm c hm => by
    have q := cellsFrom_ok scope.names (H1.push { cls := .type "dict", data := .dict #[] }) (H1.objs.size + 1) [] ⟨fun _ _ hm => (nomatch hm), List.Pairwise.nil⟩ (by rw [Heap.size_push]; exact Nat.le_refl _)
    rw [Heap.size_push, hH3] at q
    exact (q.empty nm c hm).1
  have hCge : s₂.heap.objs.size ≤ H1.objs.size := by rw [hD]; exact Nat.le_succ _
  have hDC : s₂.heap.objs.size < H1.objs.size := by rw [hD]; exact Nat.lt_succ_self _
  have hst : S H1.objs.size 0 H3 := ok.start _ _ hCge (Up.trans up1 up3) ⟨_, hNs⟩ hcells
  have hDX : s₂.heap.objs.size ∉ H1.objs.size :: oc H1.objs.size ++ wr := by
    intro hm
    rw [List.cons_append] at hm
    rcases List.mem_cons.mp hm with e | hm
    · exact absurd e (Nat.ne_of_lt hDC)
    · rcases List.mem_append.mp hm with hm | hm
      · exact Nat.lt_irrefl _ (Nat.lt_trans hDC (ok.ocge _ _ hm))
      · exact Nat.lt_irrefl _ (ok.wrlt _ hm)
  have hXge : ∀ b ∈ s₂.heap.objs.size :: (H1.objs.size :: oc H1.objs.size ++ wr), b ∈ wr ∨ s₂.heap.objs.size ≤ b := fun b hb => by
    rcases List.mem_cons.mp hb with rfl | hb
    · exact .inr (Nat.le_refl _)
    · rw [List.cons_append] at hb
      rcases List.mem_cons.mp hb with rfl | hb
      · exact .inr hCge
      · rcases List.mem_append.mp hb with hb | hb
        · exact .inr (Nat.le_trans hCge (Nat.le_of_lt (ok.ocge _ _ hb)))
        · exact .inl hb
  have old : ∀ b o, b ∉ wr → s₂.heap.get? b = some o → b ∉ s₂.heap.objs.size :: (H1.objs.size :: oc H1.objs.size ++ wr) := fun b o hb e hm => by
    rcases hXge b hm with q | q
    · exact hb q
    · exact Nat.lt_irrefl _ (Nat.lt_of_lt_of_le (Heap.lt_size e) q)
  have loop : ∀ s₃ : Shared, s₃ = { s₂ with heap := H3 } → codeAny (model prog w) A (.compLoop (.ListComp elt [⟨target, iter, [], 0⟩] scope pos) 0 it (.ref s₂.heap.objs.size) (compEnvC scope (cellsFrom (H1.objs.size + 1) scope.names cl) H1.objs.size env))
      (compPost (model prog w) A E none Q (.ref s₂.heap.objs.size) H1.objs.size) s₃ := by
    rintro s₃ rfl
    refine loopG (H1.objs.size :: oc H1.objs.size ++ wr) n (S H1.objs.size) (B H1.objs.size) (fun h => ∃ m, h.Ns H1.objs.size m) (F (s₂.heap.objs.size :: (H1.objs.size :: oc H1.objs.size ++ wr))) ok.size hDX
      (fun i h h' hs hk => ok.stab _ s₂.heap.objs.size i h h' hCge (Nat.le_refl _) hDC hs hk)
      (fun i y h h' hf hk => ok.fstab _ i y h h' hf fun b o hb e => hk b o (fun q => hb (q ▸ List.mem_cons_self)) (fun q => hb (List.mem_cons_of_mem _ q)) e)
      (fun i s₁ Q' E' hi hs hq => ok.next _ i s₁ Q' E' hCge hi hs hq) (fun s₁ Q' E' hs hq => ok.done _ s₁ Q' E' hCge hs hq)
      (fun i h' tk E' hi hs hb hl hk => ok.elt _ _ i h' tk E' hCge hi hs hb hXge (fun b hb => ?_) fun b o hb e => hk b o (fun q => hb (q ▸ List.mem_cons_self)) (fun q => hb (List.mem_cons_of_mem _ q)) (up3 _ _ (up1 _ _ e)))
      hst (hDl.at fun o e => up3 _ o e) (fun h' tk ys hl hn hf hT hk => ?_)
    · rcases List.mem_cons.mp hb with rfl | hb
      · obtain ⟨ys, hl⟩ := hl
        obtain ⟨_, e⟩ := hl
        exact .inr (.inr ⟨_, e⟩)
      · rcases List.mem_append.mp hb with hb | hb
        · exact .inr (.inl hb)
        · exact .inl hb
    · obtain ⟨m, hm⟩ := hT
      refine ⟨m, hm, fun h'' hs'' => ?_⟩
      have hX : ∀ b o, b ∉ s₂.heap.objs.size :: (H1.objs.size :: oc H1.objs.size ++ wr) → h'.get? b = some o → h''.get? b = some o := fun b o hb e => hs''.extBut b o (fun q => hb (by rw [q]; exact List.mem_cons_of_mem _ List.mem_cons_self)) e
      refine hQ _ h'' tk ys _ (hl.extBut hs''.extBut (Nat.ne_of_lt hDC)) hn (fun i y e => ok.fstab _ _ _ _ _ (hf i y e) hX) (fun b o hb e => hX b o (old b o hb e) (hk b o (fun q => old b o hb e (q ▸ List.mem_cons_self)) (fun q => old b o hb e (List.mem_cons_of_mem _ q)) (up3 _ _ (up1 _ _ e)))) ?_
      cases e : s₂.heap.get? s₂.heap.objs.size with
      | none => rfl
      | some o => exact absurd (Heap.lt_size e) (Nat.lt_irrefl _)
  exact codeAny_compStart_list (loop _ rfl) (ok.self _ 0 _ _ _ hst (loop _ rfl))
end
end Mine

namespace Mine
set_option maxHeartbeats 8000000
section
variable {prog : Program} {w : World} {A : Around} {E : Value → Shared → Prop} {s₂ : Shared} {env : Env}

theorem ns_at {h h' : Heap} {C : Addr} {m : Str → Option Value} (x : h.Ns C m) (k : ∀ o, h.get? C = some o → h'.get? C = some o) : h'.Ns C m := x.at' k

/-- one name, a local of the block, over any iterator -/
theorem okLocal {elt : Expr} {x : Str} {px : Pos} {scope : Scope} {cl : List (Str × Addr)} {I : Addr} {fp wr : List Addr} {n : Nat} {P : Nat → Value → Prop} {St : Nat → Heap → Prop} (F : List Addr → Nat → Value → Heap → Prop)
    (W : Walks prog w A I fp wr n P St) (hsz : n ≤ sizeLine) (hst : St 0 s₂.heap) (hfp : ∀ b ∈ fp, b < s₂.heap.objs.size)
    (hcl : ∀ k, cellsFrom k scope.names cl = cl) (hkind : scope.kind = .function)
    (hx : scope.names.lookup x = some .local)
    (hF : ∀ X i y h h', F X i y h → (∀ b o, b ∉ X → h.get? b = some o → h'.get? b = some o) → F X i y h')
    (helt : ∀ C X i v h' tk m (E' : Value → Shared → Prop), s₂.heap.objs.size ≤ C → i < n → P i v → h'.Ns C m → m x = some v → (∀ b ∈ X, b ∈ wr ∨ s₂.heap.objs.size ≤ b) → (∀ b ∈ X, b ∈ wr ∨ b = C ∨ ∃ o, h'.get? b = some o) → St (i + 1) h' →
      (∀ b o, b ∉ X → s₂.heap.get? b = some o → h'.get? b = some o) →
      wpAny (model prog w) A (eval elt (compEnvC scope cl C env)) (fun y s₃ => Keeps { s₂ with heap := h', toks := tk } s₃ ∧ F X i y s₃.heap) E' { s₂ with heap := h', toks := tk }) :
    CompOk prog w A env elt (.Name x px) scope cl (.ref I) s₂ n wr (fun _ => []) (fun C i h => St i h ∧ s₂.heap.objs.size ≤ C ∧ ∃ m, h.Ns C m) (fun C i h => ∃ m v, P i v ∧ h.Ns C m ∧ m x = some v) F where
  size := hsz
  wrlt := fun b hb => hfp b (W.sub b hb)
  ocge := fun _ _ hb => nomatch hb
  self := fun C i s Q E hs hq => W.self i s Q E hs.1 hq
  start := fun C h₁ hC up hn _ => ⟨W.frame _ _ _ hst fun b _ o e => up b o e, hC, hn⟩
  stab := fun C D i h h' hC hD hDC hs hk => ⟨W.frame _ _ _ hs.1 fun b hb o e => hk b o (Nat.ne_of_lt (Nat.lt_of_lt_of_le (hfp b hb) hD)) e, hC, let ⟨m, hm⟩ := hs.2.2; ⟨m, hm.at' fun o e => hk C o (Nat.ne_of_gt hDC) e⟩⟩
  fstab := hF
  next := fun C i s₁ Q E' hC hi hs hq => by
    obtain ⟨st, _, m, hm⟩ := hs
    have hCw : C ∉ wr := fun hb => Nat.lt_irrefl _ (Nat.lt_of_lt_of_le (hfp C (W.sub C hb)) hC)
    refine W.item i _ _ _ hi st fun v h₁ tk₁ hP hst₁ hk₁ => ?_
    show wpAny _ A (letOwnedTupleGo (.Name x px) (.ref I) v) _ _ _
    refine wpAny_of_eq (a := ()) (by rfl) ?_
    rw [hcl]
    refine wpAny_assign_Name (wpAny_storeName_local (lookup_relabel_local hx) (hm.at' fun o e => hk₁ C o hCw e) (fun h₂ hn₂ hs₂ => ?_) (by simp [compEnvC, relabel, hkind]))
    refine hq h₂ _ (fun b o hb e => ?_) ⟨W.frame _ _ _ hst₁ fun b hb o e => hs₂.extBut b o (fun q => Nat.lt_irrefl _ (Nat.lt_of_lt_of_le (hfp b hb) ((show b = C from q) ▸ hC))) e, hC, _, hn₂⟩ ⟨_, v, hP, hn₂, by simp⟩
    exact hs₂.extBut b o (fun q => hb (by rw [show b = C from q]; exact List.mem_cons_self)) (hk₁ b o (fun q => hb (List.mem_append_right _ q)) e)
  done := fun C s₁ Q E' hC hs hq => by
    obtain ⟨st, _, m, hm⟩ := hs
    have hCw : C ∉ wr := fun hb => Nat.lt_irrefl _ (Nat.lt_of_lt_of_le (hfp C (W.sub C hb)) hC)
    exact W.done _ _ _ st fun h' tk hk => ⟨rfl, hq h' tk (fun b o hb e => hk b o (fun q => hb (List.mem_append_right _ q)) e) ⟨m, hm.at' fun o e => hk C o hCw e⟩⟩
  elt := fun C X i h' tk E' hC hi hs hb hX1 hX2 hk => by
    obtain ⟨m, v, hP, hn, hv⟩ := hb
    rw [hcl]
    exact helt C X i v h' tk m E' hC hi hP hn hv hX1 (fun b hb => (hX2 b hb).imp id (Or.imp (fun q => by simpa using q) id)) hs.1 hk

/-- one name, a cell of the block's own, over any iterator -/
theorem okCell {elt : Expr} {x : Str} {px : Pos} {scope : Scope} {cl : List (Str × Addr)} {I : Addr} {fp wr : List Addr} {n : Nat} {P : Nat → Value → Prop} {St : Nat → Heap → Prop} (F : List Addr → Nat → Value → Heap → Prop)
    (W : Walks prog w A I fp wr n P St) (hsz : n ≤ sizeLine) (hst : St 0 s₂.heap) (hfp : ∀ b ∈ fp, b < s₂.heap.objs.size)
    (hcl : ∀ k, cellsFrom k scope.names cl = (x, k) :: cl) (hcl0 : ∀ k, cellsFrom k scope.names [] = [(x, k)]) (hkind : scope.kind = .function)
    (hx : ∀ c C, (compEnvC scope c C env).kindOf x = some .cell)
    (hF : ∀ X i y h h', F X i y h → (∀ b o, b ∉ X → h.get? b = some o → h'.get? b = some o) → F X i y h')
    (helt : ∀ C X i v h' tk m (E' : Value → Shared → Prop), s₂.heap.objs.size ≤ C → i < n → P i v → h'.Ns C m → h'.IsCell (C + 1) (some v) → (∀ b ∈ X, b ∈ wr ∨ s₂.heap.objs.size ≤ b) → (∀ b ∈ X, b ∈ wr ∨ b = C ∨ b = C + 1 ∨ ∃ o, h'.get? b = some o) → St (i + 1) h' →
      (∀ b o, b ∉ X → s₂.heap.get? b = some o → h'.get? b = some o) →
      wpAny (model prog w) A (eval elt (compEnvC scope ((x, C + 1) :: cl) C env)) (fun y s₃ => Keeps { s₂ with heap := h', toks := tk } s₃ ∧ F X i y s₃.heap) E' { s₂ with heap := h', toks := tk }) :
    CompOk prog w A env elt (.Name x px) scope cl (.ref I) s₂ n wr (fun C => [C + 1]) (fun C i h => St i h ∧ s₂.heap.objs.size ≤ C ∧ (∃ m, h.Ns C m) ∧ ∃ v₀, h.IsCell (C + 1) v₀) (fun C i h => ∃ v, P i v ∧ h.IsCell (C + 1) (some v)) F where
  size := hsz
  wrlt := fun b hb => hfp b (W.sub b hb)
  ocge := fun C b hb => by rw [List.mem_singleton.mp hb]; exact Nat.lt_succ_self _
  self := fun C i s Q E hs hq => W.self i s Q E hs.1 hq
  start := fun C h₁ hC up hn hc => ⟨W.frame _ _ _ hst fun b _ o e => up b o e, hC, hn, none, hc x (C + 1) (by rw [hcl0]; exact List.mem_cons_self)⟩
  stab := fun C D i h h' hC hD hDC hs hk => ⟨W.frame _ _ _ hs.1 fun b hb o e => hk b o (Nat.ne_of_lt (Nat.lt_of_lt_of_le (hfp b hb) hD)) e, hC,
    (let ⟨m, hm⟩ := hs.2.2.1; ⟨m, hm.at' fun o e => hk C o (Nat.ne_of_gt hDC) e⟩),
    (let ⟨v₀, o, e, r⟩ := hs.2.2.2; ⟨v₀, o, hk (C + 1) o (Nat.ne_of_gt (Nat.lt_succ_of_lt hDC)) e, r⟩)⟩
  fstab := hF
  next := fun C i s₁ Q E' hC hi hs hq => by
    obtain ⟨st, _, ⟨m, hm⟩, v₀, hc⟩ := hs
    have hlt : ∀ b ∈ fp, b < C := fun b hb => Nat.lt_of_lt_of_le (hfp b hb) hC
    have hCw : C ∉ wr := fun hb => Nat.lt_irrefl _ (hlt C (W.sub C hb))
    have hCw1 : C + 1 ∉ wr := fun hb => absurd (hlt _ (W.sub _ hb)) (Nat.not_lt.mpr (Nat.le_succ _))
    refine W.item i _ _ _ hi st fun v h₁ tk₁ hP hst₁ hk₁ => ?_
    show wpAny _ A (letOwnedTupleGo (.Name x px) (.ref I) v) _ _ _
    refine wpAny_of_eq (a := ()) (by rfl) ?_
    rw [hcl]
    have hc₁ : h₁.IsCell (C + 1) v₀ := let ⟨o, e, r⟩ := hc; ⟨o, hk₁ _ o hCw1 e, r⟩
    refine wpAny_assign_Name (wpAny_storeName_cell (c := C + 1) hkind (hx _ _) (by simp [compEnvC]) hc₁ (fun h₂ hc₂ hs₂ => ?_))
    refine hq h₂ _ (fun b o hb e => ?_) ⟨W.frame _ _ _ hst₁ fun b hb o e => hs₂.extBut b o (fun q => absurd (hlt b hb) (by rw [show b = C + 1 from q]; exact Nat.not_lt.mpr (Nat.le_succ _))) e, hC, ⟨m, (hm.at' fun o e => hk₁ C o hCw e).sameBut hs₂ (Nat.ne_of_lt (Nat.lt_succ_self C))⟩, _, hc₂⟩ ⟨v, hP, hc₂⟩
    exact hs₂.extBut b o (fun q => hb (by rw [show b = C + 1 from q]; simp)) (hk₁ b o (fun q => hb (List.mem_append_right _ q)) e)
  done := fun C s₁ Q E' hC hs hq => by
    obtain ⟨st, _, ⟨m, hm⟩, _⟩ := hs
    have hCw : C ∉ wr := fun hb => Nat.lt_irrefl _ (Nat.lt_of_lt_of_le (hfp C (W.sub C hb)) hC)
    exact W.done _ _ _ st fun h' tk hk => ⟨rfl, hq h' tk (fun b o hb e => hk b o (fun q => hb (List.mem_append_right _ q)) e) ⟨m, hm.at' fun o e => hk C o hCw e⟩⟩
  elt := fun C X i h' tk E' hC hi hs hb hX1 hX2 hk => by
    obtain ⟨v, hP, hc⟩ := hb
    obtain ⟨st, _, ⟨m, hm⟩, _⟩ := hs
    rw [hcl]
    exact helt C X i v h' tk m E' hC hi hP hm hc hX1 (fun b hb => (hX2 b hb).imp id fun q => by
      rcases q with q | q
      · simp only [List.mem_cons, List.not_mem_nil, or_false] at q
        rcases q with q | q
        · exact .inl q
        · exact .inr (.inl q)
      · exact .inr (.inr q)) st hk

/-- two names, locals of the block, over enumerate of a list -/
theorem okEnum {elt : Expr} {xi xv : Str} {pi pv tp : Pos} {tk : Nat} {scope : Scope} {cl : List (Str × Addr)} {e it l : Addr} {items : Array Value} (F : List Addr → Nat → Value → Heap → Prop)
    (hh : A.handled = none) (hsz : items.size ≤ sizeLine) (he : IsEnum s₂.heap e it 0 .none) (hit : s₂.heap.IsListIter it l 0) (hl : s₂.heap.IsList l items) (hei : e ≠ it) (hle : l ≠ e) (hli : l ≠ it)
    (hcl : ∀ k, cellsFrom k scope.names cl = cl) (hkind : scope.kind = .function)
    (hxi : scope.names.lookup xi = some .local) (hxv : scope.names.lookup xv = some .local) (hne : xi ≠ xv)
    (hF : ∀ X i y h h', F X i y h → (∀ b o, b ∉ X → h.get? b = some o → h'.get? b = some o) → F X i y h')
    (helt : ∀ C X i v ti h' tk m (E' : Value → Shared → Prop), s₂.heap.objs.size ≤ C → i < items.size → items[i]? = some v → h'.Ns C m → m xi = some (.int (i : Nat) ti) → m xv = some v → (∀ b ∈ X, b ∈ [e, it] ∨ s₂.heap.objs.size ≤ b) → (∀ b ∈ X, b ∈ [e, it] ∨ b = C ∨ ∃ o, h'.get? b = some o) →
      (∀ b o, b ∉ X → s₂.heap.get? b = some o → h'.get? b = some o) →
      wpAny (model prog w) A (eval elt (compEnvC scope cl C env)) (fun y s₃ => Keeps { s₂ with heap := h', toks := tk } s₃ ∧ F X i y s₃.heap) E' { s₂ with heap := h', toks := tk }) :
    CompOk prog w A env elt (.Tuple [.Name xi pi, .Name xv pv] tk tp) scope cl (.ref e) s₂ items.size [e, it] (fun _ => [])
      (fun C i h => (∃ old, IsEnum h e it ((i : Nat) : Int) old) ∧ h.IsListIter it l i ∧ h.IsList l items ∧ s₂.heap.objs.size ≤ C ∧ ∃ m, h.Ns C m) (fun C i h => ∃ m v ti, items[i]? = some v ∧ h.Ns C m ∧ m xi = some (.int (i : Nat) ti) ∧ m xv = some v) F where
  size := hsz
  wrlt := fun b hb => by
    rcases List.mem_cons.mp hb with rfl | hb
    · exact Heap.lt_size he
    · rcases List.mem_singleton.mp hb with rfl
      obtain ⟨o, ho, _⟩ := hit
      exact Heap.lt_size ho
  ocge := fun _ _ hb => nomatch hb
  self := fun C i s Q E hs hq => by
    obtain ⟨⟨old, he'⟩, _⟩ := hs
    exact wpAny_pyIter_enum he' hq
  start := fun C h₁ hC up hn _ => ⟨⟨_, up _ _ he⟩, hit.at fun o x => up _ o x, hl.at fun o x => up _ o x, hC, hn⟩
  stab := fun C D i h h' hC hD hDC hs hk => by
    obtain ⟨⟨old, he'⟩, hit', hl', _, m, hm⟩ := hs
    have h1 : e ≠ D := Nat.ne_of_lt (Nat.lt_of_lt_of_le (Heap.lt_size he) hD)
    have h2 : it ≠ D := Nat.ne_of_lt (Nat.lt_of_lt_of_le (by obtain ⟨o, ho, _⟩ := hit; exact Heap.lt_size ho) hD)
    have h3 : l ≠ D := Nat.ne_of_lt (Nat.lt_of_lt_of_le (by obtain ⟨o, ho, _⟩ := hl; exact Heap.lt_size ho) hD)
    exact ⟨⟨old, hk _ _ h1 he'⟩, hit'.at fun o x => hk _ o h2 x, hl'.at fun o x => hk _ o h3 x, hC, m, hm.at' fun o x => hk C o (Nat.ne_of_gt hDC) x⟩
  fstab := hF
  next := fun C i s₁ Q E' hC hi hs hq => by
    obtain ⟨⟨old, he'⟩, hit', hl', _, m, hm⟩ := hs
    have heC : e ≠ C := Nat.ne_of_lt (Nat.lt_of_lt_of_le (Heap.lt_size he) hC)
    have hiC : it ≠ C := Nat.ne_of_lt (Nat.lt_of_lt_of_le (by obtain ⟨o, ho, _⟩ := hit; exact Heap.lt_size ho) hC)
    have hlC : l ≠ C := Nat.ne_of_lt (Nat.lt_of_lt_of_le (by obtain ⟨o, ho, _⟩ := hl; exact Heap.lt_size ho) hC)
    have heH : e < s₁.heap.objs.size := Heap.lt_size he'
    have hCH : C < s₁.heap.objs.size := hm.lt
    obtain ⟨oi, hoi, _⟩ := id hit'
    obtain ⟨ol, hol, _⟩ := id hl'
    have hiH : it < s₁.heap.objs.size := Heap.lt_size hoi
    have hlH : l < s₁.heap.objs.size := Heap.lt_size hol
    have hv : items[i]? = some items[i] := by simp [hi]
    have hpp : ((compEnvC scope cl C env).scope.kind == .class || ((compEnvC scope cl C env).scope.kind == .module && (compEnvC scope cl C env).locals != (compEnvC scope cl C env).globals)) = false := by simp [compEnvC, relabel, hkind]
    refine wpAny_pyNext_enum_item he' hit' hl' hv hei fun h₁ heo hit₁ ht₁ hz₁ hk₁ => ?_
    refine wpAny_letOwnedTupleGo_enum heo fun h₂ he₂ hs₂ => ?_
    replace hs₂ : Heap.SameBut e h₁ h₂ := hs₂
    have ht₂ : h₂.IsTuple s₁.heap.objs.size #[.int i s₁.toks, items[i]] := ⟨_, (hs₂.2 _ (Nat.ne_of_gt heH)).trans ht₁, rfl, _, rfl⟩
    have hz₂ : h₂.objs.size = s₁.heap.objs.size + 1 := hs₂.1.trans hz₁
    refine wpAny_assign_Tuple hh ht₂ rfl rfl fun h₃ hx₃ => ?_
    replace hx₃ : Heap.ExtBut h₂.objs.size h₂ h₃ := hx₃
    have old₃ : ∀ b o, b < s₁.heap.objs.size → h₂.get? b = some o → h₃.get? b = some o := fun b o hb x => hx₃ b o (by rw [hz₂]; exact Nat.ne_of_lt (Nat.lt_succ_of_lt hb)) x
    have hn₃ : h₃.Ns C m := (hm.at' fun o x => hk₁ _ o (Ne.symm heC) (Ne.symm hiC) x).sameBut hs₂ (Ne.symm heC) |>.at' fun o x => old₃ _ o hCH x
    rw [hcl]
    show wpAny _ A (do holding [items[i]] (assign (.Name xi pi) (compEnvC scope cl C env) (.int i s₁.toks)); do holding [] (assign (.Name xv pv) (compEnvC scope cl C env) items[i]); pure ()) _ _ _
    refine wpAny_bind (wpAny_holding (wpAny_assign_Name (wpAny_storeName_local (lookup_relabel_local hxi) hn₃ (fun h₄ hn₄ hs₄ => ?_) hpp)))
    replace hs₄ : Heap.SameBut C h₃ h₄ := hs₄
    refine wpAny_bind (wpAny_holding (wpAny_assign_Name (wpAny_storeName_local (lookup_relabel_local hxv) hn₄ (fun h₅ hn₅ hs₅ => wpAny_pure ?_) hpp)))
    replace hs₅ : Heap.SameBut C h₄ h₅ := hs₅
    have up : ∀ b o, b ≠ C → b < s₁.heap.objs.size → h₂.get? b = some o → h₅.get? b = some o := fun b o hbL hb x =>
      hs₅.extBut b o hbL (hs₄.extBut b o hbL (old₃ b o hb x))
    refine hq h₅ _ (fun b o hb x => ?_) ⟨⟨items[i], ?_⟩, ?_, ?_, hC, _, hn₅⟩ ⟨_, items[i], s₁.toks, hv, hn₅, ?_, by simp⟩
    · have hbH : b < s₁.heap.objs.size := Heap.lt_size x
      simp only [List.cons_append, List.nil_append, List.mem_cons, List.not_mem_nil, or_false, not_or] at hb
      exact up b o hb.1 hbH (hs₂.extBut b o hb.2.1 (hk₁ b o hb.2.1 hb.2.2 x))
    · have : ((i + 1 : Nat) : Int) = (i : Int) + 1 := by push_cast; rfl
      rw [this]; exact up e _ heC heH he₂
    · exact (hit₁.extBut hs₂.extBut (Ne.symm hei)).at fun o x => up it o hiC hiH x
    · exact ((hl'.at fun o x => hk₁ l o hle hli x).extBut hs₂.extBut hle).at fun o x => up l o hlC hlH x
    · show (if xi = xv then _ else _) = _
      rw [if_neg hne]
      simp
  done := fun C s₁ Q E' hC hs hq => by
    obtain ⟨⟨old, he'⟩, hit', hl', _, m, hm⟩ := hs
    have heC : e ≠ C := Nat.ne_of_lt (Nat.lt_of_lt_of_le (Heap.lt_size he) hC)
    have hiC : it ≠ C := Nat.ne_of_lt (Nat.lt_of_lt_of_le (by obtain ⟨o, ho, _⟩ := hit; exact Heap.lt_size ho) hC)
    refine wpAny_pyNext_enum_end hh he' hit' hl' (by simp) fun h₁ hx₁ => ⟨rfl, ?_⟩
    exact hq h₁ s₁.toks (fun b o hb x => hx₁ b o (fun q => hb (by rw [show b = it from q]; simp)) x) ⟨m, hm.at' fun o x => hx₁ C o (Ne.symm hiC) x⟩
  elt := fun C X i h' tk E' hC hi hs hb hX1 hX2 hk => by
    obtain ⟨m, v, ti, hv, hn, h1, h2⟩ := hb
    rw [hcl]
    exact helt C X i v ti h' tk m E' hC hi hv hn h1 h2 hX1 (fun b hb => (hX2 b hb).imp id (Or.imp (fun q => by simpa using q) id)) hk
end
end Mine

namespace Mine
set_option maxHeartbeats 8000000
theorem list_up {h h' : Heap} {a : Addr} {its : Array Value} (x : h.IsList a its) (u : Up h h') : h'.IsList a its := let ⟨o, e, r⟩ := x; ⟨o, u _ _ e, r⟩
theorem list_but {h h' : Heap} {a : Addr} {its : Array Value} {X : List Addr} (x : h.IsList a its) (n : a ∉ X) (u : ∀ b o, b ∉ X → h.get? b = some o → h'.get? b = some o) : h'.IsList a its := let ⟨o, e, r⟩ := x; ⟨o, u _ _ n e, r⟩
theorem list_lt {h : Heap} {a : Addr} {its : Array Value} (x : h.IsList a its) : a < h.objs.size := let ⟨_, e, _⟩ := x; Heap.lt_size e
theorem cell_up {h h' : Heap} {a : Addr} {v : Option Value} (x : h.IsCell a v) (u : Up h h') : h'.IsCell a v := let ⟨o, e, r⟩ := x; ⟨o, u _ _ e, r⟩
theorem ns_up {h h' : Heap} {a : Addr} {m : Str → Option Value} (x : h.Ns a m) (u : Up h h') : h'.Ns a m := x.at' fun o e => u _ o e
theorem up_push (h : Heap) (o : Obj) : Up h (h.push o) := fun _ _ e => Heap.get?_push_of_some _ e

section
variable {prog : Program} {w : World} {A : Around} {E : Value → Shared → Prop} {s : Shared} {env : Env} {h : Heap} {g : Array GenState} {d : Drawn} {tk : Nat} {os : OsState}

theorem kp {h' : Heap} {tk' : Nat} (u : Up h h') : Keeps ⟨h, g, d, tk, os⟩ ⟨h', g, d, tk', os⟩ := ⟨h', tk', rfl, u⟩

/-- a name that is a cell (the def's own, the block's own or one from around) -/
theorem nameCell {x : Str} {pos : Pos} {c : Addr} {v : Value} {Q : Value → Shared → Prop} (hk : env.scope.kind = .function) (hl : env.kindOf x = some .cell) (hc : env.cells.lookup x = some c) (hv : s.heap.IsCell c (some v)) (h : Q v s)
    (hd : (x == ("__debug__" : Str)) = false := by decide) : wpAny (model prog w) A (eval (.Name x pos) env) Q E s := wpAny_Name (wpAny_loadName_cell hk hl hc hv h) hd
theorem nameFree {x : Str} {pos : Pos} {c : Addr} {v : Value} {Q : Value → Shared → Prop} (hk : env.scope.kind = .function) (hl : env.kindOf x = some .free) (hc : env.cells.lookup x = some c) (hv : s.heap.IsCell c (some v)) (h : Q v s)
    (hd : (x == ("__debug__" : Str)) = false := by decide) (hn : (x == ("__classdict__" : Str)) = false := by decide) : wpAny (model prog w) A (eval (.Name x pos) env) Q E s := wpAny_Name (wpAny_loadName_free hk hl hc hv h hn) hd
theorem nameLocal {x : Str} {pos : Pos} {m : Str → Option Value} {v : Value} {Q : Value → Shared → Prop} (hk : env.scope.kind = .function) (hl : env.kindOf x = some .local) (hn : s.heap.Ns env.locals m) (hv : m x = some v) (h : Q v s)
    (hd : (x == ("__debug__" : Str)) = false := by decide) : wpAny (model prog w) A (eval (.Name x pos) env) Q E s := wpAny_Name (wpAny_loadName_local hk hl hn hv h) hd
theorem nameGlobal {K : Frag} {p : Program} {loose : List Str} {mean : ExcName → Option Value} {mg mb : Str → Option Value} {x : Str} {pos : Pos} {v : Value} {Q : Value → Shared → Prop} (X : K.In s.heap) (T : Top p loose mean mg mb s.heap)
    (e : nsIn K mainGlobals x = some (some v)) (hg : env.globals = mainGlobals) (hk : env.scope.kind = .function) (hx : env.kindOf x = some .globalImplicit) (h : Q v s) (hd : (x == ("__debug__" : Str)) = false := by decide) :
    wpAny (model prog w) A (eval (.Name x pos) env) Q E s := Name_function_global hk hx (loadGlobal_global (env := env) (by rw [hg]; exact T.g) (mg_of X T.g e) h) hd

theorem j_const {n : Int} {k : Nat} {pos : Pos} {Q : Value → Shared → Prop} (hq : ∀ t tk', Q (.int n t) ⟨h, g, d, tk', os⟩) : wpAny (model prog w) A (eval (.Constant (.int n) k pos) env) Q E ⟨h, g, d, tk, os⟩ := wpAny_Constant_int (hq _ _)
theorem j_sub {a b : Int} {t u : Tok} {Q : Value → Shared → Prop} (hq : ∀ t tk', Q (.int (a - b) t) ⟨h, g, d, tk', os⟩) : wpAny (model prog w) A (binaryOp .Sub (.int a t) (.int b u)) Q E ⟨h, g, d, tk, os⟩ := AutoIntOps.sub_0 (hq _ _)
theorem j_plus {a b : Int} {t u : Tok} {Q : Value → Shared → Prop} (hq : ∀ t tk', Q (.int (a + b) t) ⟨h, g, d, tk', os⟩) : wpAny (model prog w) A (binaryOp .Add (.int a t) (.int b u)) Q E ⟨h, g, d, tk, os⟩ := AutoIntOps.add_0 (hq _ _)
theorem j_mod {a b : Int} {t u : Tok} {Q : Value → Shared → Prop} (hb : b ≠ 0) (hq : ∀ t tk', Q (.int (a.fmod b) t) ⟨h, g, d, tk', os⟩) : wpAny (model prog w) A (binaryOp .Mod (.int a t) (.int b u)) Q E ⟨h, g, d, tk, os⟩ := mod_int' hb (hq _ _)
theorem j_mul {a b : Int} {t u : Tok} {Q : Value → Shared → Prop} (h1 : -(2 ^ 64) < a) (h2 : a < 2 ^ 64) (hq : ∀ t tk', Q (.int (a * b) t) ⟨h, g, d, tk', os⟩) :
    wpAny (model prog w) A (binaryOp .Mult (.int a t) (.int b u)) Q E ⟨h, g, d, tk, os⟩ := AutoIntOps.mul_0 (hq _ _) (IntMulOk.of_left (intBits_le_64 h1 h2))

theorem j_item {value slice : Expr} {l : Addr} {items : Array Value} {k : Int} {u : Tok} {v : Value} {Q : Value → Shared → Prop} (hl : s.heap.IsList l items) (h0 : 0 ≤ k) (h1 : k < 2 ^ 63) (hx : items[k.toNat]? = some v) (h : Q v s)
    (hs : subscripted slice false (.ref l) (.int k u) = operate [.ref l, .int k u] (getItem (.ref l) (.int k u)) := by with_unfolding_all rfl) :
    wpAny (model prog w) A (subscriptTail value slice (.ref l) (.int k u)) Q E s :=
  tail_any hl.typeIs slot_list_getitem.lookup (wpAny_getItem_list hl h0 h1 hx h) hs

/-- a slice without a step of a list, its bounds being evaluated without a trace in the heap -/
theorem j_slice {value slice : Expr} {l : Addr} {items : Array Value} {vl vu : Value} {lo hi : Option Int} {Q : Value → Shared → Prop}
    (hl : h.IsList l items) (pl : IsPart vl lo) (pu : IsPart vu hi) (hsz : items.size ≤ sizeLine)
    (hq : ∀ D h', Up h h' → h.get? D = none → h'.IsList D (slicePick items lo hi none) → Q (.ref D) ⟨h', g, d, tk, os⟩)
    (hs : subscripted slice false (.ref l) (.ref h.objs.size) = operate [.ref h.objs.size, .ref l] (getItem (.ref l) (.ref h.objs.size)) := by with_unfolding_all rfl)
    (ht : ∀ r, letTemporaryGo value (.ref l) r = pure () := by intro _; with_unfolding_all rfl) :
    wpAny (model prog w) A (subscriptTail value slice (.ref l) (.ref h.objs.size)) Q E ⟨h.push { cls := .type "slice", data := .fields #[vl, vu, .none] }, g, d, tk, os⟩ := by
  refine subscriptTail_ops (Heap.IsList.typeIs (s := ⟨h.push { cls := .type "slice", data := .fields #[vl, vu, .none] }, g, d, tk, os⟩) (hl.push _)) list_getitem_lookup
    (wpAny_getItem_list_slice (hl.push _) (Heap.IsSliceOf.new ..) pl pu .none (by simp) ?_ hsz) hs ht
  refine hq _ _ (Up.trans (up_push _ _) (up_push _ _)) ?_ ?_
  · show h.get? (h.push _).objs.size = none
    rw [Heap.size_push]
    cases e : h.get? (h.objs.size + 1) with
    | none => rfl
    | some o => exact absurd (Heap.lt_size e) (Nat.not_lt.mpr (Nat.le_succ _))
  · exact ⟨{ cls := .type "list", data := .seq (slicePick items lo hi none) }, Heap.get?_push_size _ rfl, rfl, 0, rfl⟩

theorem j_add {l b : Addr} {vs ws : List Value} {Q : Value → Shared → Prop} (hl : h.IsList l vs.toArray) (hb : h.IsList b ws.toArray) (hsz : vs.length + ws.length ≤ sizeLine)
    (hq : ∀ D h', Up h h' → h.get? D = none → h'.IsList D (vs ++ ws).toArray → Q (.ref D) ⟨h', g, d, tk, os⟩) :
    wpAny (model prog w) A (binaryOp .Add (.ref l) (.ref b)) Q E ⟨h, g, d, tk, os⟩ := by
  obtain ⟨⟨cls, dd, data, sl⟩, ho, hc, n, hd⟩ := id hl
  obtain ⟨⟨cls2, dd2, data2, sl2⟩, ho2, hc2, n2, hd2⟩ := id hb
  simp only at hc hd hc2 hd2
  subst hc hd hc2 hd2
  have e : vs.toArray ++ ws.toArray = (vs ++ ws).toArray := by simp
  refine concat_meets ⟨_, ho, rfl⟩ ⟨_, ho2, rfl⟩ noFill_list_add seq_list_add PySem.F.slot_list_add PySem.F.entry_list_add (PySem.F.args_list_add_2 _ _) (list_addW l b vs.toArray ws.toArray n n2 dd dd2 sl sl2 (by simpa using hsz)) ⟨ho, ho2, ?_⟩
  rw [e]
  refine hq _ _ (up_push _ _) ?_ ⟨_, Heap.get?_push_size _ rfl, rfl, _, rfl⟩
  cases e : h.get? h.objs.size with
  | none => rfl
  | some o => exact absurd (Heap.lt_size e) (Nat.lt_irrefl _)

theorem j_eq_nil {l b : Addr} {items : Array Value} {Q : Value → Shared → Prop} (hl : s.heap.IsList l items) (hb : s.heap.IsList b #[]) (hu : A.units < cLine) (h : Q (.bool (decide (items.size = 0))) s) :
    wpAny (model prog w) A (compareOp .Eq (.ref l) (.ref b)) Q E s := by
  by_cases hz : items.size = 0
  · rw [decide_eq_true hz] at h
    exact PySem.SeqAt.eq_listAt (e := fun _ => true) hl hb hz hu (fun j h1 _ => absurd h1 (by omega)) (by rw [hz]; exact h)
  · rw [decide_eq_false hz] at h
    exact PySem.SeqAt.eq_list_lengthsAt hl hb (by simpa using hz) hu h

theorem j_sum {l : Addr} {vs : List Value} {ns : List Int} {Q : Value → Shared → Prop} (hh : A.handled = none) (hl : h.IsList l vs.toArray) (hi : IntsAre vs ns) (hq : ∀ h' t tk', Up h h' → Q (.int ns.sum t) ⟨h', g, d, tk', os⟩) :
    wpAny (model prog w) A (call (.builtin "sum") [.ref l]) Q E ⟨h, g, d, tk, os⟩ := by
  obtain ⟨xs, e⟩ := hi.allInts.items
  have en : ns = numsOf vs.toArray.toList := hi.numsOf.symm
  rw [e] at hl en
  rw [nums_intItems] at en
  refine sum_intListG hh hl fun h' tk' t' hk => ?_
  have := hq h' t' tk' hk
  rw [preSum_eq, List.take_of_length_le (by simp), ← en]; exact this
theorem ints_get : ∀ {vs : List Value} {ns : List Int} (k : Nat), IntsAre vs ns → k < ns.length → ∃ t, vs.toArray[((k : Nat) : Int).toNat]? = some (.int (ns.getD k 0) t)
  | _, _, 0, .cons n t _, _ => ⟨t, rfl⟩
  | _, _, k + 1, .cons n t r, h => by
    obtain ⟨t', e⟩ := ints_get k r (by simpa using h)
    exact ⟨t', by simpa using e⟩
theorem ints_take {vs : List Value} {ns : List Int} (hi : IntsAre vs ns) (k : Nat) : ∃ ws : List Value, slicePick vs.toArray none (some ((k : Nat) : Int)) none = ws.toArray ∧ IntsAre ws (ns.take k) ∧ ws.length ≤ vs.length :=
  ⟨_, (Array.toArray_toList).symm, by simpa using kmk_upto hi (y := ((k : Nat) : Int)) (by omega), by
    have := (kmk_upto hi (y := ((k : Nat) : Int)) (by omega)).length
    rw [this, hi.length, List.length_take]; exact Nat.min_le_right _ _⟩
theorem ints_drop {vs : List Value} {ns : List Int} (hi : IntsAre vs ns) (k : Nat) : ∃ ws : List Value, slicePick vs.toArray (some ((k : Nat) : Int)) none none = ws.toArray ∧ IntsAre ws (ns.drop k) ∧ ws.length ≤ vs.length :=
  ⟨_, (Array.toArray_toList).symm, by simpa using kmk_from hi (x := ((k : Nat) : Int)) (by omega), by
    have := (kmk_from hi (x := ((k : Nat) : Int)) (by omega)).length
    rw [this, hi.length, List.length_drop]; exact Nat.sub_le _ _⟩
theorem slice_tail (a : Addr) (as : List Addr) : slicePick ((a :: as).map Value.ref).toArray (some 1) none none = (as.map Value.ref).toArray := by
  rw [kms_pick_eq]
  simp only [kms_pick, kms_lo, kms_hi]
  simp
  exact List.take_of_length_le (by simp)
end
end Mine

namespace Mine
set_option maxHeartbeats 8000000
def cnt (tb : Nat → Bool) : Nat → Nat
  | 0 => 0
  | n + 1 => cnt tb n + (if tb n = true then 1 else 0)
theorem cnt_le (tb : Nat → Bool) : ∀ n, cnt tb n ≤ n
  | 0 => Nat.le_refl _
  | n + 1 => by
    have := cnt_le tb n
    unfold cnt
    split <;> omega
def AnInt (y : Value) : Prop := ∃ (k : Int) (t : Tok), y = Value.int k t
theorem ints_any : ∀ vs : List Value, (∀ (j : Nat) (y : Value), vs[j]? = some y → AnInt y) → ∃ ns : List Int, IntsAre vs ns
  | [], _ => ⟨[], .nil⟩
  | v :: vs, h => by
    obtain ⟨k, t, rfl⟩ := h 0 v rfl
    obtain ⟨ns, hn⟩ := ints_any vs fun j y e => h (j + 1) y (by simpa using e)
    exact ⟨k :: ns, .cons _ _ hn⟩
section
variable {prog : Program} {w : World} {A : Around} {R : Result → Shared → Prop} {E : Value → Shared → Prop} {s : Shared} {env : Env}

/-- a comprehension with one test: what it hands on is told by the tests alone (its length) -/
theorem loopT {ct elt iter : Expr} {x : Str} {px : Pos} {scope : Scope} {cl : List (Str × Addr)} {pos : Pos} {I C D : Addr} {fp wr : List Addr} {n : Nat} {P : Nat → Value → Prop} {St : Nat → Heap → Prop} (tb : Nat → Bool)
    (W : Walks prog w A I fp wr n P St) (hsz : n ≤ sizeLine) (hDf : D ∉ fp) (hCf : C ∉ fp) (hDC : D ≠ C) (hkind : scope.kind = .function) (hx : scope.names.lookup x = some .local)
    (htest : ∀ i v h' tk m (E' : Value → Shared → Prop), i < n → P i v → h'.Ns C m → m x = some v → (∀ b o, b ≠ D → b ≠ C → b ∉ wr → s.heap.get? b = some o → h'.get? b = some o) →
      wpAny (model prog w) A (isTrue ct (compEnvC scope cl C env) (eval ct (compEnvC scope cl C env))) (fun ok s₃ => ok = tb i ∧ Keeps { s with heap := h', toks := tk } s₃) E' { s with heap := h', toks := tk })
    (helt : ∀ i v h' tk m (E' : Value → Shared → Prop), i < n → P i v → h'.Ns C m → m x = some v → (∀ b o, b ≠ D → b ≠ C → b ∉ wr → s.heap.get? b = some o → h'.get? b = some o) →
      wpAny (model prog w) A (eval elt (compEnvC scope cl C env)) (fun y s₃ => AnInt y ∧ Keeps { s with heap := h', toks := tk } s₃) E' { s with heap := h', toks := tk })
    (hst : St 0 s.heap) (hacc : s.heap.PlainList D #[]) (hns : ∃ m, s.heap.Ns C m)
    (hR : ∀ h' tk ys, h'.PlainList D ys → ys.size = cnt tb n → (∀ (j : Nat) (y : Value), ys[j]? = some y → AnInt y) → (∃ m, h'.Ns C m) → (∀ b o, b ≠ D → b ≠ C → b ∉ wr → s.heap.get? b = some o → h'.get? b = some o) → R (.ok .next) { s with heap := h', toks := tk }) :
    codeAny (model prog w) A (.compLoop (.ListComp elt [⟨.Name x px, iter, [ct], 0⟩] scope pos) 0 (.ref I) (.ref D) (compEnvC scope cl C env)) R s := by
  have hDw : D ∉ wr := fun q => hDf (W.sub D q)
  have hCw : C ∉ wr := fun q => hCf (W.sub C q)
  refine codeAny_compLoop_tests
    (fun k s' => ∃ h' tk i ys, s' = { s with heap := h', toks := tk } ∧ St i h' ∧ h'.PlainList D ys ∧ (∀ (j : Nat) (y : Value), ys[j]? = some y → AnInt y) ∧ ys.size = cnt tb i ∧ i ≤ n ∧ k = n + 1 - i ∧ (∃ m, h'.Ns C m) ∧
      (∀ b o, b ≠ D → b ≠ C → b ∉ wr → s.heap.get? b = some o → h'.get? b = some o)) ?_ (n + 1)
    ⟨s.heap, s.toks, 0, #[], rfl, hst, hacc, (fun _ _ e => by simp at e), rfl, Nat.zero_le _, rfl, hns, fun _ _ _ _ _ e => e⟩
  rintro k s' ⟨H, tk, i, ys, rfl, hSi, hl, hys0, hys, hi, rfl, ⟨m, hm⟩, hk⟩
  by_cases hlt : i < n
  · refine W.item i _ _ _ hlt hSi fun v h₂ tk₂ hP hst₂ hk₂ => ?_
    refine wpAny_assign_Name (wpAny_storeName_local (lookup_relabel_local hx) (hm.at' fun o e => hk₂ C o hCw e) (fun h₃ hn₃ hs₃ => ?_) (by simp [compEnvC, relabel, hkind]))
    refine wpAny_tests_one ?_
    have k₃ : ∀ b o, b ≠ D → b ≠ C → b ∉ wr → s.heap.get? b = some o → h₃.get? b = some o := fun b o h1 h2 h3 e => hs₃.extBut b o h2 (hk₂ b o h3 (hk b o h1 h2 h3 e))
    have l₃ : h₃.PlainList D ys := hl.at fun o e => hs₃.extBut D o hDC (hk₂ D o hDw e)
    have st₃ : St (i + 1) h₃ := W.frame _ _ _ hst₂ fun b hb o e => hs₃.extBut b o (fun q => hCf ((show b = C from q) ▸ hb)) e
    refine wpAny_mono (htest i v h₃ _ _ _ hlt hP hn₃ (by simp) k₃) (fun ok s₄ h₄ => ?_) fun _ _ e => e
    obtain ⟨rfl, h₄, tk₄, rfl, up₄⟩ := h₄
    have k₄ : ∀ b o, b ≠ D → b ≠ C → b ∉ wr → s.heap.get? b = some o → h₄.get? b = some o := fun b o h1 h2 h3 e => up₄ b o (k₃ b o h1 h2 h3 e)
    have l₄ : h₄.PlainList D ys := l₃.at fun o e => up₄ D o e
    have st₄ : St (i + 1) h₄ := W.frame _ _ _ st₃ fun b _ o e => up₄ b o e
    have n₄ := hn₃.at' (h' := h₄) fun o e => up₄ C o e
    cases ht : tb i with
    | true =>
      simp only [if_true]
      refine wpAny_mono (helt i v h₄ tk₄ _ _ hlt hP n₄ (by simp) k₄) (fun y s₅ h₅ => ?_) fun _ _ e => e
      obtain ⟨hyI, h₅, tk₅, rfl, up₅⟩ := h₅
      have l₅ : h₅.PlainList D ys := l₄.at fun o e => up₅ D o e
      refine wpAny_list_append_plain (hsz := by rw [hys]; exact Nat.le_trans (Nat.le_trans (cnt_le _ _) hi) hsz) l₅ fun h₆ l₆ hs₆ => ?_
      refine ⟨n + 1 - (i + 1), by omega, h₆, tk₅, i + 1, ys.push y, rfl, W.frame _ _ _ st₄ fun b hb o e => hs₆.extBut b o (fun q => hDf ((show b = D from q) ▸ hb)) (up₅ b o e), l₆, ?_, ?_, hlt, rfl,
        ⟨_, n₄.at' fun o e => hs₆.extBut C o (Ne.symm hDC) (up₅ C o e)⟩, fun b o h1 h2 h3 e => hs₆.extBut b o h1 (up₅ b o (k₄ b o h1 h2 h3 e))⟩
      · intro j u hj
        rw [Array.getElem?_push] at hj
        split at hj
        · cases hj; exact hyI
        · exact hys0 j u hj
      · rw [Array.size_push, hys]
        simp only [cnt, ht, if_true]
    | false =>
      simp only [Bool.false_eq_true, if_false]
      refine ⟨n + 1 - (i + 1), by omega, h₄, tk₄, i + 1, ys, rfl, st₄, l₄, hys0, ?_, hlt, rfl, ⟨_, n₄⟩, k₄⟩
      rw [hys]
      simp only [cnt, ht, Bool.false_eq_true, if_false, Nat.add_zero]
  · obtain rfl : i = n := Nat.le_antisymm hi (Nat.not_lt.mp hlt)
    refine W.done _ _ _ hSi fun h₂ tk₂ hk₂ => ?_
    exact hR h₂ tk₂ ys (hl.at fun o e => hk₂ D o hDw e) hys hys0 ⟨m, hm.at' fun o e => hk₂ C o hCw e⟩ fun b o h1 h2 h3 e => hk₂ b o h3 (hk b o h1 h2 h3 e)

theorem compT {ct elt iter : Expr} {x : Str} {px : Pos} {scope : Scope} {cl : List (Str × Addr)} {pos : Pos} {Q : Value → Shared → Prop}
    (hclos : closureFor scope env = pure cl) (hkind : scope.kind = .function) (hnames : ∀ y ∈ scope.names, y.2 = .local → scope.names.lookup y.1 = some .local)
    (hcl : ∀ k, cellsFrom k scope.names cl = cl) (hx : scope.names.lookup x = some .local)
    (h : wpAny (model prog w) A (eval iter env) (fun xv s₁ => wpAny (model prog w) A (pyIter xv) (fun it s₂ => ∃ I fp wr n P St tb, it = .ref I ∧ Walks prog w A I fp wr n P St ∧ n ≤ sizeLine ∧ St 0 s₂.heap ∧ (∀ b ∈ fp, b < s₂.heap.objs.size) ∧
      (∀ C i v h' tk m (E' : Value → Shared → Prop), s₂.heap.objs.size ≤ C → i < n → P i v → h'.Ns C m → m x = some v → (∀ b o, b ∉ wr → s₂.heap.get? b = some o → h'.get? b = some o) →
        wpAny (model prog w) A (isTrue ct (compEnvC scope cl C env) (eval ct (compEnvC scope cl C env))) (fun ok s₃ => ok = tb i ∧ Keeps { s₂ with heap := h', toks := tk } s₃) E' { s₂ with heap := h', toks := tk }) ∧
      (∀ C i v h' tk m (E' : Value → Shared → Prop), s₂.heap.objs.size ≤ C → i < n → P i v → h'.Ns C m → m x = some v → (∀ b o, b ∉ wr → s₂.heap.get? b = some o → h'.get? b = some o) →
        wpAny (model prog w) A (eval elt (compEnvC scope cl C env)) (fun y s₃ => AnInt y ∧ Keeps { s₂ with heap := h', toks := tk } s₃) E' { s₂ with heap := h', toks := tk }) ∧
      (∀ D h' tk ys, h'.PlainList D ys → ys.size = cnt tb n → (∀ (j : Nat) (y : Value), ys[j]? = some y → AnInt y) → (∀ b o, b ∉ wr → s₂.heap.get? b = some o → h'.get? b = some o) → s₂.heap.get? D = none → Q (.ref D) { s₂ with heap := h', toks := tk })) E s₁) E s)
    (hs : ∀ x, foldedSetIterable iter env x = pure x := by intro _; rfl) :
    wpAny (model prog w) A (eval (.ListComp elt [⟨.Name x px, iter, [ct], 0⟩] scope pos) env) Q E s := by
  rw [eval_ListComp]
  refine wpAny_comprehension_free (use := none) rfl hs hclos hkind hnames (wpAny_mono h (fun xv s₁ h₁ => wpAny_mono h₁ (fun it s₂ h₂ => ?_) fun _ _ e => e) fun _ _ e => e)
  obtain ⟨I, fp, wr, n, P, St, tb, rfl, W, hsz, hst0, hfp, htest, helt, hQ⟩ := h₂
  refine wpAny_newObj_type (newEnv_comp ?_)
  generalize hH1 : s₂.heap.push { cls := .type "list", dict := none, data := .seq ([] : List Value).toArray } = H1
  have hD : H1.objs.size = s₂.heap.objs.size + 1 := by rw [← hH1, Heap.size_push]
  have hDl : H1.PlainList s₂.heap.objs.size #[] := ⟨_, by rw [← hH1]; exact Heap.get?_push_size _ rfl⟩
  have up1 : Up s₂.heap H1 := fun b o e => by rw [← hH1]; exact Heap.get?_push_of_some _ e
  show codeAny _ A (.compStart _ 0 (.ref I) (.ref s₂.heap.objs.size) (compEnvC scope (cellsFrom (H1.objs.size + 1) scope.names cl) H1.objs.size env)) _ _
  rw [hcl]
  generalize hH3 : pushCells (H1.push { cls := .type "dict", data := .dict #[] }) scope.names = H3
  have up3 : Up H1 H3 := fun b o e => by rw [← hH3]; exact pushCells_keeps _ _ b o (Heap.get?_push_of_some _ e)
  have hNs : H3.Ns H1.objs.size (fun _ => none) := by rw [← hH3]; exact (Heap.Ns.new H1 (.type "dict")).keeps (pushCells_keeps _ _)
  have hCge : s₂.heap.objs.size ≤ H1.objs.size := by rw [hD]; exact Nat.le_succ _
  have hDC : s₂.heap.objs.size ≠ H1.objs.size := by rw [hD]; exact Nat.ne_of_lt (Nat.lt_succ_self _)
  have hst : St 0 H3 := W.frame _ _ _ hst0 fun b _ o e => up3 _ _ (up1 _ _ e)
  have hDf : s₂.heap.objs.size ∉ fp := fun q => Nat.lt_irrefl _ (hfp _ q)
  have hCf : H1.objs.size ∉ fp := fun q => Nat.lt_irrefl _ (Nat.lt_of_lt_of_le (hfp _ q) hCge)
  have old : ∀ b o, s₂.heap.get? b = some o → b ≠ s₂.heap.objs.size ∧ b ≠ H1.objs.size := fun b o e => ⟨Nat.ne_of_lt (Heap.lt_size e), Nat.ne_of_lt (Nat.lt_of_lt_of_le (Heap.lt_size e) hCge)⟩
  have loop : ∀ s₃ : Shared, s₃ = { s₂ with heap := H3 } → codeAny (model prog w) A (.compLoop (.ListComp elt [⟨.Name x px, iter, [ct], 0⟩] scope pos) 0 (.ref I) (.ref s₂.heap.objs.size) (compEnvC scope cl H1.objs.size env))
      (compPost (model prog w) A E none Q (.ref s₂.heap.objs.size) H1.objs.size) s₃ := by
    rintro s₃ rfl
    refine loopT tb W hsz hDf hCf hDC hkind hx
      (fun i v h' tk m E' hi hp hn hv hk => htest _ i v h' tk m E' hCge hi hp hn hv fun b o hb e => hk b o (old b o e).1 (old b o e).2 hb (up3 _ _ (up1 _ _ e)))
      (fun i v h' tk m E' hi hp hn hv hk => helt _ i v h' tk m E' hCge hi hp hn hv fun b o hb e => hk b o (old b o e).1 (old b o e).2 hb (up3 _ _ (up1 _ _ e)))
      hst (hDl.at fun o e => up3 _ o e) ⟨_, hNs⟩ (fun h' tk ys hl hn hyi hm hk => ?_)
    obtain ⟨m, hm⟩ := hm
    refine ⟨m, hm, fun h'' hs'' => ?_⟩
    refine hQ _ h'' tk ys (hl.extBut hs''.extBut hDC) hn hyi (fun b o hb e => hs''.extBut b o (old b o e).2 (hk b o (old b o e).1 (old b o e).2 hb (up3 _ _ (up1 _ _ e)))) ?_
    cases e : s₂.heap.get? s₂.heap.objs.size with
    | none => rfl
    | some o => exact absurd (Heap.lt_size e) (Nat.lt_irrefl _)
  exact codeAny_compStart_list (loop _ rfl) (W.self 0 _ _ _ hst (loop _ rfl))
end
theorem cnt_shr (a b c d : Int) : decide (cnt (fun i => [c, d].any (· == [a, b].getD i 0)) 2 = 0) = !(a == c || a == d || b == c || b == d) := by
  simp only [cnt, List.any_cons, List.any_nil, Bool.or_false, List.getD_cons_zero, List.getD_cons_succ, Nat.zero_add]
  have e1 : (c == a) = (a == c) := Bool.beq_comm
  have e2 : (d == a) = (a == d) := Bool.beq_comm
  have e3 : (c == b) = (b == c) := Bool.beq_comm
  have e4 : (d == b) = (b == d) := Bool.beq_comm
  rw [e1, e2, e3, e4]
  cases a == c <;> cases a == d <;> cases b == c <;> cases b == d <;> rfl
end Mine

namespace Mine
set_option maxHeartbeats 8000000
section
variable {prog : Program} {w : World} {A : Around} {E : Value → Shared → Prop} {s : Shared} {env : Env}
/-- a name given a comprehension's list -/
theorem compGA {elt target iter : Expr} {y : Str} {py : Pos} {scope : Scope} {cl : List (Str × Addr)} {pos spos : Pos} {Q : Flow → Shared → Prop}
    (hsw : swapsWith (.ListComp elt [⟨target, iter, [], 0⟩] scope pos) (some (.Name y py)) spos.line env = pure true)
    (hclos : closureFor scope env = pure cl) (hkind : scope.kind = .function) (hnames : ∀ y ∈ scope.names, y.2 = .local → scope.names.lookup y.1 = some .local)
    (hy : env.kindOf y = some .local) (hp : (env.scope.kind == .class || (env.scope.kind == .module && env.locals != env.globals)) = false)
    (h : wpAny (model prog w) A (eval iter env) (fun xv s₁ => wpAny (model prog w) A (pyIter xv) (fun it s₂ => ∃ n wr oc S B F m, CompOk prog w A env elt target scope cl it s₂ n wr oc S B F ∧ env.locals ∉ wr ∧ s₂.heap.Ns env.locals m ∧
      (∀ X i y h h', F X i y h → (∀ b o, b ≠ env.locals → h.get? b = some o → h'.get? b = some o) → F X i y h') ∧
      (∀ D h' tk ys X, h'.PlainList D ys → ys.size = n → (∀ i y, ys[i]? = some y → F X i y h') → h'.Ns env.locals (fun z => if z = y then some (.ref D) else m z) → (∀ b o, b ≠ env.locals → b ∉ wr → s₂.heap.get? b = some o → h'.get? b = some o) → s₂.heap.get? D = none →
        Q .next { s₂ with heap := h', toks := tk })) E s₁) E s)
    (hs : ∀ x, foldedSetIterable iter env x = pure x := by intro _; rfl) :
    wpAny (model prog w) A (exec (.Assign [.Name y py] (.ListComp elt [⟨target, iter, [], 0⟩] scope pos) spos) env) Q E s := by
  rw [exec_Assign_Name_used _ _ _ _ hsw]
  refine wpAny_bind (wpAny_standAt (wpAny_bind ?_))
  show wpAny _ A (do let _ ← comprehension (.ListComp elt [⟨target, iter, [], 0⟩] scope pos) scope env _ (newList []) false (eval iter env) (some (assign (.Name y py) env))) _ _ s
  refine wpAny_bind (wpAny_mono (wpAny_comprehension_free (use := some (assign (.Name y py) env)) (Q := fun _ s' => Q .next s') rfl hs hclos hkind hnames
    (wpAny_mono h (fun xv s₁ h₁ => wpAny_mono h₁ (fun it s₂ h₂ => ?_) fun _ _ e => e) fun _ _ e => e)) (fun _ s' hq => wpAny_pure (wpAny_pure hq)) fun _ _ e => e)
  obtain ⟨n, wr, oc, S, B, F, m, ok, hLw, hLn, hFL, hQ⟩ := h₂
  refine wpAny_newObj_type (newEnv_comp ?_)
  generalize hH1 : s₂.heap.push { cls := .type "list", dict := none, data := .seq ([] : List Value).toArray } = H1
  have hD : H1.objs.size = s₂.heap.objs.size + 1 := by rw [← hH1, Heap.size_push]
  have hDl : H1.PlainList s₂.heap.objs.size #[] := ⟨_, by rw [← hH1]; exact Heap.get?_push_size _ rfl⟩
  have up1 : Up s₂.heap H1 := fun b o e => by rw [← hH1]; exact Heap.get?_push_of_some _ e
  show codeAny _ A (.compStart _ 0 it (.ref s₂.heap.objs.size) (compEnvC scope (cellsFrom (H1.objs.size + 1) scope.names cl) H1.objs.size env)) _ _
  generalize hH3 : pushCells (H1.push { cls := .type "dict", data := .dict #[] }) scope.names = H3
  have up3 : Up H1 H3 := fun b o e => by rw [← hH3]; exact pushCells_keeps _ _ b o (Heap.get?_push_of_some _ e)
  have hNs : H3.Ns H1.objs.size (fun _ => none) := by rw [← hH3]; exact (Heap.Ns.new H1 (.type "dict")).keeps (pushCells_keeps _ _)
  have hcells : ∀ nm c, (nm, c) ∈ cellsFrom (H1.objs.size + 1) scope.names [] → H3.IsCell c none := fun nm c hm => by
    have q := cellsFrom_ok scope.names (H1.push { cls := .type "dict", data := .dict #[] }) (H1.objs.size + 1) [] ⟨fun _ _ hm => (nomatch hm), List.Pairwise.nil⟩ (by rw [Heap.size_push]; exact Nat.le_refl _)
    rw [Heap.size_push, hH3] at q
    exact (q.empty nm c hm).1
  have hCge : s₂.heap.objs.size ≤ H1.objs.size := by rw [hD]; exact Nat.le_succ _
  have hDC : s₂.heap.objs.size < H1.objs.size := by rw [hD]; exact Nat.lt_succ_self _
  have hst : S H1.objs.size 0 H3 := ok.start _ _ hCge (Up.trans up1 up3) ⟨_, hNs⟩ hcells
  have hDX : s₂.heap.objs.size ∉ H1.objs.size :: oc H1.objs.size ++ wr := by
    intro hm
    rw [List.cons_append] at hm
    rcases List.mem_cons.mp hm with e | hm
    · exact absurd e (Nat.ne_of_lt hDC)
    · rcases List.mem_append.mp hm with hm | hm
      · exact Nat.lt_irrefl _ (Nat.lt_trans hDC (ok.ocge _ _ hm))
      · exact Nat.lt_irrefl _ (ok.wrlt _ hm)
  have hXge : ∀ b ∈ s₂.heap.objs.size :: (H1.objs.size :: oc H1.objs.size ++ wr), b ∈ wr ∨ s₂.heap.objs.size ≤ b := fun b hb => by
    rcases List.mem_cons.mp hb with rfl | hb
    · exact .inr (Nat.le_refl _)
    · rw [List.cons_append] at hb
      rcases List.mem_cons.mp hb with rfl | hb
      · exact .inr hCge
      · rcases List.mem_append.mp hb with hb | hb
        · exact .inr (Nat.le_trans hCge (Nat.le_of_lt (ok.ocge _ _ hb)))
        · exact .inl hb
  have old : ∀ b o, b ∉ wr → s₂.heap.get? b = some o → b ∉ s₂.heap.objs.size :: (H1.objs.size :: oc H1.objs.size ++ wr) := fun b o hb e hm => by
    rcases hXge b hm with q | q
    · exact hb q
    · exact Nat.lt_irrefl _ (Nat.lt_of_lt_of_le (Heap.lt_size e) q)
  have loop : ∀ s₃ : Shared, s₃ = { s₂ with heap := H3 } → codeAny (model prog w) A (.compLoop (.ListComp elt [⟨target, iter, [], 0⟩] scope pos) 0 it (.ref s₂.heap.objs.size) (compEnvC scope (cellsFrom (H1.objs.size + 1) scope.names cl) H1.objs.size env))
      (compPost (model prog w) A E (some (assign (.Name y py) env)) (fun _ s' => Q .next s') (.ref s₂.heap.objs.size) H1.objs.size) s₃ := by
    rintro s₃ rfl
    refine loopG (H1.objs.size :: oc H1.objs.size ++ wr) n (S H1.objs.size) (B H1.objs.size) (fun h => ∃ m, h.Ns H1.objs.size m) (F (s₂.heap.objs.size :: (H1.objs.size :: oc H1.objs.size ++ wr))) ok.size hDX
      (fun i h h' hs hk => ok.stab _ s₂.heap.objs.size i h h' hCge (Nat.le_refl _) hDC hs hk)
      (fun i y h h' hf hk => ok.fstab _ i y h h' hf fun b o hb e => hk b o (fun q => hb (q ▸ List.mem_cons_self)) (fun q => hb (List.mem_cons_of_mem _ q)) e)
      (fun i s₁ Q' E' hi hs hq => ok.next _ i s₁ Q' E' hCge hi hs hq) (fun s₁ Q' E' hs hq => ok.done _ s₁ Q' E' hCge hs hq)
      (fun i h' tk E' hi hs hb hl hk => ok.elt _ _ i h' tk E' hCge hi hs hb hXge (fun b hb => ?_) fun b o hb e => hk b o (fun q => hb (q ▸ List.mem_cons_self)) (fun q => hb (List.mem_cons_of_mem _ q)) (up3 _ _ (up1 _ _ e)))
      hst (hDl.at fun o e => up3 _ o e) (fun h' tk ys hl hn hf hT hk => ?_)
    · rcases List.mem_cons.mp hb with rfl | hb
      · obtain ⟨ys, hl⟩ := hl
        obtain ⟨_, e⟩ := hl
        exact .inr (.inr ⟨_, e⟩)
      · rcases List.mem_append.mp hb with hb | hb
        · exact .inr (.inl hb)
        · exact .inl hb
    · obtain ⟨mC, hm⟩ := hT
      have hLlt : env.locals < s₂.heap.objs.size := hLn.lt
      have hLC : env.locals ≠ H1.objs.size := Nat.ne_of_lt (Nat.lt_of_lt_of_le hLlt hCge)
      have hLD : env.locals ≠ s₂.heap.objs.size := Nat.ne_of_lt hLlt
      have hKeep : ∀ b o, b ∉ wr → s₂.heap.get? b = some o → h'.get? b = some o := fun b o hb e => hk b o (fun q => old b o hb e (q ▸ List.mem_cons_self)) (fun q => old b o hb e (List.mem_cons_of_mem _ q)) (up3 _ _ (up1 _ _ e))
      show wpAny _ A (assign (.Name y py) env (.ref s₂.heap.objs.size)) _ _ _
      refine wpAny_assign_Name (wpAny_storeName_local hy (hLn.at' fun o e => hKeep _ o hLw e) (fun h₂ hn₂ hs₂ => ?_) hp)
      replace hs₂ : Heap.SameBut env.locals h' h₂ := hs₂
      refine ⟨mC, hm.sameBut hs₂ (Ne.symm hLC), fun h'' hs'' => ?_⟩
      replace hs'' : Heap.SameBut H1.objs.size h₂ h'' := hs''
      have hX : ∀ b o, b ∉ s₂.heap.objs.size :: (H1.objs.size :: oc H1.objs.size ++ wr) → h₂.get? b = some o → h''.get? b = some o := fun b o hb e => hs''.extBut b o (fun q => hb (by rw [q]; exact List.mem_cons_of_mem _ List.mem_cons_self)) e
      refine hQ _ h'' (tk + 1) ys _ ((hl.extBut hs₂.extBut (Ne.symm hLD)).extBut hs''.extBut (Nat.ne_of_lt hDC)) hn (fun i y e => ok.fstab _ _ _ _ _ (hFL _ _ _ _ _ (hf i y e) fun b o hb e => hs₂.extBut b o hb e) hX) (hn₂.sameBut hs'' hLC)
        (fun b o hbL hb e => hX b o (old b o hb e) (hs₂.extBut b o hbL (hKeep b o hb e))) ?_
      cases e : s₂.heap.get? s₂.heap.objs.size with
      | none => rfl
      | some o => exact absurd (Heap.lt_size e) (Nat.lt_irrefl _)
  exact codeAny_compStart_list (loop _ rfl) (ok.self _ 0 _ _ _ hst (loop _ rfl))
end
end Mine

namespace Mine
set_option maxHeartbeats 8000000
/-- a list of rows of ints -/
def Rows (h : Heap) : List Addr → List (List Int) → Prop
  | [], [] => True
  | a :: as, ns :: M => (∃ vs : List Value, h.IsList a vs.toArray ∧ IntsAre vs ns) ∧ Rows h as M
  | _, _ => False
def Matrix (h : Heap) (r : Addr) (M : List (List Int)) : Prop := ∃ as : List Addr, h.IsList r (as.map Value.ref).toArray ∧ Rows h as M

def detN : Nat → List (List Int) → Int
  | 0, _ => 1
  | n + 1, M => ((List.range (n + 1)).map fun k => (1 - 2 * ((k : Nat) : Int).fmod 2) * (M.headD []).getD k 0 * detN n ((M.drop 1).map fun r => r.take k ++ r.drop (k + 1))).sum

def SignedTells (w : World) (loose : List Str) (mean : ExcName → Option Value) (mg mb : Str → Option Value) (n : Nat) : Prop :=
  ∀ (A A₀ : Around) (env : Env) (outer : List Env) (base h₀ : Heap) (L : Addr) (m : Str → Option Value) (s : Shared) (Q E : Value → Shared → Prop) (r : Addr) (M : List (List Int)),
    A.frames = some (env :: outer) → env.frame = some L → env.scope.kind = .function → A.handled = none → A.depth + n + 1 < recursionLimit → A.units + 8 * (n + 1) < cLine →
    Below A₀ base outer h₀ → Fr h₀ L s.heap m → (hd.heap_39 w.params).In h₀ → Top topProg loose mean mg mb h₀ →
    Matrix s.heap r M → M.length = n → (∀ ns ∈ M, ns.length = n ∧ ∀ x ∈ ns, -(2 ^ 63) < x ∧ x < 2 ^ 63) → n ≤ 8 →
    (∀ t s', Keeps s s' → Q (.int (detN n M) t) s') →
    wpAny (model PySem.Challenge.rw_ib0003_01.row.prog w) A (call (.ref 87) [.ref r]) Q E s
end Mine

namespace Mine
set_option maxHeartbeats 20000000
def Stop (P : Prop) : Prop := P
theorem Stop.mk {P : Prop} (h : Stop P) : P := h
local macro_rules | `(tactic| walk_at "eval ListComp") => `(tactic| refine Stop.mk ?_)
theorem Stop.out {P : Prop} (h : P) : Stop P := h
def Aft (P : Value → Shared → Prop) (v : Value) (s : Shared) : Prop := P v s
theorem aft {M : Model} {A : Around} {t : Sem Value} {Q : Value → Shared → Prop} {E : Value → Shared → Prop} {s : Shared} (h : wpAny M A t (Aft Q) E s) : wpAny M A t Q E s := h

theorem rows_len {h : Heap} : ∀ {as : List Addr} {M : List (List Int)}, Rows h as M → as.length = M.length
  | [], [], _ => rfl
  | _ :: _, _ :: _, h => by simp [rows_len h.2]

theorem small_ok (k : Nat) (h : k ≤ 8) : Builtin.Range.small 0 (k : Int) 1 = true ∧ Builtin.Range.rangeSize 0 (k : Int) 1 = (k : Int) := by
  have : ∀ k : Nat, k ≤ 8 → Builtin.Range.small 0 (k : Int) 1 = true ∧ Builtin.Range.rangeSize 0 (k : Int) 1 = (k : Int) := by decide
  exact this k h
def minor (k : Nat) (r : List Int) : List Int := r.take k ++ r.drop (k + 1)
def cof (n : Nat) (M : List (List Int)) (k : Nat) : Int := (1 - 2 * ((k : Nat) : Int).fmod 2) * (M.headD []).getD k 0 * detN n ((M.drop 1).map fun r => r.take k ++ r.drop (k + 1))
theorem detN_succ (n : Nat) (M : List (List Int)) : detN (n + 1) M = ((List.range (n + 1)).map (cof n M)).sum := rfl
theorem rows_get : ∀ {h : Heap} {as : List Addr} {M : List (List Int)} (i : Nat), Rows h as M → i < as.length → ∃ (a : Addr) (vs : List Value), as[i]? = some a ∧ h.IsList a vs.toArray ∧ IntsAre vs (M.getD i [])
  | _, a :: _, _ :: _, 0, h, _ => let ⟨vs, h1, h2⟩ := h.1; ⟨a, vs, rfl, h1, h2⟩
  | _, _ :: as, _ :: M, i + 1, h, hi => by
    obtain ⟨a, vs, e, h1, h2⟩ := rows_get i h.2 (by simpa using hi)
    exact ⟨a, vs, by simpa using e, h1, by simpa using h2⟩
theorem matrix_of {h : Heap} {f : List Int → List Int} : ∀ (ys : List Value) (M : List (List Int)), ys.length = M.length → (∀ i y, ys[i]? = some y → ∃ (a : Addr) (vs : List Value), y = Value.ref a ∧ h.IsList a vs.toArray ∧ IntsAre vs (f (M.getD i []))) →
    ∃ as : List Addr, ys = as.map Value.ref ∧ Rows h as (M.map f)
  | [], [], _, _ => ⟨[], rfl, trivial⟩
  | y :: ys, r :: M, hl, hy => by
    obtain ⟨a, vs, rfl, h1, h2⟩ := hy 0 y rfl
    obtain ⟨as, rfl, hr⟩ := matrix_of ys M (by simpa using hl) fun i y e => by simpa using hy (i + 1) y (by simpa using e)
    exact ⟨a :: as, rfl, ⟨vs, h1, h2⟩, hr⟩
theorem ints_of_get : ∀ (k : Nat) (vs : List Value) (f : Nat → Int), vs.length = k → (∀ i y, vs[i]? = some y → ∃ t, y = Value.int (f i) t) → IntsAre vs ((List.range k).map f)
  | 0, [], _, _, _ => .nil
  | k + 1, v :: vs, f, hl, h => by
    obtain ⟨t, rfl⟩ := h 0 v rfl
    rw [List.range_succ_eq_map, List.map_cons, List.map_map]
    exact .cons _ _ (ints_of_get k vs (f ∘ Nat.succ) (by simpa using hl) fun i y e => h (i + 1) y (by simpa using e))

theorem signed_step (w : World) (loose : List Str) (mean : ExcName → Option Value) (mg mb : Str → Option Value) (n : Nat) (IH : ∀ k < n, SignedTells w loose mean mg mb k) : SignedTells w loose mean mg mb n := by
  unfold SignedTells
  k_fill
  w_top off
  intro A A₀ env outer base h₀ L m s Q E r M hA hf hke hh hdep hun B F X T hM hlen hrows hn8 hret
  refine wpAny_call ?_
  k_dflt (refine' enterCG (own := []) B F X News.nil T hA hf hke ?k6 ?k7 ?k8 ?k9 ?kB ?kD ?_ ?c2 ?c3 ?c4; (case k6 => k_is); (case k7 => k_is); (case k8 => exact (by omega)); (case k9 => exact BindsTo.of_eq rfl); (case kB => exact rfl); (case kD => decide +kernel); (case c2 => exact rfl); (case c3 => exact rfl); (case c4 => exact rfl); k_whole)
  intro g L' h₁ tk cells eg F' N' Y' B' X' T' l1
  replace eg : g = s.heap := eg
  subst eg
  k_cells Y'
  (try simp only [List.cons_append, List.nil_append] at N')
  rename_i o' d1'
  replace F' : Fr s.heap L' h₁ (fun _ => none) := F'
  replace d1' : o'.data = .cell (some (.ref r)) := d1'
  clear l1 B F X T hA hf hke
  obtain ⟨as, hR, hRows⟩ := hM
  have hal : as.length = n := (rows_len hRows).trans hlen
  (try dsimp only)
  k_steps
  rename_i D₀ h₂ F₂ N₂ l₂
  refine j_eq_nil (stays_list F₂.keep hR) ⟨_, (N₂ _ (List.Mem.head _)).1, rfl, _, rfl⟩ (by show A.units + 3 < cLine; omega) ?_
  have hz : (as.map Value.ref).toArray.size = n := by rw [List.size_toArray, List.length_map, hal]
  cases n with
  | zero =>
    rw [hz]
    dsimp only
    k_steps
    refine (?_ : Q (.int 1 _) _)
    have hd0 : detN 0 M = 1 := rfl
    rw [← hd0]
    exact hret _ _ (keeps_mk F₂.keep)
  | succ n =>
    rw [hz]
    dsimp only
    k_steps
    refine Stop.out ?_
    refine compG (cl := [(Str.ofString "rows", L' + 1)]) (by rfl) (by rfl) (by decide) ?_
    refine aft ?_
    k_steps
    rename_i h₃ tk₃ t1 u1 v1 hrng F₃ N₃ up₃
    unfold Aft
    dsimp only
    rw [hz] at hrng
    obtain ⟨hsm, hrs⟩ := small_ok (n + 1) hn8
    refine wpAny_pyIter_range hrng hsm ?_
    dsimp only
    rw [hrs]
    have hup : Up s.heap h₃ := F₃.keep
    obtain ⟨a₀, as', rfl⟩ : ∃ a as', as = a :: as' := by cases as with | nil => cases hal | cons a as' => exact ⟨a, as', rfl⟩
    obtain ⟨ns₀, M', rfl⟩ : ∃ a M', M = a :: M' := by cases M with | nil => cases hlen | cons a M' => exact ⟨a, M', rfl⟩
    obtain ⟨⟨vs₀, hR₀, hI₀⟩, hRows'⟩ := hRows
    have hlen' : M'.length = n := by simpa using hlen
    have hal' : as'.length = n := by simpa using hal
    obtain ⟨hl₀, hb₀⟩ := hrows ns₀ (List.Mem.head _)
    refine ⟨n + 1, [h₃.objs.size], fun C => [C + 1], _, _, fun _ i y _ => ∃ t, y = .int (cof n (ns₀ :: M') i) t, okCell _ (LCg.range_walks (by show A.handled = none; exact hh) 0 (n + 1)) (by rw [sizeLine_eq]; omega) ?_ ?_ (fun _ => rfl) (fun _ => rfl) rfl (fun _ _ => rfl) ?_ ?_, ?_⟩
    · show IsRangeIter _ _ _ _ _
      simpa using Heap.get?_push_size _ rfl
    · intro b hb
      show b < (h₃.push _).objs.size
      rw [List.mem_singleton.mp hb, Heap.size_push]; exact Nat.lt_succ_self _
    · exact fun _ _ _ _ _ h _ => h
    · intro C X k v h₄ tk₄ m₄ E' hC hi hP hn hc hX1 hX2 hst hk
      obtain ⟨tv, rfl⟩ := hP
      rw [Int.zero_add] at hc
      have up₄ : Up h₃ h₄ := fun b o e => hk b o (fun hb => by
        have e2 := Heap.lt_size e
        rcases hX1 b hb with q | q
        · rw [List.mem_singleton.mp q] at e2; exact Nat.lt_irrefl _ e2
        · have q' : h₃.objs.size + 1 ≤ b := by rw [← Heap.size_push]; exact q
          exact Nat.lt_irrefl _ (Nat.lt_of_lt_of_le (Nat.lt_succ_of_lt e2) q')) (Heap.get?_push_of_some _ e)
      have F₄ := F₃.keeps up₄
      have N₄ := News.grown N₃ up₄
      have hrc : h₄.IsCell (L' + 1) (some (.ref r)) := ⟨_, (N₄ _ (List.Mem.tail _ (List.Mem.head _))).1, d1'⟩
      have hs₄ : Up s.heap h₄ := F₄.keep
      have hR4 := list_up hR hs₄
      have hR04 := list_up hR₀ hs₄
      have X₄ : (hd.heap_39 w.params).In h₄ := X'.keeps hs₄
      have T₄ := T'.keeps hs₄
      dsimp only
      refine wpAny_BinOp (wpAny_BinOp (wpAny_BinOp (j_const fun t5 tk5 => wpAny_BinOp (j_const fun t6 tk6 => wpAny_BinOp ?_))))
      refine nameCell rfl rfl rfl hc (j_const fun t7 tk7 => j_mod (by decide) fun t8 tk8 => j_mul (by decide) (by decide) fun t9 tk9 => j_sub fun t10 tk10 => ?_)
      refine Subscript_ (Subscript_ (nameCell rfl rfl rfl hrc (j_const fun t11 tk11 => ?_)))
      refine j_item hR4 (by decide) (by decide) (v := .ref a₀) (by rfl) ?_
      refine nameCell rfl rfl rfl hc ?_
      obtain ⟨te, hte⟩ := ints_get k hI₀ (by rw [hl₀]; exact hi)
      refine j_item hR04 (by omega) (by omega) hte ?_
      have hb := hb₀ (ns₀.getD k 0) (by
        rw [List.getD_eq_getElem?_getD, List.getElem?_eq_getElem (by omega)]
        exact List.getElem_mem _)
      have hsg : (1 - 2 * ((k : Nat) : Int).fmod 2 = 1) ∨ (1 - 2 * ((k : Nat) : Int).fmod 2 = -1) := by
        rw [Int.fmod_eq_emod_of_nonneg _ (by decide)]; omega
      refine j_mul (by rcases hsg with q | q <;> rw [q] <;> decide) (by rcases hsg with q | q <;> rw [q] <;> decide) fun t12 tk12 => ?_
      refine Call_ ?_
      refine nameGlobal X₄ T₄ (by k_is) rfl rfl rfl ?_
      refine callWith_K X₄ (by k_is) ?_
      refine spliced_more ?_
      refine compG (cl := [(Str.ofString "k", C + 1)]) (by rfl) (by rfl) (by decide) ?_
      refine Subscript_ (nameCell rfl rfl rfl hrc (wpAny_Slice (evalPart_some_step (j_const fun t13 tk13 => evalPart_none_step (evalPart_none_step ?_)))))
      dsimp only
      refine j_slice hR4 (.int 1 _) .none (by rw [hz, sizeLine_eq]; omega) fun l₅ h₅ up₅ _ hl₅ => ?_
      rw [slice_tail] at hl₅
      refine wpAny_pyIter_list hl₅ ?_
      dsimp only
      have hIlt : l₅ ≠ h₅.objs.size := Nat.ne_of_lt (list_lt hl₅)
      have up₅' : Up h₅ (h₅.push { cls := .type "list_iterator", data := .fields #[.ref l₅, .int 0 0] }) := up_push _ _
      refine ⟨(as'.map Value.ref).toArray.size, [h₅.objs.size], fun _ => [], _, _, fun X i y h => ∃ a vs, y = .ref a ∧ a ∉ X ∧ h.IsList a (List.toArray vs) ∧ IntsAre vs (minor k (M'.getD i [])),
        okLocal _ (Walks.list (by show A.handled = none; exact hh) h₅.objs.size l₅ hIlt (as'.map Value.ref).toArray) (by rw [List.size_toArray, List.length_map, hal', sizeLine_eq]; omega) ?_ ?_ (fun _ => rfl) rfl rfl ?_ ?_, ?_⟩
      · exact ⟨⟨_, Heap.get?_push_size _ rfl, rfl, rfl⟩, list_up hl₅ up₅'⟩
      · intro b hb
        show b < (h₅.push _).objs.size
        rw [Heap.size_push]
        rcases List.mem_cons.mp hb with rfl | hb
        · exact Nat.lt_succ_self _
        · rw [List.mem_singleton.mp hb]; exact Nat.lt_succ_of_lt (list_lt hl₅)
      · rintro X i y h h' ⟨a, vs, rfl, ha, hl, hi⟩ hk
        exact ⟨a, vs, rfl, ha, list_but hl ha hk, hi⟩
      · intro C3 X3 i v h₆ tk₆ m₆ E6 hC3 hi3 hP hn3 hv3 hX31 hX32 hst3 hk3
        have hi3' : i < as'.length := by simpa using hi3
        obtain ⟨ai, vi, hai, hli, hIi⟩ := rows_get i hRows' hi3'
        have hve : v = .ref ai := by
          have : (as'.map Value.ref).toArray[i]? = some (.ref ai) := by simp [hai]
          rw [this] at hP; exact (Option.some.inj hP).symm
        subst hve
        have hX3 : ∀ b ∈ X3, ∃ o, h₆.get? b = some o := fun b hb => by
          rcases hX32 b hb with q | q | q
          · rw [List.mem_singleton.mp q]
            obtain ⟨o, e, _⟩ := hst3.1
            exact ⟨o, e⟩
          · rw [q]
            obtain ⟨o, _, _, e, _⟩ := hn3
            exact ⟨o, e⟩
          · exact q
        have up₆ : Up h₅ h₆ := fun b o e => hk3 b o (fun hb => by
          have e2 := Heap.lt_size e
          rcases hX31 b hb with q | q
          · rw [List.mem_singleton.mp q] at e2; exact Nat.lt_irrefl _ e2
          · have q' : h₅.objs.size + 1 ≤ b := by rw [← Heap.size_push]; exact q
            exact Nat.lt_irrefl _ (Nat.lt_of_lt_of_le (Nat.lt_succ_of_lt e2) q')) (Heap.get?_push_of_some _ e)
        have hc6 := cell_up hc (Up.trans up₅ up₆)
        have hl6 := list_up hli (Up.trans hs₄ (Up.trans up₅ up₆))
        have hml := (hrows (M'.getD i []) (List.mem_cons_of_mem _ (by
          rw [List.getD_eq_getElem?_getD, List.getElem?_eq_getElem (by omega)]
          exact List.getElem_mem _))).1
        have hvl : vi.length = n + 1 := by rw [hIi.length, hml]
        obtain ⟨ws, ew, hw, hwl⟩ := ints_take hIi k
        obtain ⟨us, eu, hu, hul⟩ := ints_drop hIi (k + 1)
        have ek : ((k + 1 : Nat) : Int) = (k : Int) + 1 := by omega
        dsimp only
        refine wpAny_BinOp (Subscript_ (nameLocal rfl rfl hn3 hv3 (wpAny_Slice (evalPart_none_step (evalPart_some_step (nameCell rfl rfl rfl hc6 (evalPart_none_step ?_)))))))
        dsimp only
        refine j_slice hl6 .none (.int _ _) (by rw [List.size_toArray, hvl, sizeLine_eq]; omega) fun l7 h7 up7 hf7 hl7 => ?_
        rw [ew] at hl7
        refine Subscript_ (nameLocal rfl rfl (ns_up hn3 up7) hv3 (wpAny_Slice (evalPart_some_step (wpAny_BinOp (nameCell rfl rfl rfl (cell_up hc6 up7) (j_const fun t20 tk20 => j_plus fun t21 tk21 => evalPart_none_step (evalPart_none_step ?_)))))))
        dsimp only
        refine j_slice (list_up hl6 up7) (.int _ _) .none (by rw [List.size_toArray, hvl, sizeLine_eq]; omega) fun l8 h8 up8 hf8 hl8 => ?_
        rw [← ek, eu] at hl8
        refine j_add (list_up hl7 up8) hl8 (by rw [sizeLine_eq]; omega) fun D9 h9 up9 hf9 hl9 => ?_
        refine ⟨kp (Up.trans up7 (Up.trans up8 up9)), D9, _, rfl, fun hb => ?_, hl9, hw.append hu⟩
        obtain ⟨o, e⟩ := hX3 _ hb
        rw [up8 _ _ (up7 _ _ e)] at hf9; cases hf9
      · intro D h₇ tk₇ ys X₇ hD hyn hys hk₇ hDn
        refine spliced_none ?_
        have up₇ : Up h₅ h₇ := fun b o e => hk₇ b o (fun hb => by
          rw [List.mem_singleton.mp hb] at e
          exact Nat.lt_irrefl _ (Heap.lt_size e)) (Heap.get?_push_of_some _ e)
        have upA : Up s.heap h₇ := Up.trans hs₄ (Up.trans up₅ up₇)
        refine ⟨X'.keeps upA, ?_⟩
        obtain ⟨as₇, hys', hRows₇⟩ := matrix_of (f := minor k) ys.toList M' (by rw [Array.length_toList, hyn]; simp [hal', hlen']) (fun i y e => by
          obtain ⟨a, vs, h1, _, h2, h3⟩ := hys i y (by simpa using e)
          exact ⟨a, vs, h1, h2, h3⟩)
        have hDm : Matrix h₇ D (M'.map (minor k)) := ⟨as₇, by rw [← hys', Array.toArray_toList]; exact hD.isList, hRows₇⟩
        have hklt : k ≤ n := Nat.le_of_lt_succ hi
        refine IH n (Nat.lt_succ_self n) _ A _ (env :: outer) base s.heap L' (fun _ => none) _ _ _ D (M'.map (minor k)) (Around.frames_deeper B'.stack) rfl rfl (by show A.handled = none; exact hh) (by show A.depth + 1 + n + 1 < recursionLimit; omega)
          (by show A.units + 3 + 8 * (n + 1) < cLine; omega) B' (F₄.keeps (Up.trans up₅ up₇)) X' T' hDm (by rw [List.length_map, hlen']) (fun ns hns => ?_) (by omega) fun t30 s30 hs30 => ?_
        · obtain ⟨r₀, hr₀, rfl⟩ := List.mem_map.mp hns
          obtain ⟨q1, q2⟩ := hrows r₀ (List.mem_cons_of_mem _ hr₀)
          refine ⟨by simp only [minor, List.length_append, List.length_take, List.length_drop]; omega, fun x hx => q2 x ?_⟩
          rcases List.mem_append.mp hx with hx | hx
          · exact List.mem_of_mem_take hx
          · exact List.mem_of_mem_drop hx
        · obtain ⟨h31, tk31, rfl, up31⟩ := hs30
          dsimp only
          refine j_mul (by rcases hsg with q | q <;> rw [q] <;> omega) (by rcases hsg with q | q <;> rw [q] <;> omega) fun t32 tk32 => ?_
          exact ⟨kp (Up.trans up₅ (Up.trans up₇ up31)), t32, rfl⟩
    · intro D h₇ tk₇ ys X₇ hD hyn hys hk₇ hDn
      have up₇ : Up h₃ h₇ := fun b o e => hk₇ b o (fun hb => by
        rw [List.mem_singleton.mp hb] at e
        exact Nat.lt_irrefl _ (Heap.lt_size e)) (Heap.get?_push_of_some _ e)
      obtain ⟨vs, rfl⟩ : ∃ vs : List Value, ys = vs.toArray := ⟨ys.toList, (Array.toArray_toList).symm⟩
      have hI₇ : IntsAre vs ((List.range (n + 1)).map (cof n (ns₀ :: M'))) := ints_of_get (n + 1) vs _ (by simpa using hyn) fun i y e => hys i y (by simpa using e)
      obtain ⟨kD, hDo⟩ := hD
      have F₇ := F₃.keeps up₇
      have N₇ : News s.heap L' h₇ [(D, listOf vs.toArray kD)] := fun p hp => by
        rw [List.mem_singleton.mp hp]
        refine ⟨hDo, fun e => ?_, ?_⟩
        · have e' : D = L' := e
          obtain ⟨oL, _, _, hoL, _⟩ := F₃.ns
          rw [← e'] at hoL
          have := Heap.get?_push_of_some { cls := .type "range_iterator", data := .fields #[rawInt 0, rawInt ↑(n + 1), rawInt 1] } hoL
          rw [hDn] at this; cases this
        · cases e : s.heap.get? D with
          | none => rfl
          | some o => rw [Heap.get?_push_of_some _ (hup _ _ e)] at hDn; cases hDn
      clear F₃ N₃
      (try dsimp only)
      k_steps
      refine j_sum (by show A.handled = none; exact hh) (by assumption) hI₇ fun h₈ t₈ tk₈ up₈ => ?_
      rw [← detN_succ]
      exact hret _ _ ⟨h₈, tk₈, rfl, Up.trans hup (Up.trans up₇ up₈)⟩

theorem signed_all (w : World) (loose : List Str) (mean : ExcName → Option Value) (mg mb : Str → Option Value) : ∀ n, SignedTells w loose mean mg mb n := fun n =>
  Nat.strongRecOn n fun n ih => signed_step w loose mean mg mb n ih
end Mine

namespace Mine
set_option maxHeartbeats 20000000
local macro_rules | `(tactic| walk_at "nowhere") => `(tactic| skip)
def wterm (ns : List Int) (x : Int) (i : Nat) : Int := ns.getD i 0 * x ^ i
def worthN (ns : List Int) (x : Int) : Int := ((List.range ns.length).map (wterm ns x)).sum
abbrev Small (x : Int) : Prop := -(2 ^ 63) < x ∧ x < 2 ^ 63

def WorthTells (w : World) (loose : List Str) (mean : ExcName → Option Value) (mg mb : Str → Option Value) : Prop :=
  ∀ (A A₀ : Around) (env : Env) (outer : List Env) (base h₀ : Heap) (L : Addr) (m : Str → Option Value) (s : Shared) (Q E : Value → Shared → Prop) (r : Addr) (vs : List Value) (ns : List Int) (x : Int) (tx : Tok),
    A.frames = some (env :: outer) → env.frame = some L → env.scope.kind = .function → A.handled = none → A.depth + 1 < recursionLimit → A.units + 16 < cLine →
    Below A₀ base outer h₀ → Fr h₀ L s.heap m → (hd.heap_39 w.params).In h₀ → Top topProg loose mean mg mb h₀ →
    s.heap.IsList r vs.toArray → IntsAre vs ns → ns.length ≤ 8 → (∀ y ∈ ns, Small y) → Small x →
    (∀ t s', Keeps s s' → Q (.int (worthN ns x) t) s') →
    wpAny (model PySem.Challenge.rw_ib0003_01.row.prog w) A (call (.ref 99) [.ref r, .int x tx]) Q E s

theorem j_pow {prog : Program} {w : World} {A : Around} {E : Value → Shared → Prop} {h : Heap} {g : Array GenState} {d : Drawn} {tk : Nat} {os : OsState} {x : Int} {t u : Tok} {k : Nat} {Q : Value → Shared → Prop} (hk : k ≤ 8) (hx : Small x)
    (hq : ∀ t tk', Q (.int (x ^ k) t) ⟨h, g, d, tk', os⟩) : wpAny (model prog w) A (binaryOp .Pow (.int x t) (.int (k : Int) u)) Q E ⟨h, g, d, tk, os⟩ := by
  refine pow_int (by omega) ?_ (by rw [Int.toNat_natCast]; exact hq _ _)
  have h1 := intBits_le_64 (k := x) (by have := hx.1; omega) (by have := hx.2; omega)
  have h2 : (Builtin.Int.intBits x : Int) * (k : Int) ≤ 64 * 8 := by
    have : Builtin.Int.intBits x * k ≤ 64 * 8 := Nat.mul_le_mul h1 hk
    exact_mod_cast this
  omega
theorem news_one {h₀ h h₁ h' : Heap} {L D : Addr} {m : Str → Option Value} {o : Obj} (F : Fr h₀ L h m) (u₀ : Up h h) (u : Up h h₁) (hn : h₁.get? D = none) (ho : h'.get? D = some o) : News h₀ L h' [(D, o)] := fun p hp => by
  rw [List.mem_singleton.mp hp]
  refine ⟨ho, fun e => ?_, ?_⟩
  · have e' : D = L := e
    obtain ⟨oL, _, _, hoL, _⟩ := F.ns
    rw [← e'] at hoL
    rw [u _ _ hoL] at hn; cases hn
  · cases e : h₀.get? D with
    | none => rfl
    | some o => rw [u _ _ (F.keep _ _ e)] at hn; cases hn

local macro_rules | `(tactic| walk_at "eval ListComp") => `(tactic| refine Stop.mk ?_)

theorem worth_tells (w : World) (loose : List Str) (mean : ExcName → Option Value) (mg mb : Str → Option Value) : WorthTells w loose mean mg mb := by
  unfold WorthTells
  k_fill
  w_top off
  intro A A₀ env outer base h₀ L m s Q E r vs ns x tx hA hf hke hh hdep hun B F X T hR hI hlen hb hx hret
  refine wpAny_call ?_
  k_dflt (refine' enterCG (own := []) B F X News.nil T hA hf hke ?k6 ?k7 ?k8 ?k9 ?kB ?kD ?_ ?c2 ?c3 ?c4; (case k6 => k_is); (case k7 => k_is); (case k8 => exact (by omega)); (case k9 => exact BindsTo.of_eq rfl); (case kB => exact rfl); (case kD => decide +kernel); (case c2 => exact rfl); (case c3 => exact rfl); (case c4 => exact rfl); k_whole)
  intro g L' h₁ tk cells eg F' N' Y' B' X' T' l1
  replace eg : g = s.heap := eg
  subst eg
  k_cells Y'
  (try simp only [List.cons_append, List.nil_append] at N')
  rename_i o' d1'
  replace F' : Fr s.heap L' h₁ (fun y => if y = Str.ofString "row" then some (.ref r) else none) := F'
  replace d1' : o'.data = .cell (some (.int x tx)) := d1'
  clear l1 B F X T hA hf hke
  (try dsimp only)
  k_steps
  refine Stop.out ?_
  refine compG (cl := [(Str.ofString "number", L' + 1)]) (by rfl) (by rfl) (by decide) ?_
  refine aft ?_
  k_steps
  have hR1 := stays_list F'.keep hR
  have hrlt := list_lt hR1
  refine call_enumerate_list hR1 fun h₂ he₂ hit₂ hz₂ up₂ => ?_
  dsimp only at he₂ hit₂ hz₂ up₂
  unfold Aft
  dsimp only
  refine wpAny_pyIter_enum he₂ ?_
  have hc₂ : h₂.IsCell (L' + 1) (some (.int x tx)) := ⟨_, up₂ _ _ (N' _ (List.Mem.head _)).1, d1'⟩
  have hsz : vs.toArray.size = ns.length := by rw [List.size_toArray, hI.length]
  refine ⟨vs.toArray.size, [h₁.objs.size + 1, h₁.objs.size], fun _ => [], _, _, fun _ i y _ => ∃ t, y = .int (wterm ns x i) t,
    okEnum _ (by show A.handled = none; exact hh) (by rw [hsz, sizeLine_eq]; omega) he₂ hit₂ (list_up hR1 up₂) (Nat.succ_ne_self _) (Nat.ne_of_lt (Nat.lt_succ_of_lt hrlt)) (Nat.ne_of_lt hrlt) (fun _ => rfl) rfl rfl rfl (by decide) (fun _ _ _ _ _ h _ => h) ?_, ?_⟩
  · intro C X i v ti h₃ tk₃ m₃ E3 hC hi hv hn h1 h2 hX1 hX2 hk
    rw [hsz] at hi
    have up₃ : ∀ b o, b < h₁.objs.size → h₂.get? b = some o → h₃.get? b = some o := fun b o hb e => hk b o (fun hbX => by
      rcases hX1 b hbX with q | q
      · rcases List.mem_cons.mp q with q | q
        · rw [q] at hb; exact Nat.lt_irrefl _ (Nat.lt_of_succ_lt hb)
        · rw [List.mem_singleton.mp q] at hb; exact Nat.lt_irrefl _ hb
      · have q' : h₂.objs.size ≤ b := q
        rw [hz₂] at q'
        exact Nat.lt_irrefl _ (Nat.lt_of_lt_of_le (Nat.lt_succ_of_lt (Nat.lt_succ_of_lt hb)) q')) e
    have hc₃ : h₃.IsCell (L' + 1) (some (.int x tx)) := ⟨_, up₃ _ _ (Heap.lt_size (N' _ (List.Mem.head _)).1) (up₂ _ _ (N' _ (List.Mem.head _)).1), d1'⟩
    obtain ⟨te, hte⟩ := ints_get i hI hi
    rw [Int.toNat_natCast] at hte
    have hve : v = .int (ns.getD i 0) te := by rw [hte] at hv; exact (Option.some.inj hv).symm
    subst hve
    have hbi := hb (ns.getD i 0) (by
      rw [List.getD_eq_getElem?_getD, List.getElem?_eq_getElem hi]
      exact List.getElem_mem _)
    dsimp only
    refine wpAny_BinOp (nameLocal rfl rfl hn h2 (wpAny_BinOp (nameCell rfl rfl rfl hc₃ (nameLocal rfl rfl hn h1 ?_))))
    refine j_pow (by omega) hx fun t4 tk4 => ?_
    refine j_mul (by have := hbi.1; omega) (by have := hbi.2; omega) fun t5 tk5 => ?_
    exact ⟨kp (Up.refl _), t5, rfl⟩
  · intro D h₇ tk₇ ys X₇ hD hyn hys hk₇ hDn
    rw [hsz] at hyn
    obtain ⟨vs', rfl⟩ : ∃ vs : List Value, ys = vs.toArray := ⟨ys.toList, (Array.toArray_toList).symm⟩
    have hI₇ : IntsAre vs' ((List.range ns.length).map (wterm ns x)) := ints_of_get ns.length vs' _ (by simpa using hyn) fun i y e => hys i y (by simpa using e)
    have up₇ : Up h₁ h₇ := fun b o e => hk₇ b o (fun hb => by
      have e2 := Heap.lt_size e
      rcases List.mem_cons.mp hb with q | q
      · rw [q] at e2; exact Nat.lt_irrefl _ (Nat.lt_of_succ_lt e2)
      · rw [List.mem_singleton.mp q] at e2; exact Nat.lt_irrefl _ e2) (up₂ _ _ e)
    obtain ⟨kD, hDo⟩ := hD
    have F₇ := F'.keeps up₇
    have hup : Up s.heap h₁ := F'.keep
    have N₇ : News s.heap L' h₇ [(D, listOf vs'.toArray kD)] := news_one F' (Up.refl _) (fun b o e => up₂ b o e) hDn hDo
    clear F' N'
    (try dsimp only)
    k_steps
    refine j_sum (by show A.handled = none; exact hh) (by assumption) hI₇ fun h₈ t₈ tk₈ up₈ => ?_
    exact hret _ _ ⟨h₈, tk₈, rfl, Up.trans hup (Up.trans up₇ up₈)⟩
end Mine

namespace Mine
set_option maxHeartbeats 20000000
def sylv (a b : Int × Int × Int) : Int := detN 4 [[a.2.2, a.2.1, a.1, 0], [0, a.2.2, a.2.1, a.1], [b.2.2, b.2.1, b.1, 0], [0, b.2.2, b.2.1, b.1]]

def BothTells (w : World) (loose : List Str) (mean : ExcName → Option Value) (mg mb : Str → Option Value) : Prop :=
  ∀ (A A₀ : Around) (env : Env) (outer : List Env) (base h₀ : Heap) (L : Addr) (m : Str → Option Value) (s : Shared) (Q E : Value → Shared → Prop) (r q : Addr) (vs us : List Value) (a0 a1 a2 b0 b1 b2 : Int),
    A.frames = some (env :: outer) → env.frame = some L → env.scope.kind = .function → A.handled = none → A.depth + 6 < recursionLimit → A.units + 64 < cLine →
    Below A₀ base outer h₀ → Fr h₀ L s.heap m → (hd.heap_39 w.params).In h₀ → Top topProg loose mean mg mb h₀ →
    s.heap.IsList r vs.toArray → IntsAre vs [a0, a1, a2] → s.heap.IsList q us.toArray → IntsAre us [b0, b1, b2] → (Small a0 ∧ Small a1 ∧ Small a2) → (Small b0 ∧ Small b1 ∧ Small b2) →
    (∀ t s', Keeps s s' → Q (.int (sylv (a0, a1, a2) (b0, b1, b2)) t) s') →
    wpAny (model PySem.Challenge.rw_ib0003_01.row.prog w) A (call (.ref 94) [.ref r, .ref q]) Q E s

theorem ints3 {vs : List Value} {a b c : Int} (h : IntsAre vs [a, b, c]) : ∃ t u v, vs = [.int a t, .int b u, .int c v] := by
  cases h with
  | cons _ t h => cases h with
    | cons _ u h => cases h with
      | cons _ v h => cases h; exact ⟨t, u, v, rfl⟩

local macro_rules | `(tactic| walk_at "call ref") => `(tactic| refine Stop.mk ?_)

theorem both_tells (w : World) (loose : List Str) (mean : ExcName → Option Value) (mg mb : Str → Option Value) : BothTells w loose mean mg mb := by
  unfold BothTells
  k_fill
  w_top off
  intro A A₀ env outer base h₀ L m s Q E r q vs us a0 a1 a2 b0 b1 b2 hA hf hke hh hdep hun B F X T hR hI hR' hI' ha hb hret
  rcases A with ⟨ah, dp, fr, gd, un⟩
  dsimp only at hA hh hdep hun
  subst hh hA
  obtain ⟨t0, t1, t2, rfl⟩ := ints3 hI
  obtain ⟨u0, u1, u2, rfl⟩ := ints3 hI'
  refine wpAny_call ?_
  k_dflt (refine' enterG (own := []) B F X News.nil T rfl hf hke ?k6 ?k7 ?k8 ?k9 ?kB ?_ ?c2 ?c3 ?c4 ?c5; (case k6 => k_is); (case k7 => k_is); (case k8 => exact (by show dp < recursionLimit; omega)); (case k9 => exact BindsTo.of_eq rfl); (case c5 => decide); (case kB => exact locs rfl); (case c2 => exact rfl); (case c3 => exact rfl); (case c4 => exact rfl); k_whole)
  intro g L' h₁ eg F' N' B' X' T'
  replace eg : g = s.heap := eg
  subst eg
  clear B F X T hf hke
  (try dsimp only)
  k_steps
  rename_i F₂ N₂ _
  refine Stop.out ?_
  refine signed_all w loose mean mg mb 4 _ _ _ (env :: outer) base s.heap L' _ _ _ _ _ [[a2, a1, a0, 0], [0, a2, a1, a0], [b2, b1, b0, 0], [0, b2, b1, b0]] (Around.frames_deeper B'.stack) rfl rfl rfl (by show dp + 1 + 4 + 1 < recursionLimit; omega)
    (by show un + 3 + 8 * (4 + 1) < cLine; omega) B' F₂ X' T' ⟨[_, _, _, _], News.isList N₂ (List.Mem.head _), ⟨[_, _, _, _], News.isList N₂ (by k_mem), (by exact .cons _ _ (.cons _ _ (.cons _ _ (.cons _ _ .nil))))⟩,
      ⟨[_, _, _, _], News.isList N₂ (by k_mem), (by exact .cons _ _ (.cons _ _ (.cons _ _ (.cons _ _ .nil))))⟩, ⟨[_, _, _, _], News.isList N₂ (by k_mem), (by exact .cons _ _ (.cons _ _ (.cons _ _ (.cons _ _ .nil))))⟩,
      ⟨[_, _, _, _], News.isList N₂ (by k_mem), (by exact .cons _ _ (.cons _ _ (.cons _ _ (.cons _ _ .nil))))⟩, trivial⟩ rfl ?_ (by decide) ?_
  · have h0 : -2 ^ 63 < (0 : Int) ∧ (0 : Int) < 2 ^ 63 := by decide
    intro ns hns
    simp only [List.mem_cons, List.not_mem_nil, or_false] at hns
    rcases hns with rfl | rfl | rfl | rfl <;> refine ⟨rfl, fun x hx => ?_⟩ <;> simp only [List.mem_cons, List.not_mem_nil, or_false] at hx <;> rcases hx with rfl | rfl | rfl | rfl <;>
      first | exact h0 | exact ha.1 | exact ha.2.1 | exact ha.2.2 | exact hb.1 | exact hb.2.1 | exact hb.2.2
  · rintro t9 s9 ⟨h9, tk9, rfl, up9⟩
    exact hret t9 _ ⟨h9, tk9, rfl, Up.trans F₂.keep up9⟩
end Mine

namespace Mine
set_option maxHeartbeats 8000000
/-! keys that are ints or texts -/
abbrev Mix := Int ⊕ Str
def mixIs : Mix → Value → Bool
  | .inl i, v => Value.isInt i v
  | .inr x, v => Value.isStrOf x v

def mixKind (prog : Program) (w : World) : KeyKind prog w Mix where
  is := mixIs
  hash := fun k => match k with
    | .inl i => (intKind prog w).hash i
    | .inr x => (strKind prog w).hash x
  inj := fun v a b ha hb => by
    cases a with
    | inl i =>
      have ha' : Value.isInt i v = true := ha
      obtain ⟨t, rfl⟩ := Value.isInt_shape ha'
      cases b with
      | inl j => exact congrArg Sum.inl ((intKind prog w).inj (.int i t) _ _ ha' hb)
      | inr y =>
        have hb' : Value.isStrOf y (.int i t) = true := hb
        obtain ⟨_, e⟩ := Value.isStrOf_shape hb'; cases e
    | inr x =>
      have ha' : Value.isStrOf x v = true := ha
      obtain ⟨t, rfl⟩ := Value.isStrOf_shape ha'
      cases b with
      | inl j =>
        have hb' : Value.isInt j (.str x t) = true := hb
        obtain ⟨_, e⟩ := Value.isInt_shape hb'; cases e
      | inr y => exact congrArg Sum.inr ((strKind prog w).inj (.str x t) _ _ ha' hb)
  byValue := fun k v h => by
    cases k with
    | inl i => exact (intKind prog w).byValue i v h
    | inr x => exact (strKind prog w).byValue x v h
  pyHash := fun {A E s k v Q} hv h => by
    cases k with
    | inl i => exact (intKind prog w).pyHash (k := i) hv h
    | inr x => exact (strKind prog w).pyHash (k := x) hv h
  eqBool := fun {A E s a b u v Q} ha hb h => by
    cases a with
    | inl i =>
      cases b with
      | inl j => exact (intKind prog w).eqBool (a := i) (b := j) ha hb (by simpa using h)
      | inr y =>
        have ha' : Value.isInt i u = true := ha
        have hb' : Value.isStrOf y v = true := hb
        obtain ⟨t, rfl⟩ := Value.isInt_shape ha'
        obtain ⟨t', rfl⟩ := Value.isStrOf_shape hb'
        exact PySem.SeqAt.EqAt.int_str _ _ _ _ _ _ _ _ (by simpa using h)
    | inr x =>
      have ha' : Value.isStrOf x u = true := ha
      cases b with
      | inl j =>
        have hb' : Value.isInt j v = true := hb
        obtain ⟨t, rfl⟩ := Value.isStrOf_shape ha'
        obtain ⟨t', rfl⟩ := Value.isInt_shape hb'
        exact PySem.SeqAt.EqAt.str_int _ _ _ _ _ _ _ _ (by simpa using h)
      | inr y => exact (strKind prog w).eqBool (a := x) (b := y) ha hb (by simpa using h)
  «strs» := fun k x t v h => by
    cases k with
    | inl i =>
      have h' : Value.isInt i (.str x t) = true := h
      obtain ⟨_, e⟩ := Value.isInt_shape h'; cases e
    | inr y => exact (strKind prog w).«strs» y x t v h

/-- ('power', k, 'of') -/
def pk (k : Int) : List Mix := [.inr (Str.ofString "power"), .inl k, .inr (Str.ofString "of")]
theorem pk_inj {i j : Int} (h : pk i = pk j) : i = j := by
  simp only [pk, List.cons.injEq, Sum.inl.injEq, and_true, true_and] at h
  exact h
abbrev tk3 (prog : Program) (w : World) : HeapKind prog w (List Mix) := tupleKind (mixKind prog w)
theorem pk_key {prog : Program} {w : World} {h : Heap} {a : Addr} {k : Int} {t u v : Tok} {n : Nat} (e : h.get? a = some { cls := .type "tuple", data := .seq #[.str (Str.ofString "power") t, .int k u, .str (Str.ofString "of") v] n }) : (tk3 prog w).is h (pk k) a :=
  ⟨_, _, _, e, rfl, rfl, .cons (by simp [mixKind, mixIs, Value.isStrOf]) (.cons (by simp [mixKind, mixIs, Value.isInt]) (.cons (by simp [mixKind, mixIs, Value.isStrOf]) .nil))⟩
theorem pk_up {prog : Program} {w : World} {h h' : Heap} {a : Addr} {k : List Mix} (x : (tk3 prog w).is h k a) (u : ∀ o, h.get? a = some o → h'.get? a = some o) : (tk3 prog w).is h' k a :=
  let ⟨o, it, n, e, r⟩ := x; ⟨o, it, n, u _ e, r⟩

/-! a dict as it lies -/
def RawD (h : Heap) (d : Addr) (es : Array DictEntry) (ep : Nat) : Prop := ∃ o, h.get? d = some o ∧ o.ExactDict ∧ o.data = .dict es ep
theorem RawD.typeIs {s : Shared} {d : Addr} {es : Array DictEntry} {ep : Nat} (x : RawD s.heap d es ep) : s.TypeIs (.ref d) "dict" := let ⟨o, e, c, _⟩ := x; ⟨o, e, c.1⟩
theorem RawD.at {h h' : Heap} {d : Addr} {es : Array DictEntry} {ep : Nat} (x : RawD h d es ep) (k : ∀ o, h.get? d = some o → h'.get? d = some o) : RawD h' d es ep := let ⟨o, e, r⟩ := x; ⟨o, k o e, r⟩
theorem RawD.lt {h : Heap} {d : Addr} {es : Array DictEntry} {ep : Nat} (x : RawD h d es ep) : d < h.objs.size := let ⟨_, e, _⟩ := x; Heap.lt_size e
theorem RawD.noDict {s : Shared} {d : Addr} {es : Array DictEntry} {ep : Nat} (x : RawD s.heap d es ep) : ∀ a, Value.ref d = .ref a → ∃ ob, s.heap.get? a = some ob ∧ ob.dict = none := fun a e => by
  cases e
  obtain ⟨o, e, c, _⟩ := x
  exact ⟨o, e, c.2.1⟩

section
variable {prog : Program} {w : World} {A : Around} {E : Value → Shared → Prop} {h : Heap} {g : Array GenState} {dr : Drawn} {tk : Nat} {os : OsState}

theorem showsAll_ok {d : Addr} {s : Shared} {Q : Unit → Shared → Prop} (hd : (d == sysModules) = false) (hq : Q () s) : wpAny (model prog w) A (Builtin.Dict.showsAll d) Q E s := by
  unfold Builtin.Dict.showsAll
  rw [if_neg (by rw [hd]; exact Bool.false_ne_true)]
  exact wpAny_pure hq

theorem r_items {d : Addr} {es : Array DictEntry} {ep : Nat} {Q : Value → Shared → Prop} (hd : (d == sysModules) = false) (x : RawD h d es ep)
    (hq : Q (.ref h.objs.size) ⟨h.push { cls := .type "dict_items", data := .fields #[.ref d] }, g, dr, tk, os⟩) :
    wpAny (model prog w) A (call (.builtin "dict.items") [.ref d]) Q E ⟨h, g, dr, tk, os⟩ := by
  have hT : Shared.TypeIs ⟨h, g, dr, tk, os⟩ (.ref d) "dict" := RawD.typeIs (s := ⟨h, g, dr, tk, os⟩) x
  refine wpAny_call_entry F.slot_dict_items hT F.entry_dict_items ?_ (F.args_dict_items_1 _)
  unfold Builtin.«dict.items» Builtin.Dict.noArgs
  refine wpAny_bind (wpAny_bind (wpAny_notOrdered_dict hT ?_))
  show wpAny _ _ (pure d) _ _ _
  exact wpAny_pure (wpAny_bind (showsAll_ok hd (wpAny_bind (wpAny_newObj_type (wpAny_pure ⟨_, rfl, hq⟩)))))

theorem r_values {d : Addr} {es : Array DictEntry} {ep : Nat} {Q : Value → Shared → Prop} (hd : (d == sysModules) = false) (x : RawD h d es ep)
    (hq : Q (.ref h.objs.size) ⟨h.push { cls := .type "dict_values", data := .fields #[.ref d] }, g, dr, tk, os⟩) :
    wpAny (model prog w) A (call (.builtin "dict.values") [.ref d]) Q E ⟨h, g, dr, tk, os⟩ := by
  have hT : Shared.TypeIs ⟨h, g, dr, tk, os⟩ (.ref d) "dict" := RawD.typeIs (s := ⟨h, g, dr, tk, os⟩) x
  refine wpAny_call_entry F.slot_dict_values hT F.entry_dict_values ?_ (F.args_dict_values_1 _)
  refine wpAny_bind ?_
  unfold Builtin.Dict.noArgs
  refine wpAny_bind (wpAny_notOrdered_dict hT ?_)
  show wpAny _ _ (pure d) _ _ _
  exact wpAny_pure (wpAny_bind (showsAll_ok hd (wpAny_bind (wpAny_newObj_type (wpAny_pure ⟨_, rfl, hq⟩)))))

end
end Mine

namespace Mine
set_option maxHeartbeats 8000000
section
variable {prog : Program} {w : World} {A : Around} {E : Value → Shared → Prop} {h : Heap} {g : Array GenState} {dr : Drawn} {tk : Nat} {os : OsState}

theorem it_items {v d : Addr} {es : Array DictEntry} {ep : Nat} {Q : Value → Shared → Prop} (hv : h.IsItemsView v d) (x : RawD h d es ep)
    (hq : ∀ h', Up h h' → IsItemIter h' h.objs.size d 0 es.size ep .none .none → h'.objs.size = h.objs.size + 1 → Q (.ref h.objs.size) ⟨h', g, dr, tk, os⟩) :
    wpAny (model prog w) A (pyIter (.ref v)) Q E ⟨h, g, dr, tk, os⟩ := by
  obtain ⟨ov, hov, hcv, hdv⟩ := id hv
  obtain ⟨o, ho, hc, hdat⟩ := id x
  have hT : Shared.TypeIs ⟨h, g, dr, tk, os⟩ (.ref v) "dict_items" := hv.typeIs (s := ⟨h, g, dr, tk, os⟩)
  refine wpAny_pyIter_slot hT F.slot_dict_items_iter (wpAny_call_entry F.slot_dict_items_iter hT F.entry_dict_items_iter ?_ (F.args_dict_items_iter_1 _))
  unfold Builtin.«dict_items.__iter__»
  refine wpAny_bind (wpAny_pure (wpAny_bind ?_))
  unfold Builtin.Dict_items.dictOf
  refine wpAny_bind (wpAny_field hov hdv (x := .ref d) rfl (wpAny_pure (wpAny_bind ?_)))
  unfold Builtin.Dict_items.newIterator
  refine wpAny_bind (wpAny_dictEntries ho hdat (wpAny_bind (wpAny_dictEpoch ho hdat ?_)))
  simp only [show Builtin.Dict_items.ownsTuple "dict_itemiterator" = true by decide, if_true]
  refine wpAny_newObj_type (wpAny_pure ⟨_, rfl, "dict_itemiterator", _, ⟨_, Heap.get?_push_size _ rfl, rfl⟩, F.slot_dict_itemiterator_next.lookup, ?_⟩)
    (by simp only [sizeOk, Builtin.Dict_items.ownedTupleFields, List.size_toArray, List.length_append, List.length_cons, List.length_nil, sizeLine_eq]; omega)
  refine hq _ (up_push _ _) ?_ (Heap.size_push ..)
  exact Heap.get?_push_size h rfl

theorem nx_items {it d : Addr} {i ep : Nat} {es : Array DictEntry} {ok ov : Value} {Q : Option Value → Shared → Prop} (hit : IsItemIter h it d i es.size ep ok ov) (x : RawD h d es ep) (hi : i < es.size)
    (hq : ∀ h', IsItemIterOut h' it d (i + 1) es.size ep es[i].key es[i].val h.objs.size → h'.get? h.objs.size = some { cls := .type "tuple", data := .seq #[es[i].key, es[i].val] } → h'.objs.size = h.objs.size + 1 →
      (∀ b o, b ≠ it → h.get? b = some o → h'.get? b = some o) → Q (some (.ref h.objs.size)) ⟨h', g, dr, tk, os⟩) :
    wpAny (model prog w) A (pyNext (.ref it)) Q E ⟨h, g, dr, tk, os⟩ := by
  obtain ⟨od, hod, hcd, hdd⟩ := id x
  have hT : Shared.TypeIs ⟨h, g, dr, tk, os⟩ (.ref it) "dict_itemiterator" := ⟨_, hit, rfl⟩
  unfold pyNext
  refine wpAny_bind (wpAny_attempt (wpAny_callSpecial?_slot (name := Str.ofString "__next__") hT F.slot_dict_itemiterator_next
    (wpAny_call_entry F.slot_dict_itemiterator_next hT F.entry_dict_itemiterator_next ?_ (F.args_dict_itemiterator_next_1 _))))
  refine wpAny_bind (wpAny_pure (wpAny_bind (wpAny_bind ?_)))
  refine wpAny_bind (wpAny_typeNameOfWhole_itemiter hT (wpAny_pure (wpAny_bind (wpAny_fieldsOf hit rfl ?_))))
  simp only [show Builtin.Dict_items.ownsTuple "dict_itemiterator" = true by decide, if_true]
  show wpAny _ _ (if (Value.ref d == Value.none) = true then _ else _) _ _ _
  rw [if_neg (show ¬ ((Value.ref d == Value.none) = true) from Bool.false_ne_true)]
  refine wpAny_bind (wpAny_pure (wpAny_bind (wpAny_dictEntries hod hdd ?_)))
  rw [if_neg (by simp)]
  refine wpAny_bind (wpAny_pure (wpAny_bind (wpAny_dictEpoch hod hdd ?_)))
  rw [if_neg (by simp)]
  refine wpAny_pure ?_
  simp only [show ¬ ((i : Int) < 0) from by omega, if_false, Int.toNat_natCast, Array.getElem?_eq_getElem hi]
  refine wpAny_bind (wpAny_bind (wpAny_typeNameOfWhole_itemiter hT (wpAny_pure (wpAny_bind (wpAny_isOneOf_itemiter hT ?_)))))
  show wpAny _ _ (setField (.ref it) 3 (rawInt ((i : Int) + 1)) >>= _) _ _ ⟨h, g, dr, tk, os⟩
  refine wpAny_bind (wpAny_setField_rec hit (by simp) fun h₁ he₁ hs₁ => ?_)
  replace hs₁ : Heap.SameBut it h h₁ := hs₁
  replace he₁ : IsItemIter h₁ it d (i + 1) es.size ep ok ov := by
    have e : ((i + 1 : Nat) : Int) = (i : Int) + 1 := by omega
    unfold IsItemIter; rw [e]; simpa [rawInt] using he₁
  have hT₁ : Shared.TypeIs ⟨h₁, g, dr, tk, os⟩ (.ref it) "dict_itemiterator" := ⟨_, he₁, rfl⟩
  refine wpAny_bind (wpAny_holding (wpAny_bind (wpAny_isOneOf_itemiter hT₁ (wpAny_bind (wpAny_isOneOf_itemiter hT₁ ?_)))))
  show wpAny _ _ (Builtin.Dict_items.pairFromOwner (.ref it) 6 es[i].key es[i].val) _ _ ⟨h₁, g, dr, tk, os⟩
  unfold Builtin.Dict_items.pairFromOwner
  refine wpAny_bind (wpAny_newTuple ?_)
  have he₂ : IsItemIter (h₁.push { cls := .type "tuple", data := .seq #[es[i].key, es[i].val] }) it d (i + 1) es.size ep ok ov := Heap.get?_push_of_some _ he₁
  have hz₁ : h₁.objs.size = h.objs.size := hs₁.1
  have ht₂ : (h₁.push { cls := .type "tuple", data := .seq #[es[i].key, es[i].val] }).get? h.objs.size = some { cls := .type "tuple", data := .seq #[es[i].key, es[i].val] } := by rw [← hz₁]; exact Heap.get?_push_size _ rfl
  have hz₂ : (h₁.push { cls := .type "tuple", data := .seq #[es[i].key, es[i].val] }).objs.size = h.objs.size + 1 := by rw [Heap.size_push, hz₁]
  have hk₂ : ∀ b o, b ≠ it → h.get? b = some o → (h₁.push { cls := .type "tuple", data := .seq #[es[i].key, es[i].val] }).get? b = some o := fun b o hb e => Heap.get?_push_of_some _ (hs₁.extBut b o hb e)
  have hil : it < h.objs.size := Heap.lt_size hit
  show wpAny _ _ (Builtin.Dict_items.ownedTupleIsFree (.ref it) >>= _) _ _ ⟨h₁.push _, g, dr, tk, os⟩
  generalize h₁.push { cls := .type "tuple", data := .seq #[es[i].key, es[i].val] } = h₂ at he₂ ht₂ hz₂ hk₂
  rw [hz₁]
  refine wpAny_bind ?_
  unfold Builtin.Dict_items.ownedTupleIsFree
  refine wpAny_bind (wpAny_field he₂ rfl (x := .none) rfl (wpAny_pure ?_))
  simp only [if_true]
  refine wpAny_bind (wpAny_field he₂ rfl (x := ok) rfl (wpAny_bind (wpAny_field he₂ rfl (x := ov) rfl ?_)))
  refine wpAny_bind (wpAny_setField_rec he₂ (by simp) fun h₃ he₃ hs₃ => ?_)
  replace he₃ : IsItemIter h₃ it d (i + 1) es.size ep es[i].key ov := he₃
  refine wpAny_bind (wpAny_setField_rec he₃ (by simp) fun h₄ he₄ hs₄ => ?_)
  replace he₄ : IsItemIter h₄ it d (i + 1) es.size ep es[i].key es[i].val := he₄
  refine wpAny_bind (wpAny_setField_rec he₄ (by simp) fun h₅ he₅ hs₅ => ?_)
  replace he₅ : IsItemIterOut h₅ it d (i + 1) es.size ep es[i].key es[i].val h.objs.size := he₅
  refine wpAny_bind (wpAny_setField_rec he₅ (by simp) fun h₆ he₆ hs₆ => ?_)
  replace he₆ : IsItemIterOut h₆ it d (i + 1) es.size ep es[i].key es[i].val h.objs.size := he₆
  replace hs₃ : Heap.SameBut it h₂ h₃ := hs₃
  replace hs₄ : Heap.SameBut it h₃ h₄ := hs₄
  replace hs₅ : Heap.SameBut it h₄ h₅ := hs₅
  replace hs₆ : Heap.SameBut it h₅ h₆ := hs₆
  have sb : Heap.SameBut it h₂ h₆ := ((hs₃.trans hs₄).trans hs₅).trans hs₆
  refine wpAny_bind (wpAny_letGo (wpAny_pure (wpAny_pure ⟨_, rfl, wpAny_pure (hq h₆ he₆ ?_ ?_ ?_)⟩)))
  · exact sb.extBut _ _ (Nat.ne_of_gt hil) ht₂
  · rw [sb.1, hz₂]
  · exact fun b o hb e => sb.extBut b o hb (hk₂ b o hb e)

theorem end_items {it d : Addr} {ep : Nat} {es : Array DictEntry} {ok ov : Value} {Q : Option Value → Shared → Prop} (hh : A.handled = none) (hit : IsItemIter h it d es.size es.size ep ok ov) (x : RawD h d es ep)
    (hq : ∀ h', Heap.ExtBut it h h' → Q none ⟨h', g, dr, tk, os⟩) : wpAny (model prog w) A (pyNext (.ref it)) Q E ⟨h, g, dr, tk, os⟩ := by
  obtain ⟨od, hod, hcd, hdd⟩ := id x
  have hT : Shared.TypeIs ⟨h, g, dr, tk, os⟩ (.ref it) "dict_itemiterator" := ⟨_, hit, rfl⟩
  unfold pyNext
  refine wpAny_bind (wpAny_attempt (wpAny_callSpecial?_slot (name := Str.ofString "__next__") hT F.slot_dict_itemiterator_next
    (wpAny_call_entry F.slot_dict_itemiterator_next hT F.entry_dict_itemiterator_next ?_ (F.args_dict_itemiterator_next_1 _))))
  refine wpAny_bind (wpAny_pure (wpAny_bind (wpAny_bind ?_)))
  refine wpAny_bind (wpAny_typeNameOfWhole_itemiter hT (wpAny_pure (wpAny_bind (wpAny_fieldsOf hit rfl ?_))))
  simp only [show Builtin.Dict_items.ownsTuple "dict_itemiterator" = true by decide, if_true]
  show wpAny _ _ (if (Value.ref d == Value.none) = true then _ else _) _ _ _
  rw [if_neg (show ¬ ((Value.ref d == Value.none) = true) from Bool.false_ne_true)]
  refine wpAny_bind (wpAny_pure (wpAny_bind (wpAny_dictEntries hod hdd ?_)))
  rw [if_neg (by simp)]
  refine wpAny_bind (wpAny_pure (wpAny_bind (wpAny_dictEpoch hod hdd ?_)))
  rw [if_neg (by simp)]
  refine wpAny_pure ?_
  simp only [show ¬ ((es.size : Int) < 0) from by omega, if_false, Int.toNat_natCast, Array.getElem?_eq_none (Nat.le_refl es.size)]
  refine wpAny_bind (wpAny_bind (wpAny_typeNameOfWhole_itemiter hT (wpAny_pure ?_)))
  show wpAny _ _ (setField (.ref it) 2 .none >>= _) _ _ _
  refine wpAny_bind (wpAny_setField hit rfl (by simp) ?_)
  show wpAny _ _ (newExc (.type "StopIteration") [] >>= _) _ _ _
  refine wpAny_bind ?_
  simp only [newExc, newTuple]
  refine wpAny_bind (wpAny_newObj_type ?_ (by size_fits))
  refine wpAny_bind (m := firstArgMember _ _) (wpAny_of_eq (a := Value.none) (by first | rfl | (simp only [firstArgMember]; rfl)) ?_)
  refine wpAny_newObj_type ?_ (by size_fits)
  simp only [raiseNew]
  refine wpAny_bind (wpAny_handled ?_)
  rw [show A.in1.handled = none from hh]
  refine wpAny_bind (wpAny_pure (wpAny_throw ?_))
  refine wpAny_bind (wpAny_isInstance (T := "StopIteration") (b := true) ⟨_, Heap.get?_push_size _ rfl, rfl⟩ isSubtype_stop ?_)
  exact wpAny_pure (hq _ (((Heap.SameBut.update ..).extBut.push _).push _))
end
end Mine

namespace Mine
set_option maxHeartbeats 8000000
section
variable {prog : Program} {w : World} {A : Around} {E : Value → Shared → Prop} {h : Heap} {g : Array GenState} {dr : Drawn} {tk : Nat} {os : OsState}

theorem it_values {v d : Addr} {es : Array DictEntry} {ep : Nat} {Q : Value → Shared → Prop} (hv : h.IsValuesView v d) (x : RawD h d es ep)
    (hq : ∀ h', Up h h' → h'.IsValIter h.objs.size d 0 es.size ep → h'.objs.size = h.objs.size + 1 → Q (.ref h.objs.size) ⟨h', g, dr, tk, os⟩) :
    wpAny (model prog w) A (pyIter (.ref v)) Q E ⟨h, g, dr, tk, os⟩ := by
  obtain ⟨ov, hov, hcv, hdv⟩ := id hv
  obtain ⟨o, ho, hc, hdat⟩ := id x
  have hT : Shared.TypeIs ⟨h, g, dr, tk, os⟩ (.ref v) "dict_values" := hv.typeIs (s := ⟨h, g, dr, tk, os⟩)
  refine wpAny_pyIter_slot hT F.slot_dict_values_iter (wpAny_call_entry F.slot_dict_values_iter hT F.entry_dict_values_iter ?_ (F.args_dict_values_iter_1 _))
  unfold Builtin.«dict_values.__iter__»
  refine wpAny_bind (wpAny_pure (wpAny_bind ?_))
  unfold Builtin.Dict_items.dictOf
  refine wpAny_bind (wpAny_field hov hdv (x := .ref d) rfl (wpAny_pure (wpAny_bind ?_)))
  unfold Builtin.Dict_items.newIterator
  refine wpAny_bind (wpAny_dictEntries ho hdat (wpAny_bind (wpAny_dictEpoch ho hdat ?_)))
  simp only [show Builtin.Dict_items.ownsTuple "dict_valueiterator" = false by decide, Bool.false_eq_true, if_false]
  refine wpAny_newObj_type (wpAny_pure ⟨_, rfl, "dict_valueiterator", _, ⟨_, Heap.get?_push_size _ rfl, rfl⟩, F.slot_dict_valueiterator_next.lookup, ?_⟩)
  refine hq _ (up_push _ _) ⟨_, Heap.get?_push_size h rfl, rfl, by simp [rawInt]⟩ (Heap.size_push ..)

theorem nx_values {it d : Addr} {i ep : Nat} {es : Array DictEntry} {Q : Option Value → Shared → Prop} (hit : h.IsValIter it d i es.size ep) (x : RawD h d es ep) (hi : i < es.size)
    (hq : ∀ h', h'.IsValIter it d (i + 1) es.size ep → (∀ b o, b ≠ it → h.get? b = some o → h'.get? b = some o) → h'.objs.size = h.objs.size → Q (some es[i].val) ⟨h', g, dr, tk, os⟩) :
    wpAny (model prog w) A (pyNext (.ref it)) Q E ⟨h, g, dr, tk, os⟩ := by
  obtain ⟨o, ho, hc, hd⟩ := id hit
  obtain ⟨od, hod, hcd, hdd⟩ := id x
  have hT : Shared.TypeIs ⟨h, g, dr, tk, os⟩ (.ref it) "dict_valueiterator" := ⟨_, ho, hc⟩
  unfold pyNext
  refine wpAny_bind (wpAny_attempt (wpAny_callSpecial?_slot (name := Str.ofString "__next__") hT F.slot_dict_valueiterator_next
    (wpAny_call_entry F.slot_dict_valueiterator_next hT F.entry_dict_valueiterator_next ?_ (F.args_dict_valueiterator_next_1 _))))
  refine wpAny_bind (wpAny_pure (wpAny_bind (wpAny_bind ?_)))
  refine wpAny_bind (wpAny_typeNameOfWhole_valiter hT (wpAny_pure (wpAny_bind (wpAny_fieldsOf ho hd ?_))))
  simp only [show Builtin.Dict_items.ownsTuple "dict_valueiterator" = false by decide, Bool.false_eq_true, if_false]
  show wpAny _ _ (if (Value.ref d == Value.none) = true then _ else _) _ _ _
  rw [if_neg (show ¬ ((Value.ref d == Value.none) = true) from Bool.false_ne_true)]
  refine wpAny_bind (wpAny_pure (wpAny_bind (wpAny_dictEntries hod hdd ?_)))
  rw [if_neg (by simp)]
  refine wpAny_bind (wpAny_pure (wpAny_bind (wpAny_dictEpoch hod hdd ?_)))
  rw [if_neg (by simp)]
  refine wpAny_pure ?_
  simp only [show ¬ ((i : Int) < 0) from by omega, if_false, Int.toNat_natCast, Array.getElem?_eq_getElem hi]
  refine wpAny_bind (wpAny_bind (wpAny_typeNameOfWhole_valiter hT (wpAny_pure (wpAny_bind (wpAny_isOneOf_valiter hT ?_)))))
  show wpAny _ _ (setField (.ref it) 1 (rawInt ((i : Int) + 1)) >>= _) _ _ _
  refine wpAny_bind (wpAny_setField ho hd (by simp) ?_)
  show wpAny _ _ _ _ _ ⟨h.update it (Obj.mapFields (·.setIfInBounds 1 (rawInt ((i : Int) + 1)))), g, dr, tk, os⟩
  have hit' : (h.update it (Obj.mapFields (·.setIfInBounds 1 (rawInt ((i : Int) + 1))))).IsValIter it d (i + 1) es.size ep :=
    ⟨_, Heap.get?_update_self _ ho (Obj.isFreed_of_fields (Obj.data_mapFields hd _)), (Obj.cls_mapFields ..).trans hc, by rw [Obj.data_mapFields hd]; simp [rawInt]⟩
  have sb : Heap.SameBut it h (h.update it (Obj.mapFields (·.setIfInBounds 1 (rawInt ((i : Int) + 1))))) := Heap.SameBut.update ..
  generalize h.update it (Obj.mapFields (·.setIfInBounds 1 (rawInt ((i : Int) + 1)))) = h₁ at hit' sb
  have hT' : Shared.TypeIs ⟨h₁, g, dr, tk, os⟩ (.ref it) "dict_valueiterator" := hit'.typeIs (s := ⟨h₁, g, dr, tk, os⟩)
  refine wpAny_bind (wpAny_holding ?_)
  refine wpAny_bind (wpAny_isOneOf_valiter hT' ?_)
  refine wpAny_bind (wpAny_isOneOf_valiter hT' ?_)
  show wpAny _ _ (pure es[i].val) _ _ _
  exact wpAny_pure (wpAny_pure ⟨_, rfl, wpAny_pure (hq _ hit' sb.extBut sb.1)⟩)

theorem end_values {it d : Addr} {ep : Nat} {es : Array DictEntry} {Q : Option Value → Shared → Prop} (hh : A.handled = none) (hit : h.IsValIter it d es.size es.size ep) (x : RawD h d es ep)
    (hq : ∀ h', Heap.ExtBut it h h' → Q none ⟨h', g, dr, tk, os⟩) : wpAny (model prog w) A (pyNext (.ref it)) Q E ⟨h, g, dr, tk, os⟩ := by
  obtain ⟨o, ho, hc, hd⟩ := id hit
  obtain ⟨od, hod, hcd, hdd⟩ := id x
  have hT : Shared.TypeIs ⟨h, g, dr, tk, os⟩ (.ref it) "dict_valueiterator" := ⟨_, ho, hc⟩
  unfold pyNext
  refine wpAny_bind (wpAny_attempt (wpAny_callSpecial?_slot (name := Str.ofString "__next__") hT F.slot_dict_valueiterator_next
    (wpAny_call_entry F.slot_dict_valueiterator_next hT F.entry_dict_valueiterator_next ?_ (F.args_dict_valueiterator_next_1 _))))
  refine wpAny_bind (wpAny_pure (wpAny_bind (wpAny_bind ?_)))
  refine wpAny_bind (wpAny_typeNameOfWhole_valiter hT (wpAny_pure (wpAny_bind (wpAny_fieldsOf ho hd ?_))))
  simp only [show Builtin.Dict_items.ownsTuple "dict_valueiterator" = false by decide, Bool.false_eq_true, if_false]
  show wpAny _ _ (if (Value.ref d == Value.none) = true then _ else _) _ _ _
  rw [if_neg (show ¬ ((Value.ref d == Value.none) = true) from Bool.false_ne_true)]
  refine wpAny_bind (wpAny_pure (wpAny_bind (wpAny_dictEntries hod hdd ?_)))
  rw [if_neg (by simp)]
  refine wpAny_bind (wpAny_pure (wpAny_bind (wpAny_dictEpoch hod hdd ?_)))
  rw [if_neg (by simp)]
  refine wpAny_pure ?_
  simp only [show ¬ ((es.size : Int) < 0) from by omega, if_false, Int.toNat_natCast, Array.getElem?_eq_none (Nat.le_refl es.size)]
  refine wpAny_bind (wpAny_bind (wpAny_typeNameOfWhole_valiter hT (wpAny_pure ?_)))
  show wpAny _ _ (setField (.ref it) 0 .none >>= _) _ _ _
  refine wpAny_bind (wpAny_setField ho hd (by simp) ?_)
  show wpAny _ _ (newExc (.type "StopIteration") [] >>= _) _ _ _
  refine wpAny_bind ?_
  simp only [newExc, newTuple]
  refine wpAny_bind (wpAny_newObj_type ?_ (by size_fits))
  refine wpAny_bind (m := firstArgMember _ _) (wpAny_of_eq (a := Value.none) (by first | rfl | (simp only [firstArgMember]; rfl)) ?_)
  refine wpAny_newObj_type ?_ (by size_fits)
  simp only [raiseNew]
  refine wpAny_bind (wpAny_handled ?_)
  rw [show A.in1.handled = none from hh]
  refine wpAny_bind (wpAny_pure (wpAny_throw ?_))
  refine wpAny_bind (wpAny_isInstance (T := "StopIteration") (b := true) ⟨_, Heap.get?_push_size _ rfl, rfl⟩ isSubtype_stop ?_)
  exact wpAny_pure (hq _ (((Heap.SameBut.update ..).extBut.push _).push _))
end
end Mine

namespace Mine
set_option maxHeartbeats 8000000
section
variable {prog : Program} {w : World} {A : Around} {R : Result → Shared → Prop} {E : Value → Shared → Prop} {h : Heap} {g : Array GenState} {dr : Drawn} {tk : Nat} {os : OsState}

theorem forItems {xk xv : Str} {p1 p2 pt : Pos} {x1} {body : List Stmt} {env : Env} {it d : Addr} {es : Array DictEntry} {ep : Nat} {m : Str → Option Value}
    (W : List Addr) (J : Nat → Heap → Prop)
    (hh : A.handled = none) (hxk : env.kindOf xk = some .local) (hxv : env.kindOf xv = some .local) (hkk : xk ≠ xv)
    (hp : (env.scope.kind == .class || (env.scope.kind == .module && env.locals != env.globals)) = false)
    (hiL : it ≠ env.locals) (hdL : d ≠ env.locals) (hdi : d ≠ it) (hiW : it ∉ W) (hdW : d ∉ W) (hLW : env.locals ∉ W)
    (hit : IsItemIter h it d 0 es.size ep .none .none) (hx : RawD h d es ep) (hn : h.Ns env.locals m) (hJ : J 0 h)
    (hJs : ∀ i h₁ h₂, J i h₁ → (∀ b o, b ≠ env.locals → b ≠ it → h₁.get? b = some o → h₂.get? b = some o) → J i h₂)
    (step : ∀ i h₁ tk₁ m₁ (hi : i < es.size) (E' : Value → Shared → Prop), J i h₁ → h₁.Ns env.locals m₁ → m₁ xk = some es[i].key → m₁ xv = some es[i].val → (∀ y, y ≠ xk → y ≠ xv → m₁ y = m y) →
      (∀ b o, b ≠ env.locals → b ≠ it → b ∉ W → h.get? b = some o → h₁.get? b = some o) →
       wpAny (model prog w) A (execs body env) (fun f s₂ => f = .next ∧ ∃ h₂ tk₂, s₂ = ⟨h₂, g, dr, tk₂, os⟩ ∧ (∀ b o, b ∉ W → h₁.get? b = some o → h₂.get? b = some o) ∧ J (i + 1) h₂) E' ⟨h₁, g, dr, tk₁, os⟩)
    (hR : ∀ h' tk' m', h'.Ns env.locals m' → (∀ y, y ≠ xk → y ≠ xv → m' y = m y) → J es.size h' → (∀ b o, b ≠ env.locals → b ≠ it → b ∉ W → h.get? b = some o → h'.get? b = some o) → R (.ok .next) ⟨h', g, dr, tk', os⟩) :
    codeAny (model prog w) A (.forLoop (.Tuple [.Name xk p1, .Name xv p2] x1 pt) (.ref it) body [] env) R ⟨h, g, dr, tk, os⟩ := by
  refine codeAny_forLoop_any
    (fun n s' => ∃ h' tk' m' i ok ov, s' = ⟨h', g, dr, tk', os⟩ ∧ IsItemIter h' it d i es.size ep ok ov ∧ RawD h' d es ep ∧ h'.Ns env.locals m' ∧ (∀ y, y ≠ xk → y ≠ xv → m' y = m y) ∧ J i h' ∧ i ≤ es.size ∧
      n = es.size + 1 - i ∧ ∀ b o, b ≠ env.locals → b ≠ it → b ∉ W → h.get? b = some o → h'.get? b = some o) ?_ (es.size + 1)
    ⟨h, tk, m, 0, .none, .none, rfl, hit, hx, hn, fun _ _ _ => rfl, hJ, Nat.zero_le _, rfl, fun _ _ _ _ _ x => x⟩
  rintro n s' ⟨H, tk', m', i, ok, ov, rfl, hit', hx', hn', hm', hJ', hi, rfl, hk⟩
  by_cases hlt : i < es.size
  · have hiH : it < H.objs.size := Heap.lt_size hit'
    have hLH : env.locals < H.objs.size := hn'.lt
    have hdH : d < H.objs.size := hx'.lt
    refine nx_items hit' hx' hlt fun h₁ heo ht₁ hz₁ hk₁ => ?_
    refine wpAny_letOwnedTupleGo_items heo fun h₂ he₂ hs₂ => ?_
    replace hs₂ : Heap.SameBut it h₁ h₂ := hs₂
    have ht₂ : h₂.IsTuple H.objs.size #[es[i].key, es[i].val] := ⟨_, (hs₂.2 _ (Nat.ne_of_gt hiH)).trans ht₁, rfl, _, rfl⟩
    have hz₂ : h₂.objs.size = H.objs.size + 1 := hs₂.1.trans hz₁
    refine wpAny_assign_Tuple hh ht₂ rfl rfl fun h₃ hx₃ => ?_
    replace hx₃ : Heap.ExtBut h₂.objs.size h₂ h₃ := hx₃
    have old₃ : ∀ b o, b < H.objs.size → h₂.get? b = some o → h₃.get? b = some o := fun b o hb x => hx₃ b o (by rw [hz₂]; exact Nat.ne_of_lt (Nat.lt_succ_of_lt hb)) x
    have hn₃ : h₃.Ns env.locals m' := (hn'.at fun o x => hk₁ _ o (Ne.symm hiL) x).sameBut hs₂ (Ne.symm hiL) |>.at fun o x => old₃ _ o hLH x
    show wpAny _ _ (do holding [es[i].val] (assign (.Name xk p1) env es[i].key); do holding [] (assign (.Name xv p2) env es[i].val); pure ()) _ _ _
    refine wpAny_bind (wpAny_holding (wpAny_assign_Name (wpAny_storeName_local hxk hn₃ (fun h₄ hn₄ hs₄ => ?_) hp)))
    replace hs₄ : Heap.SameBut env.locals h₃ h₄ := hs₄
    refine wpAny_bind (wpAny_holding (wpAny_assign_Name (wpAny_storeName_local hxv hn₄ (fun h₅ hn₅ hs₅ => wpAny_pure ?_) hp)))
    replace hs₅ : Heap.SameBut env.locals h₄ h₅ := hs₅
    have up₅ : ∀ b o, b ≠ env.locals → b < H.objs.size → h₂.get? b = some o → h₅.get? b = some o := fun b o hbL hb x => hs₅.extBut b o hbL (hs₄.extBut b o hbL (old₃ b o hb x))
    have up₅' : ∀ b o, b ≠ env.locals → b ≠ it → H.get? b = some o → h₅.get? b = some o := fun b o h1 h2 e => up₅ b o h1 (Heap.lt_size e) (hs₂.extBut b o h2 (hk₁ b o h2 e))
    have hk₅ : ∀ b o, b ≠ env.locals → b ≠ it → b ∉ W → h.get? b = some o → h₅.get? b = some o := fun b o h1 h2 h3 e => up₅' b o h1 h2 (hk b o h1 h2 h3 e)
    refine wpAny_mono (step i h₅ _ _ hlt _ (hJs _ _ _ hJ' up₅') hn₅ (by simp [hkk]) (by simp) (fun y h1 h2 => by simp [h1, h2, hm' y h1 h2]) hk₅) (fun f s₃ h₆ => ?_) fun _ _ x => x
    obtain ⟨rfl, h₆, tk₆, rfl, hu₆, hJ₆⟩ := h₆
    refine ⟨es.size + 1 - (i + 1), by omega, h₆, tk₆, _, i + 1, es[i].key, es[i].val, rfl, hu₆ it _ hiW (up₅ it _ hiL hiH he₂), hx'.at fun o e => hu₆ d o hdW (up₅' d o hdL hdi e), hn₅.at fun o e => hu₆ _ o hLW e,
      fun y h1 h2 => by simp [h1, h2, hm' y h1 h2], hJ₆, hlt, rfl, fun b o h1 h2 h3 e => hu₆ b o h3 (hk₅ b o h1 h2 h3 e)⟩
  · obtain rfl : i = es.size := Nat.le_antisymm hi (Nat.not_lt.mp hlt)
    refine end_items hh hit' hx' fun h₁ he₁ => wpAny_execs_nil ?_
    exact hR h₁ tk' m' (hn'.extBut he₁ (Ne.symm hiL)) hm' (hJs _ _ _ hJ' fun b o _ h2 e => he₁ b o h2 e) fun b o h1 h2 h3 e => he₁ b o h2 (hk b o h1 h2 h3 e)

theorem forValues {xv : Str} {p2 : Pos} {body : List Stmt} {env : Env} {it d : Addr} {es : Array DictEntry} {ep : Nat} {m : Str → Option Value}
    (J : Nat → (Str → Option Value) → Prop)
    (hh : A.handled = none) (hxv : env.kindOf xv = some .local)
    (hp : (env.scope.kind == .class || (env.scope.kind == .module && env.locals != env.globals)) = false)
    (hiL : it ≠ env.locals) (hdL : d ≠ env.locals) (hdi : d ≠ it)
    (hit : h.IsValIter it d 0 es.size ep) (hx : RawD h d es ep) (hn : h.Ns env.locals m) (hJ : J 0 m)
    (step : ∀ i h₁ tk₁ m₁ (hi : i < es.size) (E' : Value → Shared → Prop), J i m₁ → h₁.Ns env.locals (fun y => if y = xv then some es[i].val else m₁ y) →
       wpAny (model prog w) A (execs body env) (fun f s₂ => f = .next ∧ ∃ h₂ tk₂ m₂, s₂ = ⟨h₂, g, dr, tk₂, os⟩ ∧ (∀ b o, b ≠ env.locals → h₁.get? b = some o → h₂.get? b = some o) ∧ h₂.Ns env.locals m₂ ∧ J (i + 1) m₂) E' ⟨h₁, g, dr, tk₁, os⟩)
    (hR : ∀ h' tk' m', h'.Ns env.locals m' → J es.size m' → (∀ b o, b ≠ env.locals → b ≠ it → h.get? b = some o → h'.get? b = some o) → R (.ok .next) ⟨h', g, dr, tk', os⟩) :
    codeAny (model prog w) A (.forLoop (.Name xv p2) (.ref it) body [] env) R ⟨h, g, dr, tk, os⟩ := by
  refine codeAny_forLoop_any
    (fun n s' => ∃ h' tk' m' i, s' = ⟨h', g, dr, tk', os⟩ ∧ h'.IsValIter it d i es.size ep ∧ RawD h' d es ep ∧ h'.Ns env.locals m' ∧ J i m' ∧ i ≤ es.size ∧
      n = es.size + 1 - i ∧ ∀ b o, b ≠ env.locals → b ≠ it → h.get? b = some o → h'.get? b = some o) ?_ (es.size + 1)
    ⟨h, tk, m, 0, rfl, hit, hx, hn, hJ, Nat.zero_le _, rfl, fun _ _ _ _ x => x⟩
  rintro n s' ⟨H, tk', m', i, rfl, hit', hx', hn', hJ', hi, rfl, hk⟩
  by_cases hlt : i < es.size
  · refine nx_values hit' hx' hlt fun h₁ he₁ hk₁ hz₁ => ?_
    refine wpAny_pure (wpAny_assign_Name (wpAny_storeName_local hxv (hn'.at fun o x => hk₁ _ o (Ne.symm hiL) x) (fun h₅ hn₅ hs₅ => ?_) hp))
    replace hs₅ : Heap.SameBut env.locals h₁ h₅ := hs₅
    refine wpAny_mono (step i h₅ _ _ hlt _ hJ' hn₅) (fun f s₃ h₆ => ?_) fun _ _ x => x
    obtain ⟨rfl, h₆, tk₆, m₆, rfl, hu₆, hn₆, hJ₆⟩ := h₆
    refine ⟨es.size + 1 - (i + 1), by omega, h₆, tk₆, m₆, i + 1, rfl, he₁.at fun o e => hu₆ it o hiL (hs₅.extBut it o hiL e), hx'.at fun o e => hu₆ d o hdL (hs₅.extBut d o hdL (hk₁ d o hdi e)), hn₆, hJ₆, hlt, rfl,
      fun b o h1 h2 e => hu₆ b o h1 (hs₅.extBut b o h1 (hk₁ b o h2 (hk b o h1 h2 e)))⟩
  · obtain rfl : i = es.size := Nat.le_antisymm hi (Nat.not_lt.mp hlt)
    refine end_values hh hit' hx' fun h₁ he₁ => wpAny_execs_nil ?_
    exact hR h₁ tk' m' (hn'.extBut he₁ (Ne.symm hiL)) hJ' fun b o h1 h2 e => he₁ b o h2 (hk b o h1 h2 e)
end
end Mine

namespace Mine
set_option maxHeartbeats 20000000
/-- what a key's tuple, a number -/
def Cells (B : Heap) : List (List Mix × Addr × Value) → List (Int × Int) → Prop
  | [], [] => True
  | x :: xs, y :: ys => x.1 = pk y.1 ∧ (∃ t, x.2.2 = .int y.2 t) ∧ B.get? x.2.1 = none ∧ Cells B xs ys
  | _, _ => False
def addTab (kvs : List (Int × Int)) (p n : Int) : List (Int × Int) :=
  if p ∈ kvs.map (·.1) then kvs.map (fun y => if y.1 = p then (y.1, y.2 + n) else y) else kvs ++ [(p, n)]
/-- a dict at D whose keys lie in an older heap -/
def DH (prog : Program) (w : World) (h₀ h : Heap) (D : Addr) (xs : List (List Mix × Addr × Value)) : Prop :=
  ∃ es ep, RawD h D es ep ∧ es.toList = xs.map (entryOfKey (tk3 prog w)) ∧ (∀ x ∈ xs, (tk3 prog w).is h₀ x.1 x.2.1) ∧ (xs.map (·.1)).Nodup
/-- a table of the law: power ↦ number -/
def Tab (prog : Program) (w : World) (B h : Heap) (d : Addr) (kvs : List (Int × Int)) : Prop :=
  (d == sysModules) = false ∧ ∃ xs, DH prog w h h d xs ∧ Cells B xs kvs

section
variable {prog : Program} {w : World} {B h₀ h h' : Heap} {D : Addr} {xs : List (List Mix × Addr × Value)} {kvs : List (Int × Int)}
theorem DH.old {g₀ : Heap} (x : DH prog w h₀ h D xs) (u : Up h₀ g₀) : DH prog w g₀ h D xs := let ⟨es, ep, r, e, k, n⟩ := x; ⟨es, ep, r, e, fun y hy => pk_up (k y hy) fun o e => u _ o e, n⟩
theorem DH.at (x : DH prog w h₀ h D xs) (u : ∀ o, h.get? D = some o → h'.get? D = some o) : DH prog w h₀ h' D xs := let ⟨es, ep, r, e⟩ := x; ⟨es, ep, r.at u, e⟩
theorem DH.toH (x : DH prog w h₀ h D xs) (u : Up h₀ h) : h.DictOfH (tk3 prog w) D xs := by
  obtain ⟨es, ep, ⟨o, e, c, d⟩, l, k, n⟩ := x
  exact ⟨o, es, ep, e, c, d, l, fun y hy => pk_up (k y hy) fun o e => u _ o e, n⟩
theorem DH.ofH (x : h.DictOfH (tk3 prog w) D xs) (k : ∀ x ∈ xs, (tk3 prog w).is h₀ x.1 x.2.1) : DH prog w h₀ h D xs := by
  obtain ⟨o, es, ep, e, c, d, l, _, n⟩ := x
  exact ⟨es, ep, ⟨o, e, c, d⟩, l, k, n⟩
theorem DH.keys (x : DH prog w h₀ h D xs) : ∀ x ∈ xs, (tk3 prog w).is h₀ x.1 x.2.1 := let ⟨_, _, _, _, k, _⟩ := x; k
theorem DH.nodup (x : DH prog w h₀ h D xs) : (xs.map (·.1)).Nodup := let ⟨_, _, _, _, _, n⟩ := x; n
theorem Tab.up (x : Tab prog w B h D kvs) (u : Up h h') : Tab prog w B h' D kvs := let ⟨lo, xs, d, c⟩ := x; ⟨lo, xs, (d.old u).at fun o e => u _ o e, c⟩

theorem cells_len : ∀ {xs : List (List Mix × Addr × Value)} {kvs : List (Int × Int)}, Cells B xs kvs → xs.length = kvs.length
  | [], [], _ => rfl
  | _ :: _, _ :: _, h => by simp [cells_len h.2.2.2]
theorem cells_mem : ∀ {xs : List (List Mix × Addr × Value)} {kvs : List (Int × Int)} {p : Int}, Cells B xs kvs → (pk p ∈ xs.map (·.1) ↔ p ∈ kvs.map (·.1))
  | [], [], _, _ => by simp
  | x :: xs, y :: ys, p, h => by
    simp only [List.map_cons, List.mem_cons, cells_mem (p := p) h.2.2.2, h.1]
    constructor
    · rintro (e | e)
      · exact .inl (pk_inj e)
      · exact .inr e
    · rintro (e | e)
      · exact .inl (congrArg pk e)
      · exact .inr e
theorem cells_append : ∀ {xs ys : List (List Mix × Addr × Value)} {kvs lvs : List (Int × Int)}, Cells B xs kvs → Cells B ys lvs → Cells B (xs ++ ys) (kvs ++ lvs)
  | [], _, [], _, _, h => h
  | _ :: _, _, _ :: _, _, h, h' => ⟨h.1, h.2.1, h.2.2.1, cells_append h.2.2.2 h'⟩
theorem cells_put : ∀ {xs : List (List Mix × Addr × Value)} {kvs : List (Int × Int)} {p n m : Int} {t : Tok}, Cells B xs kvs → (kvs.map (·.1)).Nodup → (p, m) ∈ kvs → Cells B (xs.map (putAt (pk p) (.int (m + n) t))) (kvs.map (fun y => if y.1 = p then (y.1, y.2 + n) else y))
  | [], [], _, _, _, _, _, _, _ => trivial
  | x :: xs, y :: ys, p, n, m, t, h, hn, hm => by
    rw [List.map_cons, List.nodup_cons] at hn
    by_cases hp : y.1 = p
    · have hx : x.1 = pk p := by rw [h.1, hp]
      have hy : y.2 = m := by
        rcases List.mem_cons.mp hm with e | e
        · exact (congrArg Prod.snd e).symm
        · exact absurd (List.mem_map.mpr ⟨_, e, hp.symm⟩) hn.1
      have h1 : pk p ∉ xs.map (·.1) := fun q => hn.1 (by rw [hp]; exact (cells_mem h.2.2.2).mp q)
      have h2 : ys.map (fun y => if y.1 = p then (y.1, y.2 + n) else y) = ys := by
        conv => rhs; rw [← List.map_id ys]
        refine List.map_congr_left fun z hz => ?_
        rw [if_neg fun q => hn.1 (by rw [hp, ← q]; exact List.mem_map.mpr ⟨z, hz, rfl⟩)]; rfl
      rw [List.map_cons, List.map_cons, map_putAt_of_not_mem xs _ _ h1, h2, putAt, if_pos hx, if_pos hp]
      refine ⟨h.1, ⟨t, ?_⟩, h.2.2.1, h.2.2.2⟩
      rw [hy]
    · have hx : ¬ x.1 = pk p := fun q => hp (pk_inj (h.1.symm.trans q))
      have hm' : (p, m) ∈ ys := by
        rcases List.mem_cons.mp hm with e | e
        · exact absurd (congrArg Prod.fst e).symm hp
        · exact e
      rw [List.map_cons, List.map_cons, putAt, if_neg hx, if_neg hp]
      exact ⟨h.1, h.2.1, h.2.2.1, cells_put h.2.2.2 hn.2 hm'⟩
theorem cells_nodup : ∀ {xs : List (List Mix × Addr × Value)} {kvs : List (Int × Int)}, Cells B xs kvs → (xs.map (·.1)).Nodup → (kvs.map (·.1)).Nodup
  | [], [], _, _ => List.nodup_nil
  | x :: xs, y :: ys, h, hn => by
    rw [List.map_cons, List.nodup_cons] at hn ⊢
    exact ⟨fun q => hn.1 (by rw [h.1]; exact (cells_mem h.2.2.2).mpr q), cells_nodup h.2.2.2 hn.2⟩
theorem cells_at : ∀ {xs : List (List Mix × Addr × Value)} {kvs : List (Int × Int)} {i : Nat} {x : List Mix × Addr × Value}, Cells B xs kvs → xs[i]? = some x → ∃ p m t, x.1 = pk p ∧ x.2.2 = .int m t ∧ kvs[i]? = some (p, m)
  | x :: xs, y :: ys, 0, z, h, e => by
    simp only [List.getElem?_cons_zero, Option.some.injEq] at e
    subst e
    obtain ⟨t, e⟩ := h.2.1
    exact ⟨y.1, y.2, t, h.1, e, rfl⟩
  | x :: xs, y :: ys, i + 1, z, h, e => by
    simp only [List.getElem?_cons_succ] at e ⊢
    exact cells_at h.2.2.2 e
theorem cells_get {xs : List (List Mix × Addr × Value)} {kvs : List (Int × Int)} {p : Int} {q : Addr × Value} (h : Cells B xs kvs) (e : atKey xs (pk p) = some q) : ∃ m t, q.2 = .int m t ∧ (p, m) ∈ kvs := by
  unfold atKey at e
  obtain ⟨x, hx, rfl⟩ := Option.map_eq_some_iff.mp e
  have hx1 : x.1 = pk p := by have := List.find?_some hx; simpa using this
  obtain ⟨i, hi⟩ := List.mem_iff_getElem?.mp (List.mem_of_find?_eq_some hx)
  obtain ⟨p', m, t, h1, h2, h3⟩ := cells_at h hi
  have : p' = p := pk_inj (h1.symm.trans hx1)
  subst this
  exact ⟨m, t, h2, List.mem_of_getElem? h3⟩
theorem atKey_none {xs : List (List Mix × Addr × Value)} {k : List Mix} (h : k ∉ xs.map (·.1)) : atKey xs k = none := by
  unfold atKey
  rw [Option.map_eq_none_iff, List.find?_eq_none]
  intro x hx hk
  have hk' : x.1 = k := by simpa using hk
  exact h (List.mem_map.mpr ⟨x, hx, hk'⟩)
theorem atKey_some {xs : List (List Mix × Addr × Value)} {k : List Mix} (h : k ∈ xs.map (·.1)) : ∃ q, atKey xs k = some q := by
  cases e : atKey xs k with
  | some q => exact ⟨q, rfl⟩
  | none =>
    unfold atKey at e
    rw [Option.map_eq_none_iff, List.find?_eq_none] at e
    obtain ⟨x, hx, rfl⟩ := List.mem_map.mp h
    exact absurd (by simp) (e x hx)
theorem take_snoc {α : Type} {xs : List α} {i : Nat} (hi : i < xs.length) : xs.take (i + 1) = xs.take i ++ [xs[i]] := by
  rw [List.take_succ_eq_append_getElem hi]
theorem take_new {xs : List (List Mix × Addr × Value)} {i : Nat} (hn : (xs.map (·.1)).Nodup) (hi : i < xs.length) : xs[i].1 ∉ (xs.take i).map (·.1) := by
  have h1 : ((xs.take (i + 1)).map (·.1)).Nodup := hn.sublist ((List.take_sublist _ _).map _)
  rw [take_snoc hi, List.map_append, List.nodup_append] at h1
  intro hm
  exact h1.2.2 _ hm _ (List.mem_singleton_self _) rfl
theorem entry_eq {prog : Program} {w : World} {es : Array DictEntry} {xs : List (List Mix × Addr × Value)} (he : es.toList = xs.map (entryOfKey (tk3 prog w))) {i : Nat} (hi : i < es.size) (hx : i < xs.length) :
    es[i].key = .ref xs[i].2.1 ∧ es[i].val = xs[i].2.2 := by
  have := entry_at he i
  rw [Array.getElem?_eq_getElem hi, List.getElem?_eq_getElem hx] at this
  rw [Option.some.inj this]
  exact ⟨rfl, rfl⟩
theorem put_keys {prog : Program} {w : World} {h : Heap} {xs : List (List Mix × Addr × Value)} {k : List Mix} {v : Value} (hk : ∀ x ∈ xs, (tk3 prog w).is h x.1 x.2.1) : ∀ x ∈ xs.map (putAt k v), (tk3 prog w).is h x.1 x.2.1 := by
  intro x hx
  obtain ⟨z, hz, rfl⟩ := List.mem_map.mp hx
  unfold putAt
  by_cases e : z.1 = k
  · rw [if_pos e]; exact hk z hz
  · rw [if_neg e]; exact hk z hz
theorem ns_eq {h : Heap} {L : Addr} {m m' : Str → Option Value} {a b : Str} (hn : h.Ns L m') (hm : ∀ y, y ≠ a → y ≠ b → m' y = m y) : h.Ns L (fun y => if y = b then m' b else if y = a then m' a else m y) := by
  have e : m' = fun y => if y = b then m' b else if y = a then m' a else m y := funext fun y => by
    by_cases h1 : y = b
    · rw [if_pos h1, h1]
    · rw [if_neg h1]
      by_cases h2 : y = a
      · rw [if_pos h2, h2]
      · rw [if_neg h2, hm y h2 h1]
  rw [← e]; exact hn
end
end Mine

namespace Mine
set_option maxHeartbeats 20000000
local macro_rules | `(tactic| walk_at "nowhere") => `(tactic| skip)
def AddTells (w : World) (loose : List Str) (mean : ExcName → Option Value) (mg mb : Str → Option Value) : Prop :=
  ∀ (A A₀ : Around) (env : Env) (outer : List Env) (base h₀ : Heap) (L : Addr) (m : Str → Option Value) (s : Shared) (Q E : Value → Shared → Prop) (r q : Addr) (kvs : List (Int × Int)) (p n : Int) (B₀ : Heap),
    A.frames = some (env :: outer) → env.frame = some L → env.scope.kind = .function → A.handled = none → A.depth + 6 < recursionLimit → A.units + 64 < cLine →
    Below A₀ base outer h₀ → Fr h₀ L s.heap m → (hd.heap_39 w.params).In h₀ → Top topProg loose mean mg mb h₀ →
    Tab PySem.Challenge.rw_ib0003_01.row.prog w B₀ s.heap r kvs → Tab PySem.Challenge.rw_ib0003_01.row.prog w B₀ s.heap q [(p, n)] → kvs.length ≤ 8 →
    (∀ D s', Keeps s s' → s.heap.get? D = none → Tab PySem.Challenge.rw_ib0003_01.row.prog w B₀ s'.heap D (addTab kvs p n) → Q (.ref D) s') →
    wpAny (model PySem.Challenge.rw_ib0003_01.row.prog w) A (call (.ref 21) [.ref r, .ref q]) Q E s

local macro_rules | `(tactic| walk_at "exec For") => `(tactic| refine Stop.mk ?_)

theorem add_tells (w : World) (loose : List Str) (mean : ExcName → Option Value) (mg mb : Str → Option Value) : AddTells w loose mean mg mb := by
  unfold AddTells
  k_fill
  w_top off
  intro A A₀ env outer base h₀ L m s Q E r q kvs p n B₀ hA hf hke hh hdep hun B F X T hr hq hlen hret
  rcases A with ⟨ah, dp, fr, gd, un⟩
  dsimp only at hA hh hdep hun
  subst hh hA
  obtain ⟨lor, xs, dhr, hxs⟩ := hr
  obtain ⟨loq, ys, dhq, hys⟩ := hq
  have hxl : xs.length ≤ 8 := by rw [cells_len hxs]; exact hlen
  refine wpAny_call ?_
  k_dflt (refine' enterG (own := []) B F X News.nil T rfl hf hke ?k6 ?k7 ?k8 ?k9 ?kB ?_ ?c2 ?c3 ?c4 ?c5; (case k6 => k_is); (case k7 => k_is); (case k8 => exact (by show dp < recursionLimit; omega)); (case k9 => exact BindsTo.of_eq rfl); (case c5 => decide); (case kB => exact locs rfl); (case c2 => exact rfl); (case c3 => exact rfl); (case c4 => exact rfl); k_whole)
  intro g L' h₁ eg F' N' B' X' T'
  replace eg : g = s.heap := eg
  subst eg
  clear B F X T hf hke
  (try dsimp only)
  k_steps
  rename_i D0 h0 oD loD isD _ _ _ _ h₂ F₂ N₂
  have hD0 : s.heap.get? D0 = none := (N₂ _ (List.Mem.head _)).2.2
  have hD0L : D0 ≠ L' := (N₂ _ (List.Mem.head _)).2.1
  have hD0g : h₂.get? D0 = some oD := (N₂ _ (List.Mem.head _)).1
  have dh0 : DH PySem.Challenge.rw_ib0003_01.row.prog w s.heap h₂ D0 [] := by
    obtain ⟨es, ep, hc, hdat, _, hp, _⟩ := isD
    have he : es.toList = [] := List.length_eq_zero_iff.mp hp.length
    exact ⟨es, ep, ⟨oD, hD0g, hc, hdat⟩, he, fun _ hx => by simp at hx, List.nodup_nil⟩
  have hLn : ∀ b o, s.heap.get? b = some o → b ≠ L' := fun b o e => Nat.ne_of_lt (Nat.lt_of_lt_of_le (Heap.lt_size e) F₂.above)
  have hDn : ∀ b o, s.heap.get? b = some o → b ≠ D0 := fun b o e q => by rw [q, hD0] at e; cases e
  have hup₂ : Up s.heap h₂ := F₂.keep
  clear isD N₂
  refine wpAny_For ?_
  refine aft ?_
  k_steps
  have dhr₂ : DH PySem.Challenge.rw_ib0003_01.row.prog w s.heap h₂ r xs := dhr.at fun o e => hup₂ _ o e
  refine getMethod_builtin (dhr₂.toH hup₂).typeIs PySem.F.plainAttrs_dict PySem.F.slot_dict_items PySem.F.type_dict_items (dictOfH_noDict (dhr₂.toH hup₂)) ?_
  (try dsimp only)
  k_steps
  obtain ⟨es, ep, raw, hes, hxk, hxn⟩ := id dhr₂
  have hsz : es.size = xs.length := size_of_entries hes
  refine r_items lor raw ?_
  unfold Aft
  dsimp only
  refine it_items (v := h₂.objs.size) ⟨_, Heap.get?_push_size _ rfl, rfl, rfl⟩ (raw.at fun o e => up_push _ _ _ o e) fun h₃ up₃ hit₃ hz₃ => ?_
  have up₃' : Up h₂ h₃ := Up.trans (up_push _ _) up₃
  have hpz : (h₂.push { cls := Value.type "dict_items", dict := none, data := .fields #[.ref r], slots := #[] }).objs.size = h₂.objs.size + 1 := Heap.size_push ..
  rw [hpz] at hit₃ hz₃ ⊢
  have hrs : ∃ o, s.heap.get? r = some o := by obtain ⟨_, _, ⟨o, e, _⟩, _⟩ := dhr; exact ⟨o, e⟩
  obtain ⟨or, hor⟩ := hrs
  have hIn : ∀ b o, h₂.get? b = some o → b ≠ h₂.objs.size + 1 := fun b o e => Nat.ne_of_lt (Nat.lt_succ_of_lt (Heap.lt_size e))
  obtain ⟨oL, _, _, hoL, _⟩ := id F₂.ns
  refine forItems [D0] (fun i h => DH PySem.Challenge.rw_ib0003_01.row.prog w s.heap h D0 (xs.take i)) rfl rfl rfl (by decide) rfl
    (Ne.symm (hIn _ _ hoL)) (hLn _ _ hor) (hIn _ _ (hup₂ _ _ hor)) (by rw [List.mem_singleton]; exact Ne.symm (hIn _ _ hD0g)) (by rw [List.mem_singleton]; exact hDn _ _ hor) (by rw [List.mem_singleton]; exact Ne.symm hD0L)
    hit₃ (raw.at fun o e => up₃' _ o e) (ns_up F₂.ns up₃') (dh0.at fun o e => up₃' _ o e)
    (fun i ha hb x k => x.at fun o e => k _ o hD0L (hIn _ _ hD0g) e) ?_ ?_
  · intro i h₄ tk₄ m₄ hi E4 hJ hn₄ hfu hca hm₄ hk₄
    have hix : i < xs.length := hsz ▸ hi
    obtain ⟨ek, ev⟩ := entry_eq hes hi hix
    rw [ek] at hfu
    have up₄ : Up s.heap h₄ := fun b o e => hk₄ b o (hLn b o e) (hIn b o (hup₂ _ _ e)) (by rw [List.mem_singleton]; exact hDn b o e) (up₃' _ _ (hup₂ _ _ e))
    have hnc : m₄ (Str.ofString "new_callers") = some (.ref D0) := hm₄ _ (by decide) (by decide)
    refine wpAny_execs_cons (wpAny_Assign_Subscript (nameLocal rfl rfl hn₄ hca (nameLocal rfl rfl hn₄ hnc (nameLocal rfl rfl hn₄ hfu ?_))))
    refine wpAny_setItem_heap (tupleKind_room_in1 (by show un + 1 + 1 + 1 + 1 < cLine; omega)) (k := xs[i].1) (pk_up (hxk _ (List.getElem_mem hix)) fun o e => up₄ _ o e) (hJ.toH up₄) (fun h₆ hm₆ hs₆ => ?_)
      (by rw [sizeLine_eq]; have := List.length_take_le i xs; omega)
    refine wpAny_execs_nil ⟨rfl, h₆, _, rfl, fun b o hb e => hs₆.extBut b o (by simpa using hb) e, ?_⟩
    rw [storedH_new (atKey_none (take_new hxn hix)), ev] at hm₆
    show DH _ w s.heap h₆ D0 (xs.take (i + 1))
    rw [take_snoc hix]
    refine DH.ofH hm₆ fun x hx => ?_
    rcases List.mem_append.mp hx with hx | hx
    · exact hxk x (List.mem_of_mem_take hx)
    · rw [List.mem_singleton.mp hx]; exact hxk _ (List.getElem_mem hix)
  · intro h₅ tk₅ m₅ hn₅ hm₅ hJ₅ hk₅
    rw [hsz, List.take_length] at hJ₅
    have up₅ : Up s.heap h₅ := fun b o e => hk₅ b o (hLn b o e) (hIn b o (hup₂ _ _ e)) (by rw [List.mem_singleton]; exact hDn b o e) (up₃' _ _ (hup₂ _ _ e))
    have F₅ : Fr s.heap L' h₅ _ := Fr.mk (ns_eq hn₅ hm₅) up₅ F₂.above
    have N₅ : News s.heap L' h₅ [] := News.nil
    obtain ⟨y, rfl, hyk, ⟨ty, hyv⟩, hyB⟩ : ∃ y, ys = [y] ∧ y.1 = pk p ∧ (∃ t, y.2.2 = .int n t) ∧ B₀.get? y.2.1 = none := by
      cases ys with
      | nil => exact hys.elim
      | cons y r => cases r with
        | nil => exact ⟨y, rfl, hys.1, hys.2.1, hys.2.2.1⟩
        | cons _ _ => exact hys.2.2.2.elim
    obtain ⟨ya, yb, yc⟩ := y
    simp only at hyk hyv hyB
    subst hyk hyv
    clear hit₃ hm₅ hn₅ hk₅ up₃ up₃' raw dhr₂ F₂ hIn hes hsz
    (try dsimp only)
    k_steps
    refine Stop.out ?_
    refine wpAny_For ?_
    refine aft ?_
    k_steps
    have dhq₅ := dhq.at (h' := h₅) fun o e => up₅ _ o e
    refine getMethod_builtin (dhq₅.toH up₅).typeIs PySem.F.plainAttrs_dict PySem.F.slot_dict_items PySem.F.type_dict_items (dictOfH_noDict (dhq₅.toH up₅)) ?_
    (try dsimp only)
    k_steps
    obtain ⟨es, ep, raw, hes, hyk, hyn⟩ := id dhq₅
    have hsz : es.size = 1 := size_of_entries hes
    refine r_items loq raw ?_
    unfold Aft
    dsimp only
    refine it_items (v := h₅.objs.size) ⟨_, Heap.get?_push_size _ rfl, rfl, rfl⟩ (raw.at fun o e => up_push _ _ _ o e) fun h₆ up₆ hit₆ hz₆ => ?_
    have up₆' : Up h₅ h₆ := Up.trans (up_push _ _) up₆
    have hpz : (h₅.push { cls := Value.type "dict_items", dict := none, data := .fields #[.ref q], slots := #[] }).objs.size = h₅.objs.size + 1 := Heap.size_push ..
    rw [hpz] at hit₆ hz₆ ⊢
    obtain ⟨oq, hoq⟩ : ∃ o, s.heap.get? q = some o := by obtain ⟨_, _, ⟨o, e, _⟩, _⟩ := dhq; exact ⟨o, e⟩
    have hIn : ∀ b o, h₅.get? b = some o → b ≠ h₅.objs.size + 1 := fun b o e => Nat.ne_of_lt (Nat.lt_succ_of_lt (Heap.lt_size e))
    obtain ⟨oL, _, _, hoL, _⟩ := id F₅.ns
    obtain ⟨oD5, hD5⟩ : ∃ o, h₅.get? D0 = some o := by obtain ⟨_, _, ⟨o, e, _⟩, _⟩ := hJ₅; exact ⟨o, e⟩
    refine forItems [D0] (fun i h => if i = 0 then DH PySem.Challenge.rw_ib0003_01.row.prog w s.heap h D0 xs else ∃ zs, DH PySem.Challenge.rw_ib0003_01.row.prog w s.heap h D0 zs ∧ Cells B₀ zs (addTab kvs p n)) rfl rfl rfl (by decide) rfl
      (Ne.symm (hIn _ _ hoL)) (hLn _ _ hoq) (hIn _ _ (up₅ _ _ hoq)) (by rw [List.mem_singleton]; exact Ne.symm (hIn _ _ hD5)) (by rw [List.mem_singleton]; exact hDn _ _ hoq) (by rw [List.mem_singleton]; exact Ne.symm hD0L)
      hit₆ (raw.at fun o e => up₆' _ o e) (ns_up F₅.ns up₆') (by rw [if_pos rfl]; exact hJ₅.at fun o e => up₆' _ o e)
      (fun i ha hb x k => by
        by_cases hi0 : i = 0
        · rw [if_pos hi0] at x ⊢; exact x.at fun o e => k _ o hD0L (hIn _ _ hD5) e
        · rw [if_neg hi0] at x ⊢; obtain ⟨zs, x, c⟩ := x; exact ⟨zs, x.at fun o e => k _ o hD0L (hIn _ _ hD5) e, c⟩) ?_ ?_
    · intro i h₇ tk₇ m₇ hi E7 hJ hn₇ hfu hca hm₇ hk₇
      obtain rfl : i = 0 := by omega
      rw [if_pos rfl] at hJ
      obtain ⟨ek, ev⟩ := entry_eq hes hi (Nat.zero_lt_succ _)
      rw [ek] at hfu
      rw [ev] at hca
      replace hfu : m₇ (Str.ofString "func") = some (.ref yb) := hfu
      replace hca : m₇ (Str.ofString "caller") = some (.int n ty) := hca
      have up₇ : Up s.heap h₇ := fun b o e => hk₇ b o (hLn b o e) (hIn b o (up₅ _ _ e)) (by rw [List.mem_singleton]; exact hDn b o e) (up₆' _ _ (up₅ _ _ e))
      have hn₇' := ns_eq hn₇ hm₇
      rw [hfu, hca] at hn₇'
      have F₇ : Fr s.heap L' h₇ _ := Fr.mk hn₇' up₇ F₅.above
      have hyk' := hyk _ (List.mem_singleton_self _)
      have hky : (tk3 PySem.Challenge.rw_ib0003_01.row.prog w).is h₇ (pk p) yb := pk_up hyk' fun o e => up₇ _ o e
      clear hit₆ up₆ up₆' raw dhq₅ F₅ hIn hes hsz hn₇ hn₇' hm₇ hk₇
      k_steps
      have hm₇ := hJ.toH up₇
      have hroom : ∀ k, k ≤ 8 → un + k < cLine := fun k hk => by omega
      refine wpAny_in_heap (tupleKind_room_in1 (hroom 4 (by decide))) hky loD hm₇ ?_
      refine wpAny_truthy_bool ?_
      by_cases hmem : pk p ∈ xs.map (·.1)
      · obtain ⟨⟨va, vv⟩, hq⟩ := atKey_some hmem
        obtain ⟨m0, t0, hv, hpm⟩ := cells_get hxs hq
        simp only at hv
        subst hv
        rw [hq]
        rw [if_pos (by rfl)]
        k_steps
        refine wpAny_getItem_heap (tupleKind_room_in1 (hroom 4 (by decide))) hky hm₇ hq ?_
        (try dsimp only)
        k_steps
        refine wpAny_setItem_heap (tupleKind_room_in1 (hroom 4 (by decide))) hky hm₇ (fun h₈ hm₈ hs₈ => ?_) (by rw [sizeLine_eq]; omega)
        repeat (first | refine wpAny_execs_nil ?_ | dsimp only)
        refine ⟨rfl, h₈, _, rfl, fun b o hb e => hs₈.extBut b o (by simpa using hb) e, ?_⟩
        rw [if_neg (by decide)]
        rw [storedH_old hq] at hm₈
        refine ⟨_, DH.ofH hm₈ (put_keys hxk), ?_⟩
        rw [addTab, if_pos ((cells_mem hxs).mp hmem)]
        exact cells_put hxs (cells_nodup hxs hxn) hpm
      · rw [atKey_none hmem]
        rw [if_neg (by simp)]
        k_steps
        refine wpAny_setItem_heap (tupleKind_room_in1 (hroom 4 (by decide))) hky hm₇ (fun h₈ hm₈ hs₈ => ?_) (by rw [sizeLine_eq]; omega)
        repeat (first | refine wpAny_execs_nil ?_ | dsimp only)
        refine ⟨rfl, h₈, _, rfl, fun b o hb e => hs₈.extBut b o (by simpa using hb) e, ?_⟩
        rw [if_neg (by decide)]
        rw [storedH_new (atKey_none hmem)] at hm₈
        refine ⟨_, DH.ofH hm₈ (fun x hx => ?_), ?_⟩
        · rcases List.mem_append.mp hx with hx | hx
          · exact hxk x hx
          · rw [List.mem_singleton.mp hx]; exact hyk'
        · rw [addTab, if_neg (fun q => hmem ((cells_mem hxs).mpr q))]
          exact cells_append hxs ⟨rfl, ⟨_, rfl⟩, hyB, trivial⟩
    · intro h₇ tk₇ m₇ hn₇ hm₇ hJ₇ hk₇
      rw [if_neg (by rw [hsz]; decide)] at hJ₇
      obtain ⟨zs, dhz, hcz⟩ := hJ₇
      have up₇ : Up s.heap h₇ := fun b o e => hk₇ b o (hLn b o e) (hIn b o (up₅ _ _ e)) (by rw [List.mem_singleton]; exact hDn b o e) (up₆' _ _ (up₅ _ _ e))
      have F₇ : Fr s.heap L' h₇ _ := Fr.mk (ns_eq hn₇ hm₇) up₇ F₅.above
      clear hit₆ up₆ up₆' raw dhq₅ F₅ hIn hes hsz hn₇ hm₇ hk₇
      (try dsimp only)
      k_steps
      exact hret D0 _ ⟨h₇, _, rfl, up₇⟩ hD0 ⟨loD, zs, dhz.old up₇, hcz⟩
end Mine

namespace Mine
set_option maxHeartbeats 8000000
section
variable {prog : Program} {w : World} {A : Around} {E : Value → Shared → Prop} {env : Env} {B₀ h : Heap} {g : Array GenState} {dr : Drawn} {tk : Nat} {os : OsState}
theorem fresh_size (h : Heap) : h.get? h.objs.size = none := by
  cases e : h.get? h.objs.size with
  | none => rfl
  | some o => exact absurd (Heap.lt_size e) (Nat.lt_irrefl _)
theorem up_none {h h' : Heap} {D : Addr} (u : Up h h') (e : h'.get? D = none) : h.get? D = none := by
  cases e' : h.get? D with
  | none => rfl
  | some o => rw [u _ _ e'] at e; cases e
theorem tab_empty {d : Addr} {o : Obj} (e : h.get? d = some o) (lo : (d == sysModules) = false) (hd : o.IsDictOf (PySem.strKind prog w) []) : Tab prog w B₀ h d [] := by
  obtain ⟨es, ep, hc, hdat, _, hp, _⟩ := hd
  have he : es.toList = [] := List.length_eq_zero_iff.mp hp.length
  exact ⟨lo, [], ⟨es, ep, ⟨o, e, hc, hdat⟩, he, fun _ hx => by simp at hx, List.nodup_nil⟩, trivial⟩
/-- ('power', p, 'of') -/
theorem j_key {e : Expr} {p1 p3 p4 : Pos} {k1 k3 k4} {p : Int} {tp : Tok} {Q : Value → Shared → Prop}
    (he : ∀ tk' (Q' : Value → Shared → Prop), Q' (.int p tp) ⟨h, g, dr, tk', os⟩ → wpAny (model prog w) A (eval e env) Q' E ⟨h, g, dr, tk', os⟩)
    (hst : starEach [e, .Constant (.str (Str.ofString "of")) k3 p3] env = (false, eval e env) :: starEach [.Constant (.str (Str.ofString "of")) k3 p3] env)
    (hq : ∀ a h' tk', Up h h' → h'.objs.size = h.objs.size + 1 → h.get? a = none → (tk3 prog w).is h' (pk p) a → Q (.ref a) ⟨h', g, dr, tk', os⟩) :
    wpAny (model prog w) A (eval (.Tuple [.Constant (.str (Str.ofString "power")) k1 p1, e, .Constant (.str (Str.ofString "of")) k3 p3] k4 p4) env) Q E ⟨h, g, dr, tk, os⟩ := by
  refine wpAny_Tuple ?_
  refine wpAny_items_cons (wpAny_Constant_str ?_)
  refine wpAny_items_cons (he _ _ ?_) hst
  refine wpAny_items_cons (wpAny_Constant_str ?_)
  refine wpAny_items_nil ?_
  refine ⟨by rw [sizeLine_eq]; simp, hq _ _ _ (up_push _ _) (Heap.size_push ..) (fresh_size h) (pk_key (Heap.get?_push_size _ rfl))⟩

/-- {('power', p, 'of'): n} -/
theorem j_disp {x y : Str} {p1 p2 p3 p4 p5 p6 : Pos} {k1 k3 k4} {p n : Int} {tp tn : Tok} {m : Str → Option Value} {Q : Value → Shared → Prop}
    (hk : env.scope.kind = .function) (hxl : env.kindOf x = some .local) (hyl : env.kindOf y = some .local) (hn : h.Ns env.locals m) (hx : m x = some (.int p tp)) (hy : m y = some (.int n tn))
    (hu : A.units < cLine) (hbig : sysModules < h.objs.size) (hdx : (x == ("__debug__" : Str)) = false) (hdy : (y == ("__debug__" : Str)) = false) (hB : Up B₀ h)
    (hq : ∀ D h' tk', Up h h' → h.get? D = none → Tab prog w B₀ h' D [(p, n)] → Q (.ref D) ⟨h', g, dr, tk', os⟩) :
    wpAny (model prog w) A (eval (.Dict [some (.Tuple [.Constant (.str (Str.ofString "power")) k1 p1, .Name x p2, .Constant (.str (Str.ofString "of")) k3 p3] k4 p4)] [.Name y p5] p6) env) Q E ⟨h, g, dr, tk, os⟩ := by
  refine wpAny_Dict_any (by rfl) rfl (by simp) (by simp) ?_
  show wpAny _ A (evalPairs [(eval (.Tuple [.Constant (.str (Str.ofString "power")) k1 p1, .Name x p2, .Constant (.str (Str.ofString "of")) k3 p3] k4 p4) env, do let x ← eval (.Name y p5) env; standAt p6; pure x)]) _ _ ⟨h.push _, g, dr, tk, os⟩
  have hn1 : (h.push { cls := .type "dict", data := .dict #[] }).Ns env.locals m := ns_up hn (up_push _ _)
  refine wpAny_bind (j_key (p := p) (tp := tp) (fun tk' Q' hq' => nameLocal hk hxl hn1 hx hq' hdx) rfl fun a h₁ tk₁ up₁ hz₁ han ha => ?_)
  have hn2 : h₁.Ns env.locals m := ns_up hn1 up₁
  refine wpAny_bind (wpAny_holding (wpAny_bind (nameLocal hk hyl hn2 hy (wpAny_bind (wpAny_standAt (wpAny_pure ?_))) hdy)))
  refine wpAny_bind (wpAny_holding (wpAny_pure (wpAny_pure ?_)))
  show wpAny _ A (storeAll h.objs.size [(.ref a, .int n tn)]) _ _ _
  unfold storeAll
  rw [List.forIn_cons]
  have hD : h₁.DictOfH (tk3 prog w) h.objs.size [] := (DH.at (prog := prog) (w := w) (h₀ := h₁) (DH.ofH (Heap.DictOfH.new h) fun _ hx => by simp at hx) fun o e => up₁ _ o e).toH (Up.refl _)
  refine wpAny_bind (wpAny_bind (wpAny_dictSet_heap (k := pk p) (knd := tk3 prog w) hu ha hD (fun h₂ hm₂ hs₂ => wpAny_pure ?_) (Nat.zero_le _)))
  simp only [List.forIn_nil]
  refine wpAny_pure ?_
  replace hs₂ : Heap.SameBut h.objs.size h₁ h₂ := hs₂
  have up₂ : Up h h₂ := fun b o e => hs₂.extBut b o (Nat.ne_of_lt (Heap.lt_size e)) (up₁ _ _ (up_push _ _ _ _ e))
  have hane : a ≠ h.objs.size := by
    rintro rfl
    obtain ⟨o1, _, _, e1, c1, _⟩ := ha
    obtain ⟨o2, _, _, e2, c2, _⟩ := hD
    rw [e1] at e2
    cases e2
    have q := c2.1
    rw [c1] at q
    injection q with q
    exact absurd q (by decide)
  refine hq _ h₂ _ up₂ (fresh_size h) ⟨?_, _, DH.ofH hm₂ fun x hx => ?_, ?_⟩
  · have : h.objs.size ≠ sysModules := Nat.ne_of_gt hbig
    simpa using this
  · rw [storedH_new rfl, List.nil_append, List.mem_singleton] at hx
    subst hx
    exact pk_up ha fun o e => hs₂.extBut _ o hane e
  · rw [storedH_new rfl]
    exact ⟨rfl, ⟨_, rfl⟩, up_none hB (up_none (up_push _ _) han), trivial⟩
end
end Mine

namespace Mine
set_option maxHeartbeats 8000000
section
variable {prog : Program} {w : World} {A : Around} {R : Result → Shared → Prop} {B₀ h : Heap} {g : Array GenState} {dr : Drawn} {tk : Nat} {os : OsState}
/-- for x, y in a list of pairs -/
theorem forPairs {xk xv : Str} {p1 p2 pt : Pos} {x1} {body : List Stmt} {env : Env} {I l : Addr} {items : Array Value} {m : Str → Option Value}
    (P : Nat → Value → Value → Prop) (J : Nat → (Str → Option Value) → Heap → Prop)
    (hh : A.handled = none) (hxk : env.kindOf xk = some .local) (hxv : env.kindOf xv = some .local)
    (hp : (env.scope.kind == .class || (env.scope.kind == .module && env.locals != env.globals)) = false)
    (hIL : I ≠ env.locals) (hlL : l ≠ env.locals) (hlI : l ≠ I)
    (hit : h.IsListIter I l 0) (hl : h.IsList l items) (hn : h.Ns env.locals m)
    (htu : ∀ i (hi : i < items.size), ∃ T a b, items[i] = .ref T ∧ T ≠ env.locals ∧ T ≠ I ∧ h.IsTuple T #[a, b] ∧ P i a b)
    (hJ : J 0 m h)
    (hJs : ∀ i m₁ h₁ h₂, J i m₁ h₁ → (∀ b o, b ≠ env.locals → b ≠ I → h₁.get? b = some o → h₂.get? b = some o) → J i m₁ h₂)
    (step : ∀ i h₁ tk₁ m₁ (hi : i < items.size) (T : Addr) (a b : Value) (E' : Value → Shared → Prop), P i a b → J i m₁ h₁ → h₁.Ns env.locals (fun y => if y = xv then some b else if y = xk then some a else m₁ y) →
      (∀ b o, b ≠ env.locals → b ≠ I → h.get? b = some o → h₁.get? b = some o) → (∃ o, h₁.get? I = some o ∧ o.cls = .type "list_iterator") →
       wpAny (model prog w) A (execs body env) (fun f s₂ => f = .next ∧ ∃ h₂ tk₂ m₂, s₂ = ⟨h₂, g, dr, tk₂, os⟩ ∧ (∀ b o, b ≠ env.locals → h₁.get? b = some o → h₂.get? b = some o) ∧ h₂.Ns env.locals m₂ ∧ J (i + 1) m₂ h₂) E' ⟨h₁, g, dr, tk₁, os⟩)
    (hR : ∀ h' tk' m', h'.Ns env.locals m' → J items.size m' h' → (∀ b o, b ≠ env.locals → b ≠ I → h.get? b = some o → h'.get? b = some o) → R (.ok .next) ⟨h', g, dr, tk', os⟩) :
    codeAny (model prog w) A (.forLoop (.Tuple [.Name xk p1, .Name xv p2] x1 pt) (.ref I) body [] env) R ⟨h, g, dr, tk, os⟩ := by
  refine codeAny_forLoop_any
    (fun n s' => ∃ h' tk' m' i, s' = ⟨h', g, dr, tk', os⟩ ∧ h'.IsListIter I l i ∧ h'.IsList l items ∧ h'.Ns env.locals m' ∧ J i m' h' ∧ i ≤ items.size ∧
      n = items.size + 1 - i ∧ ∀ b o, b ≠ env.locals → b ≠ I → h.get? b = some o → h'.get? b = some o) ?_ (items.size + 1)
    ⟨h, tk, m, 0, rfl, hit, hl, hn, hJ, Nat.zero_le _, rfl, fun _ _ _ _ x => x⟩
  rintro n s' ⟨H, tk', m', i, rfl, hit', hl', hn', hJ', hi, rfl, hk⟩
  by_cases hlt : i < items.size
  · obtain ⟨T, a, b, hT, hTL, hTI, htup, hP⟩ := htu i hlt
    refine wpAny_pyNext_list_item hit' hl' (x := .ref T) (by rw [Array.getElem?_eq_getElem hlt, hT]) fun h₁ hit₁ hs₁ => ?_
    replace hs₁ : Heap.SameBut I H h₁ := hs₁
    have ht₁ : h₁.IsTuple T #[a, b] := by
      obtain ⟨o, e, r⟩ := htup
      exact ⟨o, hs₁.extBut T o hTI (hk T o hTL hTI e), r⟩
    refine wpAny_letOwnedTupleGo_listiter hit₁ ?_
    refine wpAny_assign_Tuple hh ht₁ rfl rfl fun h₃ hx₃ => ?_
    replace hx₃ : Heap.ExtBut h₁.objs.size h₁ h₃ := hx₃
    have hz₁ : h₁.objs.size = H.objs.size := hs₁.1
    have up₃ : ∀ b o, b ≠ I → H.get? b = some o → h₃.get? b = some o := fun b o hb e => hx₃ b o (by rw [hz₁]; exact Nat.ne_of_lt (Heap.lt_size e)) (hs₁.extBut b o hb e)
    have hn₃ : h₃.Ns env.locals m' := hn'.at' fun o e => up₃ _ o (Ne.symm hIL) e
    have hit₃ : h₃.IsListIter I l (i + 1) := hit₁.at fun o e => hx₃ I o (Nat.ne_of_lt (Heap.lt_size e)) e
    show wpAny _ _ (do holding [b] (assign (.Name xk p1) env a); do holding [] (assign (.Name xv p2) env b); pure ()) _ _ _
    refine wpAny_bind (wpAny_holding (wpAny_assign_Name (wpAny_storeName_local hxk hn₃ (fun h₄ hn₄ hs₄ => ?_) hp)))
    replace hs₄ : Heap.SameBut env.locals h₃ h₄ := hs₄
    refine wpAny_bind (wpAny_holding (wpAny_assign_Name (wpAny_storeName_local hxv hn₄ (fun h₅ hn₅ hs₅ => wpAny_pure ?_) hp)))
    replace hs₅ : Heap.SameBut env.locals h₄ h₅ := hs₅
    have up₅ : ∀ b o, b ≠ env.locals → h₃.get? b = some o → h₅.get? b = some o := fun b o hbL x => hs₅.extBut b o hbL (hs₄.extBut b o hbL x)
    have up₅' : ∀ b o, b ≠ env.locals → b ≠ I → H.get? b = some o → h₅.get? b = some o := fun b o h1 h2 e => up₅ b o h1 (up₃ b o h2 e)
    have hit₅ : h₅.IsListIter I l (i + 1) := hit₃.at fun o e => up₅ I o hIL e
    refine wpAny_mono (step i h₅ _ m' hlt T a b _ hP (hJs _ _ _ _ hJ' up₅') hn₅ (fun b o h1 h2 e => up₅' b o h1 h2 (hk b o h1 h2 e)) (let ⟨o, e, c, _⟩ := hit₅; ⟨o, e, c⟩)) (fun f s₃ h₆ => ?_) fun _ _ x => x
    obtain ⟨rfl, h₆, tk₆, m₆, rfl, hu₆, hn₆, hJ₆⟩ := h₆
    refine ⟨items.size + 1 - (i + 1), by omega, h₆, tk₆, m₆, i + 1, rfl, hit₅.at fun o e => hu₆ I o hIL e, hl'.at fun o e => hu₆ l o hlL (up₅' l o hlL hlI e), hn₆, hJ₆, hlt, rfl,
      fun b o h1 h2 e => hu₆ b o h1 (up₅' b o h1 h2 (hk b o h1 h2 e))⟩
  · obtain rfl : i = items.size := Nat.le_antisymm hi (Nat.not_lt.mp hlt)
    refine wpAny_pyNext_list_end hh hit' hl' (by simp) fun h₁ he₁ => wpAny_execs_nil ?_
    exact hR h₁ tk' m' (hn'.extBut he₁ (Ne.symm hIL)) (hJs _ _ _ _ hJ' fun b o _ h2 e => he₁ b o h2 e) fun b o h1 h2 e => he₁ b o h2 (hk b o h1 h2 e)

theorem ns_put {L : Addr} {m : Str → Option Value} {k x y : Str} {v a b : Option Value} (hn : h.Ns L (fun z => if z = x then a else if z = y then b else m z)) (e : m k = v) : h.Ns L (fun z => if z = x then a else if z = y then b else if z = k then v else m z) := by
  have q : m = fun z => if z = k then v else m z := funext fun z => by
    by_cases h1 : z = k
    · rw [if_pos h1, h1, e]
    · rw [if_neg h1]
  rw [q] at hn; exact hn
/-- a table at d, its keys and itself away from two addresses -/
def TabOff (prog : Program) (w : World) (B₀ : Heap) (L I : Addr) (h : Heap) (d : Addr) (kvs : List (Int × Int)) : Prop :=
  (d == sysModules) = false ∧ d ≠ L ∧ d ≠ I ∧ ∃ xs, DH prog w h h d xs ∧ (∀ x ∈ xs, x.2.1 ≠ L ∧ x.2.1 ≠ I) ∧ Cells B₀ xs kvs
theorem TabOff.tab {L I d : Addr} {kvs : List (Int × Int)} (x : TabOff prog w B₀ L I h d kvs) : Tab prog w B₀ h d kvs := let ⟨a, _, _, xs, e, _, c⟩ := x; ⟨a, xs, e, c⟩
theorem TabOff.but {h' : Heap} {L I d : Addr} {kvs : List (Int × Int)} (x : TabOff prog w B₀ L I h d kvs) (k : ∀ b o, b ≠ L → b ≠ I → h.get? b = some o → h'.get? b = some o) : TabOff prog w B₀ L I h' d kvs := by
  obtain ⟨a, b, c, xs, ⟨es, ep, r, e, ke, n⟩, f, q⟩ := x
  exact ⟨a, b, c, xs, ⟨es, ep, r.at fun o e => k _ o b c e, e, fun y hy => pk_up (ke y hy) fun o e => k _ o (f y hy).1 (f y hy).2 e, n⟩, f, q⟩
theorem Tab.off {L I d : Addr} {kvs : List (Int × Int)} {m : Str → Option Value} (x : Tab prog w B₀ h d kvs) (b : d ≠ L) (c : d ≠ I) (hL : h.Ns L m) (hI : ∃ o, h.get? I = some o ∧ o.cls = .type "list_iterator") : TabOff prog w B₀ L I h d kvs := by
  obtain ⟨a, xs, e, q⟩ := x
  refine ⟨a, b, c, xs, e, fun y hy => ?_, q⟩
  obtain ⟨o1, it, n, e1, c1, d1, _⟩ := e.keys y hy
  constructor
  · rintro rfl
    obtain ⟨o2, _, _, e2, d2, _⟩ := hL
    rw [e1] at e2
    cases e2
    rw [d1] at d2
    cases d2
  · rintro rfl
    obtain ⟨o2, e2, c2⟩ := hI
    rw [e1] at e2
    cases e2
    rw [c1] at c2
    injection c2 with q
    exact absurd q (by decide)
end
end Mine

namespace Mine
set_option maxHeartbeats 20000000
local macro_rules | `(tactic| walk_at "nowhere") => `(tactic| skip)
def tabOf (a b : Int) : List (Int × Int) := [(2, 1), (1, (0 - a) + (0 - b)), (0, a * b)]
def stepsT (a b : Int) : List (Int × Int) := [(2, 1), (1, 0 - a), (1, 0 - b), (0, a * b)]
def accT (a b : Int) (i : Nat) : List (Int × Int) := ((stepsT a b).take i).foldl (fun k y => addTab k y.1 y.2) []
theorem accT_end (a b : Int) : accT a b 4 = tabOf a b := rfl
theorem addTab_len (k : List (Int × Int)) (p n : Int) : (addTab k p n).length ≤ k.length + 1 := by
  unfold addTab
  split <;> simp
theorem foldTab_len : ∀ (l k : List (Int × Int)), (l.foldl (fun k y => addTab k y.1 y.2) k).length ≤ k.length + l.length
  | [], k => Nat.le_refl _
  | y :: l, k => by
    have h1 := foldTab_len l (addTab k y.1 y.2)
    have h2 := addTab_len k y.1 y.2
    simp only [List.foldl_cons, List.length_cons]
    omega
theorem accT_len (a b : Int) (i : Nat) : (accT a b i).length ≤ 8 := by
  have h1 := foldTab_len ((stepsT a b).take i) []
  have h2 : ((stepsT a b).take i).length ≤ 4 := List.length_take_le' i (stepsT a b)
  unfold accT
  simp only [List.length_nil] at h1
  omega
theorem accT_succ (a b : Int) (i : Nat) (hi : i < 4) : accT a b (i + 1) = addTab (accT a b i) ((stepsT a b).getD i (0, 0)).1 ((stepsT a b).getD i (0, 0)).2 := by
  match i, hi with
  | 0, _ => rfl
  | 1, _ => rfl
  | 2, _ => rfl
  | 3, _ => rfl
def Tiny (x : Int) : Prop := -(2 ^ 20) < x ∧ x < 2 ^ 20
def TableTells (w : World) (loose : List Str) (mean : ExcName → Option Value) (mg mb : Str → Option Value) : Prop :=
  ∀ (A A₀ : Around) (env : Env) (outer : List Env) (base h₀ : Heap) (L : Addr) (m : Str → Option Value) (s : Shared) (Q E : Value → Shared → Prop) (a b : Int) (ta tb : Tok),
    A.frames = some (env :: outer) → env.frame = some L → env.scope.kind = .function → A.handled = none → A.depth + 16 < recursionLimit → A.units + 128 < cLine →
    Below A₀ base outer h₀ → Fr h₀ L s.heap m → (hd.heap_39 w.params).In h₀ → Top topProg loose mean mg mb h₀ → Tiny a → Tiny b →
    (∀ D s', Keeps s s' → s.heap.get? D = none → Tab PySem.Challenge.rw_ib0003_01.row.prog w s.heap s'.heap D (tabOf a b) → Q (.ref D) s') →
    wpAny (model PySem.Challenge.rw_ib0003_01.row.prog w) A (call (.ref 77) [.int a ta, .int b tb]) Q E s

local macro_rules | `(tactic| walk_at "call ref") => `(tactic| refine Stop.mk ?_)
local macro_rules | `(tactic| walk_at "exec For Tuple List cons nil") => `(tactic| refine Stop.mk ?_)

theorem table_tells (w : World) (loose : List Str) (mean : ExcName → Option Value) (mg mb : Str → Option Value) : TableTells w loose mean mg mb := by
  unfold TableTells
  k_fill
  w_top off
  intro A A₀ env outer base h₀ L m s Q E a b ta tb hA hf hke hh hdep hun B F X T hta htb hret
  rcases A with ⟨ah, dp, fr, gd, un⟩
  dsimp only at hA hh hdep hun
  subst hh hA
  refine wpAny_call ?_
  k_dflt (refine' enterG (own := []) B F X News.nil T rfl hf hke ?k6 ?k7 ?k8 ?k9 ?kB ?_ ?c2 ?c3 ?c4 ?c5; (case k6 => k_is); (case k7 => k_is); (case k8 => exact (by show dp < recursionLimit; omega)); (case k9 => exact BindsTo.of_eq rfl); (case c5 => decide); (case kB => exact locs rfl); (case c2 => exact rfl); (case c3 => exact rfl); (case c4 => exact rfl); k_whole)
  intro g L' h₁ eg F' N' B' X' T'
  replace eg : g = s.heap := eg
  subst eg
  clear B F X T hf hke
  (try dsimp only)
  k_steps
  have hbig : sysModules < s.heap.objs.size := modules_low T'.nolimit
  rename Obj.IsDictOf (PySem.strKind _ _) _ _ => iD
  rename (_ == sysModules) = false => lo0
  (try refine Stop.out ?_)
  refine wpAny_For ?_
  refine aft ?_
  k_steps
  refine j_mul (by have := hta.1; omega) (by have := hta.2; omega) fun t1 tk1 => ?_
  (try dsimp only)
  k_steps
  unfold Aft
  dsimp only
  rename Fr _ _ _ _ => Fa
  rename News _ _ _ _ => Na
  rename_i dE _ oE _ _ _ _ _ T1 _ _ T2 _ _ T3 _ _ T4 _ _ lA hA _
  have n1 := Na _ (.head _)
  have n2 := Na _ (.tail _ (.head _))
  have n3 := Na _ (.tail _ (.tail _ (.head _)))
  have n4 := Na _ (.tail _ (.tail _ (.tail _ (.head _))))
  have n5 := Na _ (.tail _ (.tail _ (.tail _ (.tail _ (.head _)))))
  have n6 := Na _ (.tail _ (.tail _ (.tail _ (.tail _ (.tail _ (.head _))))))
  dsimp only at n1 n2 n3 n4 n5 n6
  have et := tab_empty (prog := PySem.Challenge.rw_ib0003_01.row.prog) (w := w) (B₀ := s.heap) n6.1 lo0 iD
  refine wpAny_pyIter_list (l := lA) (items := #[.ref T1, .ref T2, .ref T3, .ref T4]) ⟨_, n1.1, rfl, _, rfl⟩ ?_
  dsimp only
  have hne : ∀ {b o}, hA.get? b = some o → b ≠ hA.objs.size := fun e => Nat.ne_of_lt (Heap.lt_size e)
  obtain ⟨oL, _, _, hoL, _⟩ := id Fa.ns
  have upA : Up hA (hA.push { cls := .type "list_iterator", data := .fields #[.ref lA, .int 0 0] }) := up_push _ _
  refine forPairs (l := lA) (items := #[.ref T1, .ref T2, .ref T3, .ref T4]) (fun i x y => ∃ tx ty, x = .int ((stepsT a b).getD i (0, 0)).1 tx ∧ y = .int ((stepsT a b).getD i (0, 0)).2 ty)
    (fun i m h => Up s.heap h ∧ ∃ d, m (Str.ofString "table") = some (.ref d) ∧ s.heap.get? d = none ∧ TabOff PySem.Challenge.rw_ib0003_01.row.prog w s.heap L' hA.objs.size h d (accT a b i))
    rfl rfl rfl rfl (Ne.symm (hne hoL)) n1.2.1 (hne n1.1) ⟨_, Heap.get?_push_size _ rfl, rfl, rfl⟩ ⟨_, upA _ _ n1.1, rfl, _, rfl⟩ (ns_up Fa.ns upA) ?_ ?_ ?_ ?_ ?_
  · intro i hi
    have hi' : i < 4 := hi
    match i, hi' with
    | 0, _ => exact ⟨T1, _, _, rfl, n5.2.1, hne n5.1, ⟨_, upA _ _ n5.1, rfl, _, rfl⟩, _, _, rfl, rfl⟩
    | 1, _ => exact ⟨T2, _, _, rfl, n4.2.1, hne n4.1, ⟨_, upA _ _ n4.1, rfl, _, rfl⟩, _, _, rfl, rfl⟩
    | 2, _ => exact ⟨T3, _, _, rfl, n3.2.1, hne n3.1, ⟨_, upA _ _ n3.1, rfl, _, rfl⟩, _, _, rfl, rfl⟩
    | 3, _ => exact ⟨T4, _, _, rfl, n2.2.1, hne n2.1, ⟨_, upA _ _ n2.1, rfl, _, rfl⟩, _, _, rfl, rfl⟩
  · exact ⟨Up.trans Fa.keep upA, dE, rfl, n6.2.2, (et.up upA).off n6.2.1 (hne n6.1) (ns_up Fa.ns upA) ⟨_, Heap.get?_push_size _ rfl, rfl⟩⟩
  · rintro i m₁ h₁ h₂ ⟨u, d, e1, e2, t⟩ k
    refine ⟨fun b o e => k b o (Nat.ne_of_lt (Nat.lt_of_lt_of_le (Heap.lt_size e) Fa.above)) ?_ (u b o e), d, e1, e2, t.but k⟩
    exact hne (Fa.keep b o e)
  · rintro i h₁ tk₁ m₁ hi T x y E' ⟨tx, ty, rfl, rfl⟩ ⟨u, d, e1, e2, t⟩ hn₁ k₁ hI₁
    have F₁ : Fr s.heap L' h₁ _ := Fr.mk (ns_put hn₁ e1) u Fa.above
    have N₁ : News s.heap L' h₁ [] := News.nil
    have hILn : hA.objs.size ≠ L' := Ne.symm (hne hoL)
    clear Fa Na n1 n2 n3 n4 n5 n6 hoL et upA
    k_steps
    refine j_disp rfl rfl rfl F₁.ns rfl rfl (by show un + 3 < cLine; omega) (Nat.lt_trans (Nat.lt_of_lt_of_le hbig F₁.above) F₁.ns.lt) (by decide) (by decide) u fun D2 h2 k2 u2 n2 t2 => ?_
    have F₂ := F₁.keeps u2
    clear F₁ N₁
    have N₂ : News s.heap L' h2 [] := News.nil
    (try dsimp only)
    k_steps
    refine Stop.out ?_
    refine add_tells w loose mean mg mb _ _ _ (env :: outer) base s.heap L' _ _ _ _ _ _ _ _ _ _ (Around.frames_deeper B'.stack) rfl rfl rfl (by show dp + 1 + 6 < recursionLimit; omega) (by show un + 3 + 64 < cLine; omega) B' F₂ X' T' (t.tab.up u2) t2 (accT_len a b i) ?_
    rintro R3 _ ⟨g3, k3, rfl, v3⟩ m3 r3
    dsimp only at m3 r3 v3
    obtain ⟨oI, eI, cI⟩ := hI₁
    have hR : ∀ {b o}, h₁.get? b = some o → R3 ≠ b := fun e q => by rw [← q] at e; rw [u2 _ _ e] at m3; cases m3
    obtain ⟨oL3, _, _, hoL3, _⟩ := id hn₁
    (try dsimp only)
    refine wpAny_storeName_local rfl (F₂.keeps v3).ns (fun h5 hn5 hs5 => ?_) rfl
    replace hs5 : Heap.SameBut L' g3 h5 := hs5
    repeat (first | refine wpAny_execs_nil ?_ | dsimp only)
    have k5 : ∀ b o, b ≠ L' → h₁.get? b = some o → h5.get? b = some o := fun b o hb e => hs5.extBut b o hb (v3 _ _ (u2 _ _ e))
    have hIL : hA.objs.size ≠ L' := hILn
    refine ⟨rfl, h5, _, _, rfl, k5, hn5, fun b o e => k5 b o (Nat.ne_of_lt (Nat.lt_of_lt_of_le (Heap.lt_size e) F₂.above)) (u b o e), R3, by simp, up_none u (up_none u2 m3), ?_⟩
    rw [accT_succ a b i hi]
    exact (r3.off (hR hoL3) (hR eI) (F₂.keeps v3).ns ⟨oI, v3 _ _ (u2 _ _ eI), cI⟩).but fun b o hb _ e => hs5.extBut b o hb e
  · rintro h₁ tk₁ m₁ hn₁ ⟨u, d, e1, e2, t⟩ k₁
    have F₁ : Fr s.heap L' h₁ _ := Fr.mk hn₁ u Fa.above
    dsimp only
    refine wpAny_execs_cons (wpAny_Return_some (nameLocal rfl rfl hn₁ e1 ?_))
    dsimp only
    exact hret d _ ⟨h₁, tk₁, rfl, u⟩ e2 t.tab
end Mine

namespace Mine
set_option maxHeartbeats 20000000
def getT (kvs : List (Int × Int)) (p : Int) : Int := ((kvs.find? fun y => decide (y.1 = p)).map (·.2)).getD 0
theorem cells_find : ∀ {B₀ : Heap} {xs : List (List Mix × Addr × Value)} {kvs : List (Int × Int)} (p : Int) (t0 : Tok), Cells B₀ xs kvs → ∃ t, ((atKey xs (pk p)).map (·.2)).getD (.int 0 t0) = .int (getT kvs p) t
  | _, [], [], p, t0, _ => ⟨t0, rfl⟩
  | _, x :: xs, y :: ys, p, t0, h => by
    obtain ⟨tv, ev⟩ := h.2.1
    by_cases hp : y.1 = p
    · have hx : x.1 = pk p := by rw [h.1, hp]
      refine ⟨tv, ?_⟩
      simp [atKey, getT, List.find?_cons, hx, hp, ev]
    · have hx : ¬ x.1 = pk p := fun q => hp (pk_inj (h.1.symm.trans q))
      obtain ⟨t, e⟩ := cells_find (xs := xs) (kvs := ys) p t0 h.2.2.2
      refine ⟨t, ?_⟩
      simp only [atKey, getT, List.find?_cons, hx, hp, decide_false] at e ⊢
      exact e
def RowTells (w : World) (loose : List Str) (mean : ExcName → Option Value) (mg mb : Str → Option Value) : Prop :=
  ∀ (A A₀ : Around) (env : Env) (outer : List Env) (base h₀ : Heap) (L : Addr) (m : Str → Option Value) (s : Shared) (Q E : Value → Shared → Prop) (d : Addr) (kvs : List (Int × Int)) (B₀ : Heap),
    A.frames = some (env :: outer) → env.frame = some L → env.scope.kind = .function → A.handled = none → A.depth + 16 < recursionLimit → A.units + 128 < cLine →
    Below A₀ base outer h₀ → Fr h₀ L s.heap m → (hd.heap_39 w.params).In h₀ → Top topProg loose mean mg mb h₀ → Tab PySem.Challenge.rw_ib0003_01.row.prog w B₀ s.heap d kvs →
    (∀ D s' vs, Keeps s s' → s.heap.get? D = none → s'.heap.PlainList D (List.toArray vs) → IntsAre vs [getT kvs 0, getT kvs 1, getT kvs 2] → Q (.ref D) s') →
    wpAny (model PySem.Challenge.rw_ib0003_01.row.prog w) A (call (.ref 82) [.ref d]) Q E s

local macro_rules | `(tactic| walk_at "eval ListComp") => `(tactic| refine Stop.mk ?_)

theorem row_tells (w : World) (loose : List Str) (mean : ExcName → Option Value) (mg mb : Str → Option Value) : RowTells w loose mean mg mb := by
  unfold RowTells
  k_fill
  w_top off
  intro A A₀ env outer base h₀ L m s Q E d kvs B₀ hA hf hke hh hdep hun B F X T hd0 hret
  rcases A with ⟨ah, dp, fr, gd, un⟩
  dsimp only at hA hh hdep hun
  subst hh hA
  refine wpAny_call ?_
  k_dflt (refine' enterCG (own := []) B F X News.nil T rfl hf hke ?k6 ?k7 ?k8 ?k9 ?kB ?kD ?_ ?c2 ?c3 ?c4; (case k6 => k_is); (case k7 => k_is); (case k8 => exact (by show dp < recursionLimit; omega)); (case k9 => exact BindsTo.of_eq rfl); (case kB => exact rfl); (case kD => decide +kernel); (case c2 => exact rfl); (case c3 => exact rfl); (case c4 => exact rfl); k_whole)
  intro g L' h₁ tk cells eg F' N' Y' B' X' T' l1
  replace eg : g = s.heap := eg
  subst eg
  k_cells Y'
  (try simp only [List.cons_append, List.nil_append] at N')
  rename_i o' d1'
  replace F' : Fr s.heap L' h₁ (fun _ => none) := F'
  replace d1' : o'.data = .cell (some (.ref d)) := d1'
  clear l1 B F X T hf hke
  (try dsimp only)
  k_steps
  refine Stop.out ?_
  refine compG (cl := [(Str.ofString "table", L' + 1)]) (by rfl) (by rfl) (by decide) ?_
  refine aft ?_
  k_steps
  rename_i h₃ tk₃ t1 u1 v1 hrng F₃ N₃ up₃
  unfold Aft
  dsimp only
  refine wpAny_pyIter_range hrng (by decide) ?_
  dsimp only
  rw [show Builtin.Range.rangeSize 0 3 1 = ((3 : Nat) : Int) from by decide]
  have hup : Up s.heap h₃ := F₃.keep
  have hroom : ∀ k, k ≤ 64 → un + k < cLine := fun k hk => by omega
  refine ⟨3, [h₃.objs.size], fun _ => [], _, _, fun _ i y _ => ∃ t, y = .int (getT kvs (i : Int)) t, okLocal _ (LCg.range_walks rfl 0 3) (by rw [sizeLine_eq]; decide) ?_ ?_ (fun _ => rfl) rfl rfl ?_ ?_, ?_⟩
  · show IsRangeIter _ _ _ _ _
    simpa using Heap.get?_push_size _ rfl
  · intro b hb
    show b < (h₃.push _).objs.size
    rw [List.mem_singleton.mp hb, Heap.size_push]; exact Nat.lt_succ_self _
  · exact fun _ _ _ _ _ h _ => h
  · intro C X k v h₄ tk₄ m₄ E4 hC hi hP hn hv hX1 hX2 hst hk
    obtain ⟨tv, rfl⟩ := hP
    rw [Int.zero_add] at hv
    have up₄ : Up h₃ h₄ := fun b o e => hk b o (fun hb => by
      have e2 := Heap.lt_size e
      rcases hX1 b hb with q | q
      · rw [List.mem_singleton.mp q] at e2; exact Nat.lt_irrefl _ e2
      · have q' : h₃.objs.size + 1 ≤ b := by rw [← Heap.size_push]; exact q
        exact Nat.lt_irrefl _ (Nat.lt_of_lt_of_le (Nat.lt_succ_of_lt e2) q')) (Heap.get?_push_of_some _ e)
    have hrc : h₄.IsCell (L' + 1) (some (.ref d)) := ⟨_, up₄ _ _ (N₃ _ (List.Mem.head _)).1, d1'⟩
    obtain ⟨lod, xs, dhx, hxs⟩ := hd0.up (Up.trans hup up₄)
    have hD := dhx.toH (Up.refl _)
    dsimp only
    refine wpAny_Call_method (T := "dict") (id := "dict.get") rfl rfl rfl PySem.F.plainAttrs_dict PySem.F.slot_dict_get PySem.F.type_dict_get (nameCell rfl rfl rfl hrc ⟨hD.typeIs, dictOfH_noDict hD, ?_⟩)
    refine wpAny_dict_get2_heap (knd := tk3 PySem.Challenge.rw_ib0003_01.row.prog w) (tupleKind_room_in1 (hroom 4 (by decide))) lod ?_
    refine j_key (k4 := 0) (p := k) (tp := tv) (fun tk' Q' hq' => nameLocal rfl rfl hn hv hq') rfl fun a h₅ tk₅ up₅ hz₅ _ ha => ?_
    refine j_const (k := 0) (pos := default) fun t6 tk6 => ?_
    obtain ⟨tr, er⟩ := cells_find (k : Int) t6 hxs
    refine ⟨a, _, xs, rfl, ha, (dhx.old up₅ |>.at fun o e => up₅ _ o e).toH (Up.refl _), ?_⟩
    rw [er]
    exact ⟨kp up₅, tr, rfl⟩
  · intro D h₇ tk₇ ys X₇ hD hyn hys hk₇ hDn
    have up₇ : Up h₃ h₇ := fun b o e => hk₇ b o (fun hb => by
      rw [List.mem_singleton.mp hb] at e
      exact Nat.lt_irrefl _ (Heap.lt_size e)) (Heap.get?_push_of_some _ e)
    obtain ⟨vs, rfl⟩ : ∃ vs : List Value, ys = vs.toArray := ⟨ys.toList, (Array.toArray_toList).symm⟩
    have hI₇ : IntsAre vs ((List.range 3).map fun i : Nat => getT kvs (i : Int)) := ints_of_get 3 vs _ (by simpa using hyn) fun i y e => hys i y (by simpa using e)
    have hDs : s.heap.get? D = none := up_none hup (up_none (up_push _ _) hDn)
    clear F₃ N₃
    (try dsimp only)
    k_steps
    exact hret D _ vs ⟨h₇, _, rfl, Up.trans hup up₇⟩ hDs hD hI₇
end Mine

namespace Mine
set_option maxHeartbeats 20000000
local macro_rules | `(tactic| walk_at "nowhere") => `(tactic| skip)
theorem j_iadd {prog : Program} {w : World} {A : Around} {E : Value → Shared → Prop} {h : Heap} {g : Array GenState} {d : Drawn} {tk : Nat} {os : OsState} {a b : Int} {t u : Tok} {Q : Value → Shared → Prop} (hq : ∀ t tk', Q (.int (a + b) t) ⟨h, g, d, tk', os⟩) :
    wpAny (model prog w) A (inplaceOp .Add (.int a t) (.int b u)) Q E ⟨h, g, d, tk, os⟩ := AutoIntOps.iadd_0 (hq _ _)
def sumT (kvs : List (Int × Int)) : Int := (kvs.map (·.2)).sum
theorem sumT_snoc {kvs : List (Int × Int)} {i : Nat} {y : Int × Int} (e : kvs[i]? = some y) : sumT (kvs.take (i + 1)) = sumT (kvs.take i) + y.2 := by
  obtain ⟨hi, rfl⟩ := List.getElem?_eq_some_iff.mp e
  unfold sumT
  rw [List.take_succ_eq_append_getElem hi, List.map_append, List.sum_append, List.map_cons, List.map_nil, List.sum_cons, List.sum_nil, Int.add_zero]
theorem m_put2 {m M : Str → Option Value} {k x : Str} {v : Option Value} (e : m k = v) (hm : ∀ y, y ≠ x → y ≠ k → m y = M y) : m = fun z => if z = k then v else if z = x then m x else M z := funext fun z => by
  by_cases h1 : z = k
  · rw [if_pos h1, h1, e]
  · rw [if_neg h1]
    by_cases h2 : z = x
    · rw [if_pos h2, h2]
    · rw [if_neg h2, hm z h2 h1]
def CountTells (w : World) (loose : List Str) (mean : ExcName → Option Value) (mg mb : Str → Option Value) : Prop :=
  ∀ (A A₀ : Around) (env : Env) (outer : List Env) (base h₀ : Heap) (L : Addr) (m : Str → Option Value) (s : Shared) (Q E : Value → Shared → Prop) (d : Addr) (kvs : List (Int × Int)) (B₀ : Heap),
    A.frames = some (env :: outer) → env.frame = some L → env.scope.kind = .function → A.handled = none → A.depth + 16 < recursionLimit → A.units + 128 < cLine →
    Below A₀ base outer h₀ → Fr h₀ L s.heap m → (hd.heap_39 w.params).In h₀ → Top topProg loose mean mg mb h₀ → Tab PySem.Challenge.rw_ib0003_01.row.prog w B₀ s.heap d kvs →
    (∀ t s', Keeps s s' → Q (.int (sumT kvs) t) s') →
    wpAny (model PySem.Challenge.rw_ib0003_01.row.prog w) A (call (.ref 28) [.ref d]) Q E s

local macro_rules | `(tactic| walk_at "exec For Name Call cons nil") => `(tactic| refine Stop.mk ?_)

theorem count_tells (w : World) (loose : List Str) (mean : ExcName → Option Value) (mg mb : Str → Option Value) : CountTells w loose mean mg mb := by
  unfold CountTells
  k_fill
  w_top off
  intro A A₀ env outer base h₀ L m s Q E d kvs B₀ hA hf hke hh hdep hun B F X T hd0 hret
  rcases A with ⟨ah, dp, fr, gd, un⟩
  dsimp only at hA hh hdep hun
  subst hh hA
  refine wpAny_call ?_
  k_dflt (refine' enterG (own := []) B F X News.nil T rfl hf hke ?k6 ?k7 ?k8 ?k9 ?kB ?_ ?c2 ?c3 ?c4 ?c5; (case k6 => k_is); (case k7 => k_is); (case k8 => exact (by show dp < recursionLimit; omega)); (case k9 => exact BindsTo.of_eq rfl); (case c5 => decide); (case kB => exact locs rfl); (case c2 => exact rfl); (case c3 => exact rfl); (case c4 => exact rfl); k_whole)
  intro g L' h₁ eg F' N' B' X' T'
  replace eg : g = s.heap := eg
  subst eg
  clear B F X T hf hke
  (try dsimp only)
  k_steps
  (try refine Stop.out ?_)
  rename Fr _ _ _ _ => F₂
  refine wpAny_For ?_
  refine aft ?_
  k_steps
  have hup := F₂.keep
  obtain ⟨lod, xs, dhx, hxs⟩ := hd0
  have dhx₂ := dhx.at fun o e => hup _ o e
  refine getMethod_builtin (dhx₂.toH hup).typeIs PySem.F.plainAttrs_dict PySem.F.slot_dict_values PySem.F.type_dict_values (dictOfH_noDict (dhx₂.toH hup)) ?_
  (try dsimp only)
  k_steps
  obtain ⟨es, ep, raw, hes, hxk, hxn⟩ := id dhx₂
  have hsz : es.size = xs.length := size_of_entries hes
  refine r_values lod raw ?_
  unfold Aft
  dsimp only
  rename_i h₂ _
  refine it_values (v := h₂.objs.size) ⟨_, Heap.get?_push_size _ rfl, rfl, rfl⟩ (raw.at fun o e => up_push _ _ _ o e) fun h₃ up₃ hit₃ hz₃ => ?_
  have up₃' : Up h₂ h₃ := Up.trans (up_push _ _) up₃
  have hpz : (h₂.push { cls := Value.type "dict_values", dict := none, data := .fields #[.ref d], slots := #[] }).objs.size = h₂.objs.size + 1 := Heap.size_push ..
  rw [hpz] at hit₃ hz₃ ⊢
  have hIn : ∀ b o, h₂.get? b = some o → b ≠ h₂.objs.size + 1 := fun b o e => Nat.ne_of_lt (Nat.lt_succ_of_lt (Heap.lt_size e))
  obtain ⟨oL, _, _, hoL, _⟩ := id F₂.ns
  obtain ⟨od, hod⟩ : ∃ o, s.heap.get? d = some o := by obtain ⟨_, _, ⟨o, e, _⟩, _⟩ := dhx; exact ⟨o, e⟩
  have hLn : ∀ b o, s.heap.get? b = some o → b ≠ L' := fun b o e => Nat.ne_of_lt (Nat.lt_of_lt_of_le (Heap.lt_size e) F₂.above)
  refine forValues (fun i m => ∃ t, m (Str.ofString "nc") = some (.int (sumT (kvs.take i)) t)) rfl rfl rfl (Ne.symm (hIn _ _ hoL)) (hLn _ _ hod) (hIn _ _ (hup _ _ hod)) hit₃ (raw.at fun o e => up₃' _ o e) (ns_up F₂.ns up₃') ⟨_, rfl⟩ ?_ ?_
  · rintro i h₄ tk₄ m₄ hi E4 ⟨t, e⟩ hn₄
    obtain ⟨ek, ev⟩ := entry_eq hes hi (hsz ▸ hi)
    obtain ⟨p, x, tx, e1, e2, e3⟩ := cells_at hxs (List.getElem?_eq_getElem (show i < xs.length from hsz ▸ hi))
    rw [ev, e2] at hn₄
    refine wpAny_execs_cons (wpAny_AugAssign_Name (wpAny_loadName_local rfl rfl hn₄ ((if_neg (by decide)).trans e) ?_))
    refine nameLocal rfl rfl hn₄ (if_pos rfl) (j_iadd fun t5 tk5 => ?_)
    refine wpAny_storeName_local rfl hn₄ (fun h₆ hn₆ hs₆ => wpAny_execs_nil ?_) rfl
    refine ⟨rfl, h₆, _, _, rfl, fun b o hb e => hs₆.extBut b o hb e, hn₆, t5, ?_⟩
    rw [sumT_snoc e3]
    simp
  · rintro h₄ tk₄ m₄ hn₄ ⟨t, e⟩ k₄
    rw [hsz, cells_len hxs, List.take_length] at e
    dsimp only
    refine wpAny_execs_cons (wpAny_Return_some (nameLocal rfl rfl hn₄ e ?_))
    dsimp only
    exact hret t _ ⟨h₄, tk₄, rfl, fun b o e => k₄ b o (hLn b o e) (hIn b o (hup _ _ e)) (up₃' _ _ (hup _ _ e))⟩
end Mine

namespace Mine
set_option maxHeartbeats 20000000
local macro_rules | `(tactic| walk_at "call ref") => `(tactic| refine Stop.mk ?_)
def DnTells (w : World) (loose : List Str) (mean : ExcName → Option Value) (mg mb : Str → Option Value) : Prop :=
  ∀ (A A₀ : Around) (env : Env) (outer : List Env) (base h₀ : Heap) (L : Addr) (m : Str → Option Value) (s : Shared) (Q E : Value → Shared → Prop) (ta tb tc : Tok),
    A.frames = some (env :: outer) → env.frame = some L → env.scope.kind = .function → A.handled = none → A.depth + 16 < recursionLimit → A.units + 128 < cLine →
    Below A₀ base outer h₀ → Fr h₀ L s.heap m → (hd.heap_39 w.params).In h₀ → Top topProg loose mean mg mb h₀ →
    (∀ T s' t u, Keeps s s' → s.heap.objs.size ≤ T → s'.heap.get? T = some { cls := .type "tuple", data := .seq #[.int 1 t, .int 0 u] } → Q (.ref T) s') →
    wpAny (model PySem.Challenge.rw_ib0003_01.row.prog w) A (call (.ref 35) [.int 1 ta, .int 1 tb, .int 1 tc]) Q E s

theorem dn_tells (w : World) (loose : List Str) (mean : ExcName → Option Value) (mg mb : Str → Option Value) : DnTells w loose mean mg mb := by
  unfold DnTells
  k_fill
  w_top off
  intro A A₀ env outer base h₀ L m s Q E ta tb tc hA hf hke hh hdep hun B F X T hret
  rcases A with ⟨ah, dp, fr, gd, un⟩
  dsimp only at hA hh hdep hun
  subst hh hA
  refine wpAny_call ?_
  k_dflt (refine' enterG (own := []) B F X News.nil T rfl hf hke ?k6 ?k7 ?k8 ?k9 ?kB ?_ ?c2 ?c3 ?c4 ?c5; (case k6 => k_is); (case k7 => k_is); (case k8 => exact (by show dp < recursionLimit; omega)); (case k9 => exact BindsTo.of_eq rfl); (case c5 => decide); (case kB => exact locs rfl); (case c2 => exact rfl); (case c3 => exact rfl); (case c4 => exact rfl); k_whole)
  intro g L' h₁ eg F' N' B' X' T'
  replace eg : g = s.heap := eg
  subst eg
  clear B F X T hf hke
  (try dsimp only)
  k_steps
  rename Fr _ _ _ _ => Fx
  rename News _ _ _ _ => Nx
  have n1 := Nx _ (.head _)
  dsimp only at n1
  exact hret _ _ _ _ ⟨_, _, rfl, Fx.keep⟩ (Nat.le_of_lt (Nat.lt_of_le_of_lt F'.above F'.ns.lt)) n1.1
end Mine

namespace Mine
set_option maxHeartbeats 20000000
local macro_rules | `(tactic| walk_at "nowhere") => `(tactic| skip)
local macro_rules | `(tactic| walk_at "nowhere") => `(tactic| skip)
def KeepT (ts : List Addr) (s s' : Shared) : Prop := ∃ h' tk, s' = ⟨h', s.gens, s.drawn, tk, s.os⟩ ∧ (∀ b o, b ∉ ts → s.heap.get? b = some o → h'.get? b = some o) ∧ ∀ b ∈ ts, GrownAt b h'
def IdTells (w : World) (loose : List Str) (mean : ExcName → Option Value) (mg mb : Str → Option Value) : Prop :=
  ∀ (A A₀ : Around) (env : Env) (outer : List Env) (base h₀ : Heap) (L : Addr) (m : Str → Option Value) (s : Shared) (Q E : Value → Shared → Prop) (ta tb : Tok),
    A.frames = some (env :: outer) → env.frame = some L → env.scope.kind = .function → A.handled = none → A.depth + 16 < recursionLimit → A.units + 128 < cLine →
    Below A₀ base outer h₀ → Fr h₀ L s.heap m → (hd.heap_39 w.params).In h₀ → Top topProg loose mean mg mb h₀ → CodeHd base 48 44 → News h₀ L s.heap [(44, tabObj #[])] →
    (∀ D s' t, KeepT [44] s s' → s.heap.get? D = none → s'.heap.PlainList D #[.int 1 t] → Q (.ref D) s') →
    wpAny (model PySem.Challenge.rw_ib0003_01.row.prog w) A (call (.ref 49) [.int 1 ta, .int 1 tb]) Q E s

local macro_rules | `(tactic| k_room) => `(tactic| ((try simp only [depth_under_make, depth_under_kw, depth_in1, depth_deeper, depth_caller]); omega))
theorem id_tells (w : World) (loose : List Str) (mean : ExcName → Option Value) (mg mb : Str → Option Value) : IdTells w loose mean mg mb := by
  unfold IdTells
  k_fill
  w_top off
  intro A A₀ env outer base h₀ L m s Q E ta tb hA hf hke hh hdep hun B F X T C44 N hret
  rcases A with ⟨ah, dp, fr, gd, un⟩
  dsimp only at hA hh hdep hun
  subst hh hA
  refine wpAny_call ?_
  k_dflt (refine' enterCG (own := [(44, tabObj #[])]) B F X N T rfl hf hke ?k6 ?k7 ?k8 ?k9 ?kB ?kD ?_ ?c2 ?c3 ?c4; (case k6 => k_is); (case k7 => k_is); (case k8 => exact (by show dp < recursionLimit; omega)); (case k9 => exact BindsTo.of_eq rfl); (case kB => exact rfl); (case kD => decide +kernel); (case c2 => exact rfl); (case c3 => exact rfl); (case c4 => exact rfl); k_whole)
  intro g L' h₁ tk cells eg F' N' Y' B' X' T' l1
  k_cells Y'
  (try simp only [List.cons_append, List.nil_append] at N')
  clear B F X T N hf hke
  (try dsimp only)
  have l44 := ltN (a := 44) (b := L') (l1 (44, tabObj #[]) (.head _))
  clear l1
  k_steps
  rw [show (((Builtin.Int.intBits 1 : Nat) : Int) + 1 - 1).fdiv 1 = 1 from by decide]
  k_steps
  rename Fr _ _ _ _ => kF
  rename News _ _ _ _ => kN
  have nD := kN _ (.tail _ (.tail _ (.head _)))
  have nT := GrownAt.of kN (P := 44) (ps := _) (by exact .tail _ (.tail _ (.tail _ (.tail _ (.tail _ (.tail _ (.tail _ (.head _))))))))
  refine hret _ _ ta ⟨_, _, rfl, fun b o hb e => kF.keep b o ?_, fun b hb => ?_⟩ ?_ ⟨_, nD.1⟩
  · rw [eg]; exact hideAll_get _ e (by simpa using hb)
  · rw [List.mem_singleton.mp hb]; exact nT
  · have q := nD.2.2
    cases e : s.heap.get? _ with
    | none => rfl
    | some o =>
      rw [eg] at q
      rw [hideAll_get _ e ?_] at q
      · cases q
      · intro hm
        have hm' := List.mem_singleton.mp hm
        obtain ⟨ps, e44⟩ := nT
        simp only at hm'
        have z := nD.1
        simp only at z e44
        rw [hm', e44] at z
        cases z
end Mine

namespace Mine
set_option maxHeartbeats 20000000
local macro_rules | `(tactic| walk_at "nowhere") => `(tactic| skip)
def DiTells (w : World) (loose : List Str) (mean : ExcName → Option Value) (mg mb : Str → Option Value) : Prop :=
  ∀ (A A₀ : Around) (env : Env) (outer : List Env) (base h₀ : Heap) (L : Addr) (m : Str → Option Value) (s : Shared) (Q E : Value → Shared → Prop) (d : Addr) (ta tb : Tok),
    A.frames = some (env :: outer) → env.frame = some L → env.scope.kind = .function → A.handled = none → A.depth + 16 < recursionLimit → A.units + 128 < cLine →
    Below A₀ base outer h₀ → Fr h₀ L s.heap m → (hd.heap_39 w.params).In h₀ → Top topProg loose mean mg mb h₀ → CodeHd base 55 51 → News h₀ L s.heap [(51, tabObj #[])] →
    s.heap.PlainList d #[.int 1 ta] →
    (∀ s' t, KeepT [51] s s' → Q (.int 1 t) s') →
    wpAny (model PySem.Challenge.rw_ib0003_01.row.prog w) A (call (.ref 56) [.ref d, .int 1 tb]) Q E s

local macro_rules | `(tactic| k_room) => `(tactic| ((try simp only [depth_under_make, depth_under_kw, depth_in1, depth_deeper, depth_caller]); omega))
theorem di_tells (w : World) (loose : List Str) (mean : ExcName → Option Value) (mg mb : Str → Option Value) : DiTells w loose mean mg mb := by
  unfold DiTells
  k_fill
  w_top off
  intro A A₀ env outer base h₀ L m s Q E d ta tb hA hf hke hh hdep hun B F X T C51 N hd0 hret
  rcases A with ⟨ah, dp, fr, gd, un⟩
  dsimp only at hA hh hdep hun
  subst hh hA
  refine wpAny_call ?_
  k_dflt (refine' enterCG (own := [(51, tabObj #[])]) B F X N T rfl hf hke ?k6 ?k7 ?k8 ?k9 ?kB ?kD ?_ ?c2 ?c3 ?c4; (case k6 => k_is); (case k7 => k_is); (case k8 => exact (by show dp < recursionLimit; omega)); (case k9 => exact BindsTo.of_eq rfl); (case kB => exact rfl); (case kD => decide +kernel); (case c2 => exact rfl); (case c3 => exact rfl); (case c4 => exact rfl); k_whole)
  intro g L' h₁ tk cells eg F' N' Y' B' X' T' l1
  have hd1 : g.IsList d #[.int 1 ta] := by
    obtain ⟨k, e⟩ := hd0
    subst eg
    refine ⟨_, hideAll_get _ e ?_, rfl, _, rfl⟩
    intro q
    have q' := List.mem_singleton.mp q
    have n := (N _ (.head _)).1
    simp only at q' n
    rw [q', n] at e
    cases e
  have hi1 : IntsAre [.int 1 ta] [1] := .cons _ _ .nil
  replace hd1 : g.IsList d [Value.int 1 ta].toArray := hd1
  k_cells Y'
  (try simp only [List.cons_append, List.nil_append] at N')
  clear B F X T N hf hke
  (try dsimp only)
  have l51 := ltN (a := 51) (b := L') (l1 (51, tabObj #[]) (.head _))
  clear l1
  k_steps
  rename_i FG Fi Ni Bi Xi Ti _
  refine j_item (stays_list Fi.keep (stays_list FG.keep hd1)) (by decide) (by decide) (v := .int 1 ta) (by rfl) ?_
  (try dsimp only)
  k_steps
  rename Fr _ _ _ _ => kF
  rename News _ _ _ _ => kN
  have nT := GrownAt.of kN (P := 51) (ps := _) (by exact .tail _ (.tail _ (.tail _ (.tail _ (.tail _ (.head _))))))
  refine hret _ ta ⟨_, _, rfl, fun b o hb e => kF.keep b o ?_, fun b hb => ?_⟩
  · rw [eg]; exact hideAll_get _ e (by simpa using hb)
  · rw [List.mem_singleton.mp hb]; exact nT
end Mine

namespace Mine
set_option maxHeartbeats 20000000
local macro_rules | `(tactic| walk_at "nowhere") => `(tactic| skip)
local macro_rules | `(tactic| walk_at "call ref") => `(tactic| refine Stop.mk ?_)
theorem frT {g h h' : Heap} {L : Addr} {m : Str → Option Value} {ts : List Addr} (F : Fr g L h m) (hL : L ∉ ts) (hg : ∀ b ∈ ts, g.get? b = none) (k : ∀ b o, b ∉ ts → h.get? b = some o → h'.get? b = some o) : Fr g L h' m :=
  ⟨F.ns.at' (fun o e => k _ o hL e), fun b o e => k b o (fun hb => by rw [hg b hb] at e; cases e) (F.keep b o e), F.above⟩
theorem off_ts {s g h : Heap} {T : Addr} {o : Obj} {p q : Array Value} (hgk : ∀ b o, b ∉ [51, 44] → s.get? b = some o → g.get? b = some o) (h51 : h.get? 51 = some (tabObj p)) (h44 : h.get? 44 = some (tabObj q))
    (eT : h.get? T = some o) (hc : o.cls ≠ .none) (hg : g.get? T = none) : s.get? T = none := by
  cases e : s.get? T with
  | none => rfl
  | some o' =>
    by_cases hm : T ∈ [51, 44]
    · rcases List.mem_cons.mp hm with e | e
      · rw [e, h51] at eT; cases eT; exact absurd rfl hc
      · rw [List.mem_singleton.mp e, h44] at eT; cases eT; exact absurd rfl hc
    · rw [hgk _ _ hm e] at hg; cases hg
def PosTells (w : World) (loose : List Str) (mean : ExcName → Option Value) (mg mb : Str → Option Value) : Prop :=
  ∀ (A A₀ : Around) (env : Env) (outer : List Env) (base h₀ : Heap) (L : Addr) (m : Str → Option Value) (s : Shared) (Q E : Value → Shared → Prop) (ta tb : Tok),
    A.frames = some (env :: outer) → env.frame = some L → env.scope.kind = .function → A.handled = none → A.depth + 20 < recursionLimit → A.units + 148 < cLine →
    Below A₀ base outer h₀ → Fr h₀ L s.heap m → (hd.heap_39 w.params).In h₀ → Top topProg loose mean mg mb h₀ → CodeHd base 48 44 → CodeHd base 55 51 → News h₀ L s.heap [(51, tabObj #[]), (44, tabObj #[])] →
    (∀ T s' t u, KeepT [51, 44] s s' → s.heap.get? T = none → s'.heap.get? T = some { cls := .type "tuple", data := .seq #[.int 1 t, .int 0 u] } → Q (.ref T) s') →
    wpAny (model PySem.Challenge.rw_ib0003_01.row.prog w) A (call (.ref 63) [.int 1 ta, .int 1 tb]) Q E s

theorem pos_tells (w : World) (loose : List Str) (mean : ExcName → Option Value) (mg mb : Str → Option Value) : PosTells w loose mean mg mb := by
  unfold PosTells
  k_fill
  w_top off
  intro A A₀ env outer base h₀ L m s Q E ta tb hA hf hke hh hdep hun B F X T C44 C51 N hret
  rcases A with ⟨ah, dp, fr, gd, un⟩
  dsimp only at hA hh hdep hun
  subst hh hA
  refine wpAny_call ?_
  k_dflt (refine' enterG (own := [(51, tabObj #[]), (44, tabObj #[])]) B F X N T rfl hf hke ?k6 ?k7 ?k8 ?k9 ?kB ?_ ?c2 ?c3 ?c4 ?c5; (case k6 => k_is); (case k7 => k_is); (case k8 => exact (by show dp < recursionLimit; omega)); (case k9 => exact BindsTo.of_eq rfl); (case c5 => decide); (case kB => exact locs rfl); (case c2 => exact rfl); (case c3 => exact rfl); (case c4 => exact rfl); k_whole)
  intro g L' h₁ eg F' N' B' X' T'
  have hg44 : g.get? 44 = none := by rw [eg]; exact hideAll_none _ (by simp)
  have hg51 : g.get? 51 = none := by rw [eg]; exact hideAll_none _ (by simp)
  have hgk : ∀ b o, b ∉ [51, 44] → s.heap.get? b = some o → g.get? b = some o := fun b o hb e => by rw [eg]; exact hideAll_get _ e (by simpa using hb)
  have hgo : ∀ b, s.heap.get? b = none → g.get? b = none := fun b e => by
    cases q : g.get? b with
    | none => rfl
    | some o => rw [eg] at q; rw [of_hideAll _ q] at e; cases e
  clear B F X T N hf hke
  (try dsimp only)
  k_steps
  refine Stop.out ?_
  rw [show ((Builtin.Int.intBits 1 : Nat) : Int) = 1 from by decide]
  rename Fr _ _ _ _ => Fa
  rename News _ _ _ _ => Na
  have hL51 : L' ≠ 51 := Ne.symm (Na _ (.head _)).2.1
  have hL44 : L' ≠ 44 := Ne.symm (Na _ (.tail _ (.head _))).2.1
  refine id_tells w loose mean mg mb _ _ _ (env :: outer) base g L' _ _ _ _ _ _ (Around.frames_deeper B'.stack) rfl rfl rfl (by show dp + 1 + 16 < recursionLimit; omega) (by show un + 3 + 128 < cLine; omega) B' Fa X' T' C44 (fun q hq => Na q (.tail _ hq)) ?_
  rintro D _ t ⟨h2, k2, rfl, kp2, gr2⟩ hDn ⟨kD, hDo⟩
  have Fb : Fr g L' h2 _ := frT (ts := [44]) Fa (by simpa using hL44) (by simpa using hg44) kp2
  have n51 : h2.get? 51 = some (tabObj #[]) := kp2 _ _ (by decide) (Na _ (.head _)).1
  obtain ⟨ps44, e44⟩ := gr2 44 (by simp)
  have Nb : News g L' h2 [(D, listOf #[.int 1 t] kD), (51, tabObj #[]), (44, tabObj ps44)] := fun q hq => by
    rcases List.mem_cons.mp hq with rfl | hq
    rotate_left
    · rcases List.mem_cons.mp hq with rfl | hq
      · exact ⟨n51, Ne.symm hL51, hg51⟩
      · rw [List.mem_singleton.mp hq]; exact ⟨e44, Ne.symm hL44, hg44⟩
    refine ⟨hDo, ?_, ?_⟩
    · intro e
      have e' : D = L' := e
      obtain ⟨oL, _, _, hoL, _⟩ := Fa.ns
      rw [← e'] at hoL
      rw [hDn] at hoL; cases hoL
    · cases e : g.get? D with
      | none => rfl
      | some o => rw [Fa.keep _ _ e] at hDn; cases hDn
  have hi1 : IntsAre [.int 1 t] [1] := .cons _ _ .nil
  have hDo' := hDo
  clear Fa
  (try dsimp only)
  k_steps
  refine Stop.out ?_
  show wpAny _ _ (call (.ref 35) [.int 1 _, .int 1 _, .int 1 _]) _ _ _
  rename Fr _ _ _ _ => Fc
  rename News _ _ _ _ => Nc
  refine dn_tells w loose mean mg mb _ _ _ (env :: outer) base g L' _ _ _ _ _ _ _ (Around.frames_deeper B'.stack) rfl rfl rfl (by show dp + 1 + 16 < recursionLimit; omega) (by show un + 3 + 128 < cLine; omega) B' Fc X' T' ?_
  rintro T3 _ t3 u3 ⟨h3, k3, rfl, kp3⟩ hTn hT3
  dsimp only at kp3 hTn hT3
  have lt3 := fun q hq => Nat.lt_of_lt_of_le (Heap.lt_size (Nc q hq).1) hTn
  have hTs := hTn
  replace hTn := Heap.get?_none_of_le hTn
  have Fd := Fc.keeps kp3
  have Nd : News g L' h3 ((T3, { cls := .type "tuple", data := .seq #[.int 1 t3, .int 0 u3] }) :: _) := fun q hq => by
    rcases List.mem_cons.mp hq with rfl | hq
    · refine ⟨hT3, ?_, ?_⟩
      · intro e
        have hoL' := Fc.ns.lt
        exact absurd (show T3 < _ from (show T3 = L' from e) ▸ hoL') (Nat.not_lt.mpr hTs)
      · cases e : g.get? T3 with
        | none => rfl
        | some o => rw [Fc.keep _ _ e] at hTn; cases hTn
    · exact (Nc.keeps kp3) q hq
  clear Fc Nc hTs
  k_lt lt3
  (try dsimp only)
  k_steps
  refine Stop.out ?_
  show wpAny _ _ (call (.ref 56) [.ref _, .int 1 _]) _ _ _
  rename Fr _ _ _ _ => Fe
  rename News _ _ _ _ => Ne'
  refine di_tells w loose mean mg mb _ _ _ (env :: outer) base g L' _ _ _ _ _ _ _ (Around.frames_deeper B'.stack) rfl rfl rfl (by show dp + 1 + 16 < recursionLimit; omega) (by show un + 3 + 128 < cLine; omega) B' Fe X' T' C51 (fun q hq => Ne' q (by rw [List.mem_singleton.mp hq]; exact .tail _ (.tail _ (.tail _ (.head _))))) ⟨_, (Ne' _ (.tail _ (.head _))).1⟩ ?_
  rintro _ t5 ⟨h5, k5, rfl, kp5, gr5⟩
  obtain ⟨ps51, e51⟩ := gr5 51 (by simp)
  have f44 : h5.get? 44 = some (tabObj ps44) := kp5 _ _ (by decide) (Ne' _ (.tail _ (.tail _ (.tail _ (.tail _ (.head _)))))).1
  have Ff : Fr g L' h5 _ := frT (ts := [51]) Fe (by simpa using hL51) (by simpa using hg51) kp5
  have Nf : News g L' h5 [(51, tabObj ps51), (44, tabObj ps44)] := fun q hq => by
    rcases List.mem_cons.mp hq with rfl | hq
    · exact ⟨e51, Ne.symm hL51, hg51⟩
    · rw [List.mem_singleton.mp hq]; exact ⟨f44, Ne.symm hL44, hg44⟩
  have hgz : s.heap.objs.size ≤ L' := Nat.le_trans (Nat.le_of_eq (by rw [eg]; exact (hideAll_size _ _).symm)) Ff.above
  have hz5 : L' < h5.objs.size := Ff.ns.lt
  clear Fe Ne'
  (try dsimp only)
  k_steps
  rename Fr _ _ _ _ => Fz
  rename News _ _ _ _ => Nz
  have nT := Nz _ (.head _)
  refine hret _ _ t5 u3 ⟨_, _, rfl, fun b o hb e => Fz.keep b o (hgk b o hb e), fun b hb => ?_⟩ ?_ nT.1
  rotate_left
  · exact off_ts hgk (Nz _ (.tail _ (.head _))).1 (Nz _ (.tail _ (.tail _ (.head _)))).1 nT.1 (by intro q; cases q) nT.2.2
  rcases List.mem_cons.mp hb with rfl | hb
  · exact ⟨_, (Nz _ (.tail _ (.head _))).1⟩
  · rw [List.mem_singleton.mp hb]; exact ⟨_, (Nz _ (.tail _ (.tail _ (.head _)))).1⟩
end Mine

namespace Mine
set_option maxHeartbeats 20000000
local macro_rules | `(tactic| walk_at "call ref") => `(tactic| refine Stop.mk ?_)
def DmTells (w : World) (loose : List Str) (mean : ExcName → Option Value) (mg mb : Str → Option Value) : Prop :=
  ∀ (A A₀ : Around) (env : Env) (outer : List Env) (base h₀ : Heap) (L : Addr) (m : Str → Option Value) (s : Shared) (Q E : Value → Shared → Prop) (ta tb : Tok),
    A.frames = some (env :: outer) → env.frame = some L → env.scope.kind = .function → A.handled = none → A.depth + 24 < recursionLimit → A.units + 168 < cLine →
    Below A₀ base outer h₀ → Fr h₀ L s.heap m → (hd.heap_39 w.params).In h₀ → Top topProg loose mean mg mb h₀ → CodeHd base 48 44 → CodeHd base 55 51 → News h₀ L s.heap [(51, tabObj #[]), (44, tabObj #[])] →
    (∀ T s' t u, KeepT [51, 44] s s' → s.heap.get? T = none → s'.heap.get? T = some { cls := .type "tuple", data := .seq #[.int 1 t, .int 0 u] } → Q (.ref T) s') →
    wpAny (model PySem.Challenge.rw_ib0003_01.row.prog w) A (call (.ref 70) [.int 1 ta, .int 1 tb]) Q E s

theorem dm_tells (w : World) (loose : List Str) (mean : ExcName → Option Value) (mg mb : Str → Option Value) : DmTells w loose mean mg mb := by
  unfold DmTells
  k_fill
  w_top off
  intro A A₀ env outer base h₀ L m s Q E ta tb hA hf hke hh hdep hun B F X T C44 C51 N hret
  rcases A with ⟨ah, dp, fr, gd, un⟩
  dsimp only at hA hh hdep hun
  subst hh hA
  refine wpAny_call ?_
  k_dflt (refine' enterG (own := [(51, tabObj #[]), (44, tabObj #[])]) B F X N T rfl hf hke ?k6 ?k7 ?k8 ?k9 ?kB ?_ ?c2 ?c3 ?c4 ?c5; (case k6 => k_is); (case k7 => k_is); (case k8 => exact (by show dp < recursionLimit; omega)); (case k9 => exact BindsTo.of_eq rfl); (case c5 => decide); (case kB => exact locs rfl); (case c2 => exact rfl); (case c3 => exact rfl); (case c4 => exact rfl); k_whole)
  intro g L' h₁ eg F' N' B' X' T'
  have hg44 : g.get? 44 = none := by rw [eg]; exact hideAll_none _ (by simp)
  have hg51 : g.get? 51 = none := by rw [eg]; exact hideAll_none _ (by simp)
  have hgk : ∀ b o, b ∉ [51, 44] → s.heap.get? b = some o → g.get? b = some o := fun b o hb e => by rw [eg]; exact hideAll_get _ e (by simpa using hb)
  have hgo : ∀ b, s.heap.get? b = none → g.get? b = none := fun b e => by
    cases q : g.get? b with
    | none => rfl
    | some o => rw [eg] at q; rw [of_hideAll _ q] at e; cases e
  clear B F X T N hf hke
  (try dsimp only)
  k_steps
  refine Stop.out ?_
  rename Fr _ _ _ _ => Fa
  rename News _ _ _ _ => Na
  refine pos_tells w loose mean mg mb _ _ _ (env :: outer) base g L' _ _ _ _ _ _ (Around.frames_deeper B'.stack) rfl rfl rfl (by show dp + 1 + 20 < recursionLimit; omega) (by show un + 3 + 148 < cLine; omega) B' Fa X' T' C44 C51 Na ?_
  rintro T _ t u ⟨h2, k2, rfl, kp, gr⟩ hT eT
  have hgz : s.heap.objs.size ≤ L' := Nat.le_trans (Nat.le_of_eq (by rw [eg]; exact (hideAll_size _ _).symm)) Fa.above
  refine hret T _ t u ⟨h2, k2, rfl, fun b o hb e => kp b o hb (Fa.keep b o (hgk b o hb e)), gr⟩ ?_ eT
  cases q : s.heap.get? T with
  | none => rfl
  | some o =>
    by_cases hm : T ∈ [51, 44]
    · rcases List.mem_cons.mp hm with e | e
      · have z := (Na _ (.head _)).1
        dsimp only at z hT
        rw [e, z] at hT; cases hT
      · have z := (Na _ (.tail _ (.head _))).1
        dsimp only at z hT
        rw [List.mem_singleton.mp e, z] at hT; cases hT
    · rw [Fa.keep _ _ (hgk _ _ hm q)] at hT; cases hT
end Mine

namespace Mine
set_option maxHeartbeats 20000000
local macro_rules | `(tactic| walk_at "call ref") => `(tactic| refine Stop.mk ?_)
local macro_rules | `(tactic| walk_at "eval ListComp") => `(tactic| refine Stop.mk ?_)
theorem off2 {x : Addr} (h : 51 < x) (h' : 44 < x) : x ∉ [51, 44] := by
  intro hm
  rcases List.mem_cons.mp hm with q | q
  · rw [q] at h; exact Nat.lt_irrefl _ h
  · rw [List.mem_singleton.mp q] at h'; exact Nat.lt_irrefl _ h'
def LeftTells (w : World) (loose : List Str) (mean : ExcName → Option Value) (mg mb : Str → Option Value) : Prop :=
  ∀ (A A₀ : Around) (env : Env) (outer : List Env) (base h₀ : Heap) (L : Addr) (m : Str → Option Value) (s : Shared) (Q E : Value → Shared → Prop) (r q : Addr) (vs us : List Value) (a0 a1 b0 b1 : Int),
    A.frames = some (env :: outer) → env.frame = some L → env.scope.kind = .function → A.handled = none → A.depth + 30 < recursionLimit → A.units + 200 < cLine →
    Below A₀ base outer h₀ → Fr h₀ L s.heap m → (hd.heap_39 w.params).In h₀ → Top topProg loose mean mg mb h₀ → CodeHd base 48 44 → CodeHd base 55 51 → News h₀ L s.heap [(51, tabObj #[]), (44, tabObj #[])] →
    s.heap.IsList r vs.toArray → IntsAre vs [a0, a1, 1] → s.heap.IsList q us.toArray → IntsAre us [b0, b1, 1] → (Small a0 ∧ Small a1) → (Small b0 ∧ Small b1) →
    (∀ D s' ws, KeepT [51, 44] s s' → s.heap.get? D = none → s'.heap.PlainList D (List.toArray ws) → IntsAre ws [a0 - b0, a1 - b1] → Q (.ref D) s') →
    wpAny (model PySem.Challenge.rw_ib0003_01.row.prog w) A (call (.ref 104) [.ref r, .ref q]) Q E s

theorem left_tells (w : World) (loose : List Str) (mean : ExcName → Option Value) (mg mb : Str → Option Value) : LeftTells w loose mean mg mb := by
  unfold LeftTells
  k_fill
  w_top off
  intro A A₀ env outer base h₀ L m s Q E r q vs us a0 a1 b0 b1 hA hf hke hh hdep hun B F X T C44 C51 N hR hI hR' hI' ha hb hret
  rcases A with ⟨ah, dp, fr, gd, un⟩
  dsimp only at hA hh hdep hun
  subst hh hA
  refine wpAny_call ?_
  k_dflt (refine' enterCG (own := [(51, tabObj #[]), (44, tabObj #[])]) B F X N T rfl hf hke ?k6 ?k7 ?k8 ?k9 ?kB ?kD ?_ ?c2 ?c3 ?c4; (case k6 => k_is); (case k7 => k_is); (case k8 => exact (by show dp < recursionLimit; omega)); (case k9 => exact BindsTo.of_eq rfl); (case kB => exact rfl); (case kD => decide +kernel); (case c2 => exact rfl); (case c3 => exact rfl); (case c4 => exact rfl); k_whole)
  intro g L' h₁ tk cells eg F' N' Y' B' X' T' l1
  have hg44 : g.get? 44 = none := by rw [eg]; exact hideAll_none _ (by simp)
  have hg51 : g.get? 51 = none := by rw [eg]; exact hideAll_none _ (by simp)
  have hgk : ∀ b o, b ∉ [51, 44] → s.heap.get? b = some o → g.get? b = some o := fun b o hb e => by rw [eg]; exact hideAll_get _ e (by simpa using hb)
  have hgo : ∀ b, s.heap.get? b = none → g.get? b = none := fun b e => by
    cases q : g.get? b with
    | none => rfl
    | some o => rw [eg] at q; rw [of_hideAll _ q] at e; cases e
  have lst : ∀ {d : Addr} {its : Array Value}, s.heap.IsList d its → g.IsList d its := fun {d its} x => by
    obtain ⟨o, e, c, n, dd⟩ := x
    refine ⟨o, hgk _ _ ?_ e, c, n, dd⟩
    intro hm
    have z1 := (N _ (.head _)).1
    have z2 := (N _ (.tail _ (.head _))).1
    dsimp only at z1 z2
    rcases List.mem_cons.mp hm with q | q
    · rw [q, z1] at e; cases e; cases c
    · rw [List.mem_singleton.mp q, z2] at e; cases e; cases c
  k_cells Y'
  (try simp only [List.cons_append, List.nil_append] at N')
  rename_i oc3 oc2 oc1 dc3 dc2 dc1
  replace dc1 : oc1.data = .cell (some (.ref r)) := dc1
  replace dc2 : oc2.data = .cell (some (.ref q)) := dc2
  clear B F X T N hf hke
  (try dsimp only)
  obtain ⟨t0, t1, t2, rfl⟩ := ints3 hI
  obtain ⟨u0, u1, u2, rfl⟩ := ints3 hI'
  have hg1 := lst hR
  have hg2 := lst hR'
  have l51 := ltN (a := 51) (b := L') (l1 (51, tabObj #[]) (.head _))
  have l44 := ltN (a := 44) (b := L') (l1 (44, tabObj #[]) (.tail _ (.head _)))
  clear l1
  k_steps
  refine Stop.out ?_
  show wpAny _ _ (call (.ref 70) [.int 1 _, .int 1 _]) _ _ _
  rename Fr _ _ _ _ => Fa
  rename News _ _ _ _ => Na
  refine dm_tells w loose mean mg mb _ _ _ (env :: outer) base g L' _ _ _ _ _ _ (Around.frames_deeper B'.stack) rfl rfl rfl (by show dp + 1 + 24 < recursionLimit; omega) (by show un + 3 + 168 < cLine; omega) B' Fa X' T' C44 C51 (fun q hq => Na q (.tail _ (.tail _ (.tail _ hq)))) ?_
  rintro T _ t u ⟨h2, k2, rfl, kp2, gr2⟩ hTn hT
  dsimp only at kp2 hTn hT
  obtain ⟨ps51, e51⟩ := gr2 51 (by simp)
  obtain ⟨ps44, e44⟩ := gr2 44 (by simp)
  have hLt : L' ∉ [51, 44] := off2 l51 l44
  have Fb : Fr g L' h2 _ := frT (ts := [51, 44]) Fa hLt (by intro b hb; rcases List.mem_cons.mp hb with rfl | hb; exact hg51; rw [List.mem_singleton.mp hb]; exact hg44) kp2
  have c1 := Na _ (.head _)
  have c2 := Na _ (.tail _ (.head _))
  have c3 := Na _ (.tail _ (.tail _ (.head _)))
  dsimp only at c1 c2 c3
  have hTne : ∀ {b o}, h₁.get? b = some o → T ≠ b := fun e q => by rw [← q, hTn] at e; cases e
  have ne1 := neN (hTne c1.1)
  have ne2 := neN (hTne c2.1)
  have ne3 := neN (hTne c3.1)
  have Nb : News g L' h2 [(T, { cls := .type "tuple", data := .seq #[.int 1 t, .int 0 u] }), (L' + 1 + 1 + 1, _), (L' + 1 + 1, _), (L' + 1, _), (51, tabObj ps51), (44, tabObj ps44)] := fun q hq => by
    rcases List.mem_cons.mp hq with rfl | hq
    · refine ⟨hT, fun e => ?_, ?_⟩
      · obtain ⟨oL, _, _, hoL, _⟩ := Fa.ns
        exact hTne hoL e
      · cases e : g.get? T with
        | none => rfl
        | some o => rw [Fa.keep _ _ e] at hTn; cases hTn
    rcases List.mem_cons.mp hq with rfl | hq
    · exact ⟨kp2 _ _ (off2 (Nat.lt_succ_of_lt (Nat.lt_succ_of_lt (Nat.lt_succ_of_lt l51))) (Nat.lt_succ_of_lt (Nat.lt_succ_of_lt (Nat.lt_succ_of_lt l44)))) c1.1, c1.2⟩
    rcases List.mem_cons.mp hq with rfl | hq
    · exact ⟨kp2 _ _ (off2 (Nat.lt_succ_of_lt (Nat.lt_succ_of_lt l51)) (Nat.lt_succ_of_lt (Nat.lt_succ_of_lt l44))) c2.1, c2.2⟩
    rcases List.mem_cons.mp hq with rfl | hq
    · exact ⟨kp2 _ _ (off2 (Nat.lt_succ_of_lt l51) (Nat.lt_succ_of_lt l44)) c3.1, c3.2⟩
    rcases List.mem_cons.mp hq with rfl | hq
    · exact ⟨e51, (Na _ (.tail _ (.tail _ (.tail _ (.head _))))).2⟩
    rw [List.mem_singleton.mp hq]; exact ⟨e44, (Na _ (.tail _ (.tail _ (.tail _ (.tail _ (.head _)))))).2⟩
  clear Fa Na
  (try dsimp only)
  k_steps
  refine Stop.out ?_
  rename Fr _ _ _ _ => Fc
  rename News _ _ _ _ => Nc
  have d1 := Nc _ (.tail _ (.head _))
  have d2 := Nc _ (.tail _ (.tail _ (.head _)))
  have d3 := Nc _ (.tail _ (.tail _ (.tail _ (.head _))))
  dsimp only at d1 d2 d3
  refine compG (cl := _) (by rfl) (by rfl) (by decide) ?_
  refine aft ?_
  k_steps
  rename_i oOf dOf _ _ _ _ h₃ tk₃ x1 x2 x3 hrng F₃ N₃ up₃
  unfold Aft
  dsimp only
  refine wpAny_pyIter_range hrng (by decide) ?_
  dsimp only
  rw [show Builtin.Range.rangeSize 0 2 1 = ((2 : Nat) : Int) from by decide]
  have hup : Up g h₃ := F₃.keep
  refine ⟨2, [h₃.objs.size], fun _ => [], _, _, fun _ i y _ => ∃ t, y = .int ([a0, a1, 1].getD i 0 - 1 * [b0, b1, 1].getD i 0) t, okLocal _ (LCg.range_walks rfl 0 2) (by rw [sizeLine_eq]; decide) ?_ ?_ (fun _ => rfl) rfl rfl ?_ ?_, ?_⟩
  · show IsRangeIter _ _ _ _ _
    simpa using Heap.get?_push_size _ rfl
  · intro b hb
    show b < (h₃.push _).objs.size
    rw [List.mem_singleton.mp hb, Heap.size_push]; exact Nat.lt_succ_self _
  · exact fun _ _ _ _ _ h _ => h
  · intro C X k v h₄ tk₄ m₄ E4 hC hi hP hn hv hX1 hX2 hst hk
    obtain ⟨tv, rfl⟩ := hP
    rw [Int.zero_add] at hv
    have up₄ : Up h₃ h₄ := fun b o e => hk b o (fun hb => by
      have e2 := Heap.lt_size e
      rcases hX1 b hb with q | q
      · rw [List.mem_singleton.mp q] at e2; exact Nat.lt_irrefl _ e2
      · have q' : h₃.objs.size + 1 ≤ b := by rw [← Heap.size_push]; exact q
        exact Nat.lt_irrefl _ (Nat.lt_of_lt_of_le (Nat.lt_succ_of_lt e2) q')) (Heap.get?_push_of_some _ e)
    have r1 : h₄.IsCell (L' + 1) (some (.ref r)) := ⟨_, up₄ _ _ (up₃ _ _ d3.1), dc1⟩
    have r2 : h₄.IsCell (L' + 1 + 1) (some (.ref q)) := ⟨_, up₄ _ _ (up₃ _ _ d2.1), dc2⟩
    have r3 : h₄.IsCell (L' + 1 + 1 + 1) (some (.int 1 t)) := ⟨_, up₄ _ _ (up₃ _ _ d1.1), dOf⟩
    obtain ⟨te, hte⟩ := ints_get k hI (by simp only [List.length_cons, List.length_nil]; omega)
    obtain ⟨tf, htf⟩ := ints_get k hI' (by simp only [List.length_cons, List.length_nil]; omega)
    dsimp only
    refine wpAny_BinOp (Subscript_ (nameCell rfl rfl rfl r1 (nameLocal rfl rfl hn hv ?_)))
    refine j_item (list_up hg1 (Up.trans hup up₄)) (by omega) (by omega) hte ?_
    refine wpAny_BinOp (nameCell rfl rfl rfl r3 (Subscript_ (nameCell rfl rfl rfl r2 (nameLocal rfl rfl hn hv ?_))))
    refine j_item (list_up hg2 (Up.trans hup up₄)) (by omega) (by omega) htf ?_
    refine j_mul (by decide) (by decide) fun t5 tk5 => j_sub fun t6 tk6 => ?_
    exact ⟨kp (Up.refl _), t6, rfl⟩
  · intro D h₇ tk₇ ys X₇ hD hyn hys hk₇ hDn
    have up₇ : Up h₃ h₇ := fun b o e => hk₇ b o (fun hb => by
      rw [List.mem_singleton.mp hb] at e
      exact Nat.lt_irrefl _ (Heap.lt_size e)) (Heap.get?_push_of_some _ e)
    obtain ⟨ws, rfl⟩ : ∃ vs : List Value, ys = vs.toArray := ⟨ys.toList, (Array.toArray_toList).symm⟩
    have hI₇ : IntsAre ws ((List.range 2).map fun i : Nat => [a0, a1, 1].getD i 0 - 1 * [b0, b1, 1].getD i 0) := ints_of_get 2 ws _ (by simpa using hyn) fun i y e => hys i y (by simpa using e)
    have hI₈ : IntsAre ws [a0 - b0, a1 - b1] := by
      have e : ((List.range 2).map fun i : Nat => [a0, a1, 1].getD i 0 - 1 * [b0, b1, 1].getD i 0) = [a0 - 1 * b0, a1 - 1 * b1] := rfl
      rw [e, Int.one_mul, Int.one_mul] at hI₇
      exact hI₇
    have hDn3 : h₃.get? D = none := up_none (up_push _ _) hDn
    have q51 := up₇ _ _ (N₃ _ (.tail _ (.tail _ (.tail _ (.tail _ (.head _)))))).1
    have q44 := up₇ _ _ (N₃ _ (.tail _ (.tail _ (.tail _ (.tail _ (.tail _ (.head _))))))).1
    have qD : s.heap.get? D = none := by
      cases e : s.heap.get? D with
      | none => rfl
      | some o =>
        by_cases hm : D ∈ [51, 44]
        · have r51 := (N₃ _ (.tail _ (.tail _ (.tail _ (.tail _ (.head _)))))).1
          have r44 := (N₃ _ (.tail _ (.tail _ (.tail _ (.tail _ (.tail _ (.head _))))))).1
          dsimp only at r51 r44
          rcases List.mem_cons.mp hm with e | e
          · rw [e, r51] at hDn3; cases hDn3
          · rw [List.mem_singleton.mp e, r44] at hDn3; cases hDn3
        · rw [hup _ _ (hgk _ _ hm e)] at hDn3; cases hDn3
    clear F₃ N₃
    (try dsimp only)
    k_steps
    refine hret D _ ws ⟨h₇, _, rfl, fun b o hb e => up₇ _ _ (hup _ _ (hgk b o hb e)), fun b hb => ?_⟩ qD hD hI₈
    rcases List.mem_cons.mp hb with rfl | hb
    · exact ⟨_, q51⟩
    · rw [List.mem_singleton.mp hb]; exact ⟨_, q44⟩
end Mine

namespace Mine
set_option maxHeartbeats 8000000
def Root (x : Int) : Prop := -3 ≤ x ∧ x ≤ 3
theorem Root.tiny {x : Int} (h : Root x) : Tiny x := by unfold Root at h; unfold Tiny; omega
theorem root_mod (k : Int) : Root (k.fmod 7 - 3) := by
  unfold Root
  rw [Int.fmod_eq_emod_of_nonneg _ (by decide)]
  omega
theorem roots_five (ns : List Int) : ∃ r0 r1 r2 r3 r4, List.map (fun k' : Int => k'.fmod 7 - 3) (List.take 5 (ns ++ (List.replicate 5 [(0 : Int)]).flatten)) = [r0, r1, r2, r3, r4] ∧ Root r0 ∧ Root r1 ∧ Root r2 ∧ Root r3 ∧ Root r4 := by
  have hl : (List.take 5 (ns ++ (List.replicate 5 [(0 : Int)]).flatten)).length = 5 := by
    rw [List.length_take, List.length_append]
    have : ((List.replicate 5 [(0 : Int)]).flatten).length = 5 := rfl
    rw [this]; omega
  generalize List.take 5 (ns ++ (List.replicate 5 [(0 : Int)]).flatten) = l at hl ⊢
  match l, hl with
  | [a, b, c, d, e], _ => exact ⟨_, _, _, _, _, rfl, root_mod a, root_mod b, root_mod c, root_mod d, root_mod e⟩
/-- what a table is made of, object by object -/
theorem tab_objs {prog : Program} {w : World} {B h : Heap} {D : Addr} {a b : Int} (x : Tab prog w B h D (tabOf a b)) : ∃ (o k1 k2 k3 : Obj) (a1 a2 a3 : Addr), h.get? D = some o ∧ h.get? a1 = some k1 ∧ h.get? a2 = some k2 ∧ h.get? a3 = some k3 ∧
    B.get? a1 = none ∧ B.get? a2 = none ∧ B.get? a3 = none ∧ k1.cls = .type "tuple" ∧ k2.cls = .type "tuple" ∧ k3.cls = .type "tuple" ∧ o.cls = .type "dict" ∧ (∀ h', h'.get? D = some o → h'.get? a1 = some k1 → h'.get? a2 = some k2 → h'.get? a3 = some k3 → Tab prog w B h' D (tabOf a b)) := by
  obtain ⟨lo, xs, dh, c⟩ := x
  unfold tabOf at c
  cases xs with
  | nil => exact c.elim
  | cons x1 xs =>
  cases xs with
  | nil => exact c.2.2.2.elim
  | cons x2 xs =>
  cases xs with
  | nil => exact c.2.2.2.2.2.2.elim
  | cons x3 xs =>
  cases xs with
  | cons _ _ => exact c.2.2.2.2.2.2.2.2.2.elim
  | nil =>
    obtain ⟨es, ep, ⟨o, e, ex, dd⟩, he, hk, hn⟩ := dh
    obtain ⟨k1, i1, n1, e1, c1, r1⟩ := hk x1 (by simp)
    obtain ⟨k2, i2, n2, e2, c2, r2⟩ := hk x2 (by simp)
    obtain ⟨k3, i3, n3, e3, c3, r3⟩ := hk x3 (by simp)
    refine ⟨o, k1, k2, k3, x1.2.1, x2.2.1, x3.2.1, e, e1, e2, e3, c.2.2.1, c.2.2.2.2.2.1, c.2.2.2.2.2.2.2.2.1, c1, c2, c3, ex.1, fun h' q q1 q2 q3 => ⟨lo, [x1, x2, x3], ⟨es, ep, ⟨o, q, ex, dd⟩, he, fun y hy => ?_, hn⟩, c⟩⟩
    simp only [List.mem_cons, List.not_mem_nil, or_false] at hy
    rcases hy with rfl | rfl | rfl
    · exact ⟨k1, i1, n1, q1, c1, r1⟩
    · exact ⟨k2, i2, n2, q2, c2, r2⟩
    · exact ⟨k3, i3, n3, q3, c3, r3⟩
end Mine

namespace Mine
set_option maxHeartbeats 4000000
def res (a b : Int × Int × Int) : Int := (a.2.2 * b.1 - b.2.2 * a.1) * (a.2.2 * b.1 - b.2.2 * a.1) - (a.2.2 * b.2.1 - b.2.2 * a.2.1) * (a.2.1 * b.1 - b.2.1 * a.1)
theorem sylv_eq (a b : Int × Int × Int) : sylv a b = res a b := by
  obtain ⟨a0, a1, a2⟩ := a
  obtain ⟨b0, b1, b2⟩ := b
  simp only [sylv, detN, res, List.range_succ_eq_map, List.range_zero, List.map_cons, List.map_nil, List.sum_cons, List.sum_nil, List.headD_cons, List.drop_succ_cons, List.drop_zero, List.take_succ_cons, List.take_zero, List.cons_append, List.nil_append, List.getD_cons_zero, List.getD_cons_succ, List.getD_nil, List.drop_nil, List.take_nil, List.headD_nil, Nat.succ_eq_add_one, Nat.zero_add, Nat.reduceAdd]
  have h0 : (1 - 2 * ((0 : Nat) : Int).fmod 2 : Int) = 1 := rfl
  have h1 : (1 - 2 * ((1 : Nat) : Int).fmod 2 : Int) = -1 := rfl
  have h2 : (1 - 2 * ((2 : Nat) : Int).fmod 2 : Int) = 1 := rfl
  have h3 : (1 - 2 * ((3 : Nat) : Int).fmod 2 : Int) = -1 := rfl
  rw [h0, h1, h2, h3]
  simp only [Int.mul_zero, Int.zero_mul, Int.add_zero, Int.zero_add, Int.one_mul, Int.mul_one]
  grind
end Mine

namespace Mine
set_option maxHeartbeats 8000000
def rowI (a b : Int) : Int × Int × Int := (a * b, (0 - a) + (0 - b), 1)
def shr (a b c d : Int) : Bool := a == c || a == d || b == c || b == d
def w3 (x y z n : Int) : Int := x + y * n + z * (n * n)
theorem worth3 (x y z n : Int) : worthN [x, y, z] n = w3 x y z n := by
  simp only [worthN, wterm, w3, List.length_cons, List.length_nil, List.range_succ_eq_map, List.range_zero, List.map_cons, List.map_nil, List.sum_cons, List.sum_nil, List.getD_cons_zero, List.getD_cons_succ, Nat.succ_eq_add_one, Nat.zero_add, Nat.reduceAdd]
  grind
def chk (a b c d : Int) : Bool :=
  let p := a * b
  let q := (0 - a) + (0 - b)
  let r := c * d
  let t := (0 - c) + (0 - d)
  let told := res (p, q, 1) (r, t, 1)
  let l0 := p - r
  let l1 := q - t
  (told == (a - c) * (a - d) * (b - c) * (b - d)) && (told == res (r, t, 1) (p, q, 1)) && (told == w3 r t 1 a * w3 r t 1 b) && ((told == 0) == shr a b c d) &&
  (if l1 == 0 then ((l0 == 0) == shr a b c d) else ((w3 (r * (l1 * l1)) (t * l1) 1 (0 - l0) == 0) == shr a b c d))
def chp (a b e : Int) : Bool :=
  let p := a * b
  let q := (0 - a) + (0 - b)
  let z := 1 + (e.natAbs : Int)
  (res (p, q, 1) (z, 0, 1) == w3 z 0 1 a * w3 z 0 1 b) && decide (0 < res (p, q, 1) (z, 0, 1)) && (sumT (tabOf a b) == w3 p q 1 1) && (q == 0 - a - b)
def seven : List Int := [-3, -2, -1, 0, 1, 2, 3]
theorem chk1 : (seven.all fun b => seven.all fun c => seven.all fun d => chk (-3) b c d) = true := by decide +kernel
theorem chk2 : (seven.all fun b => seven.all fun c => seven.all fun d => chk (-2) b c d) = true := by decide +kernel
theorem chk3 : (seven.all fun b => seven.all fun c => seven.all fun d => chk (-1) b c d) = true := by decide +kernel
theorem chk4 : (seven.all fun b => seven.all fun c => seven.all fun d => chk 0 b c d) = true := by decide +kernel
theorem chk5 : (seven.all fun b => seven.all fun c => seven.all fun d => chk 1 b c d) = true := by decide +kernel
theorem chk6 : (seven.all fun b => seven.all fun c => seven.all fun d => chk 2 b c d) = true := by decide +kernel
theorem chk7 : (seven.all fun b => seven.all fun c => seven.all fun d => chk 3 b c d) = true := by decide +kernel
theorem chp_all : (seven.all fun a => seven.all fun b => seven.all fun e => chp a b e) = true := by decide +kernel
theorem Root.mem {x : Int} (h : Root x) : x ∈ seven := by
  unfold Root at h
  simp only [seven, List.mem_cons, List.not_mem_nil, or_false]
  omega
theorem chk_of {a b c d : Int} (ha : Root a) (hb : Root b) (hc : Root c) (hd : Root d) : chk a b c d = true := by
  have h : (seven.all fun b => seven.all fun c => seven.all fun d => chk a b c d) = true := by
    have hm := ha.mem
    simp only [seven, List.mem_cons, List.not_mem_nil, or_false] at hm
    rcases hm with rfl | rfl | rfl | rfl | rfl | rfl | rfl
    · exact chk1
    · exact chk2
    · exact chk3
    · exact chk4
    · exact chk5
    · exact chk6
    · exact chk7
  exact List.all_eq_true.mp (List.all_eq_true.mp (List.all_eq_true.mp h b hb.mem) c hc.mem) d hd.mem
theorem chp_of {a b e : Int} (ha : Root a) (hb : Root b) (he : Root e) : chp a b e = true :=
  List.all_eq_true.mp (List.all_eq_true.mp (List.all_eq_true.mp chp_all a ha.mem) b hb.mem) e he.mem
theorem moved_eq (a b c d : Int) : res ((a + 1) * (b + 1), (0 - (a + 1)) + (0 - (b + 1)), 1) ((c + 1) * (d + 1), (0 - (c + 1)) + (0 - (d + 1)), 1) = res (a * b, (0 - a) + (0 - b), 1) (c * d, (0 - c) + (0 - d), 1) := by
  simp only [res]
  grind
theorem twice_eq (p q r t : Int) : res (p, q, 1) (2 * r, 2 * t, 2 * 1) = 4 * res (p, q, 1) (r, t, 1) := by
  simp only [res]
  grind
end Mine

namespace Mine
set_option maxHeartbeats 40000000
inductive StopNow : Prop where
  | mk
theorem news_put {h₀ hs h : Heap} {L a : Addr} {o : Obj} {m : Str → Option Value} {news : List (Addr × Obj)} (F : Fr h₀ L hs m) (e : h.get? a = some o) (n : hs.get? a = none) (N : News h₀ L h news) : News h₀ L h ((a, o) :: news) := fun q hq => by
  rcases List.mem_cons.mp hq with rfl | hq
  · refine ⟨e, fun q => ?_, ?_⟩
    · obtain ⟨oL, _, _, hoL, _⟩ := F.ns
      have q' : a = L := q
      rw [q', hoL] at n; cases n
    · cases e : h₀.get? a with
      | none => rfl
      | some o => rw [F.keep _ _ e] at n; cases n
  · exact N q hq
theorem ne_of {hs : Heap} {a c : Addr} {o : Obj} (e : hs.get? c = some o) (n : hs.get? a = none) : a ≠ c := fun q => by rw [q, e] at n; cases n
def maskL {α : Type} : List Bool → List α → List α
  | true :: bs, a :: as => a :: maskL bs as
  | false :: bs, _ :: as => maskL bs as
  | _, _ => []
theorem mask_sub {α : Type} : ∀ {bs : List Bool} {as : List α} {x : α}, x ∈ maskL bs as → x ∈ as
  | [], _, _, h => by simp [maskL] at h
  | true :: _, [], _, h => by simp [maskL] at h
  | false :: _, [], _, h => by simp [maskL] at h
  | true :: bs, a :: as, x, h => by
    simp only [maskL, List.mem_cons] at h
    rcases h with h | h
    · exact h ▸ List.mem_cons_self
    · exact List.mem_cons_of_mem _ (mask_sub h)
  | false :: bs, a :: as, x, h => List.mem_cons_of_mem _ (mask_sub (bs := bs) h)
theorem news_mask {h₀ h : Heap} {L : Addr} {news : List (Addr × Obj)} (N : News h₀ L h news) (bs : List Bool) : News h₀ L h (maskL bs news) := fun q hq => N q (mask_sub hq)
theorem ints5 {vs : List Value} {a b c d e : Int} (h : IntsAre vs [a, b, c, d, e]) : ∃ t u v x y, vs = [.int a t, .int b u, .int c v, .int d x, .int e y] := by
  cases h with
  | cons _ t h => cases h with
    | cons _ u h => cases h with
      | cons _ v h => cases h with
        | cons _ x h => cases h with
          | cons _ y h => cases h; exact ⟨t, u, v, x, y, rfl⟩
theorem prod_bd {x y : Int} {a b : Nat} (hx : x.natAbs ≤ a) (hy : y.natAbs ≤ b) : (x * y).natAbs ≤ a * b := by
  rw [Int.natAbs_mul]; exact Nat.mul_le_mul hx hy
theorem bd_mul {prog : Program} {w : World} {A : Around} {E : Value → Shared → Prop} {h : Heap} {g : Array GenState} {d : Drawn} {tk : Nat} {os : OsState} {a b : Int} {t u : Tok} {Q : Value → Shared → Prop} {k : Nat} (ha : a.natAbs ≤ k) (hk : k ≤ 100000000)
    (hq : ∀ t tk', Q (.int (a * b) t) ⟨h, g, d, tk', os⟩) : wpAny (model prog w) A (binaryOp .Mult (.int a t) (.int b u)) Q E ⟨h, g, d, tk, os⟩ := j_mul (by omega) (by omega) hq
theorem Root.small {x : Int} (h : Root x) : Small x := by unfold Root at h; unfold Small; omega
theorem Root.abs3 {x : Int} (h : Root x) : x.natAbs ≤ 3 := by unfold Root at h; omega
theorem w3_bd {a b n : Int} (ha : Root a) (hb : Root b) (hn : Root n) : (w3 (a * b) ((0 - a) + (0 - b)) 1 n).natAbs ≤ 36 := by
  have h1 := prod_bd ha.abs3 hb.abs3
  have h2 : (((0 - a) + (0 - b)) * n).natAbs ≤ 6 * 3 := prod_bd (by unfold Root at ha hb; omega) hn.abs3
  have h3 := prod_bd hn.abs3 hn.abs3
  unfold w3
  rw [Int.one_mul]
  generalize a * b = x at *
  generalize ((0 - a) + (0 - b)) * n = y at *
  generalize n * n = z at *
  omega
inductive StopIf : Prop where
  | mk
theorem ints2 {vs : List Value} {a b : Int} (h : IntsAre vs [a, b]) : ∃ t u, vs = [.int a t, .int b u] := by
  cases h with
  | cons _ t h => cases h with
    | cons _ u h => cases h; exact ⟨t, u, rfl⟩
theorem news_T {h₀ h h' : Heap} {L : Addr} {news : List (Addr × Obj)} {ts : List Addr} (N : News h₀ L h news) (kp : ∀ b o, b ∉ ts → h.get? b = some o → h'.get? b = some o) (off : ∀ q ∈ news, q.1 ∉ ts) : News h₀ L h' news :=
  fun q hq => ⟨kp _ _ (off q hq) (N q hq).1, (N q hq).2⟩
theorem news_cat {h₀ h : Heap} {L : Addr} {n1 n2 : List (Addr × Obj)} (N : News h₀ L h n1) (M : News h₀ L h n2) : News h₀ L h (n1 ++ n2) := fun q hq => by
  rcases List.mem_append.mp hq with hq | hq
  · exact N q hq
  · exact M q hq
theorem news_two {h₀ h h' : Heap} {L a b : Addr} {oa ob o1 o2 : Obj} (x : h.get? a = some oa ∧ a ≠ L ∧ h₀.get? a = none) (y : h.get? b = some ob ∧ b ≠ L ∧ h₀.get? b = none) (e1 : h'.get? a = some o1) (e2 : h'.get? b = some o2) : News h₀ L h' [(a, o1), (b, o2)] := fun q hq => by
  rcases List.mem_cons.mp hq with rfl | hq
  · exact ⟨e1, x.2⟩
  · rw [List.mem_singleton.mp hq]; exact ⟨e2, y.2⟩
theorem off_tab {h : Heap} {a : Addr} {o : Obj} {p q : Array Value} (h51 : h.get? 51 = some (tabObj p)) (h44 : h.get? 44 = some (tabObj q)) (e : h.get? a = some o) (hc : o.cls ≠ .none) : a ∉ [51, 44] := fun hm => by
  rcases List.mem_cons.mp hm with z | z
  · rw [z, h51] at e; cases e; exact absurd rfl hc
  · rw [List.mem_singleton.mp z, h44] at e; cases e; exact absurd rfl hc
inductive StopAsg : Prop where
  | mk
theorem viaF {α : Type} {M : Model} {A : Around} {t : Sem α} {Q : α → Shared → Prop} {E : Value → Shared → Prop} {s : Shared} (P : Shared → α → Shared → Prop) (h1 : wpAny M A t (P s) E s) (h2 : ∀ v s', P s v s' → Q v s') : wpAny M A t Q E s := wpAny_mono h1 h2 (fun _ _ x => x)
theorem small_abs {x : Int} {k : Nat} (h : x.natAbs ≤ k) (hk : k < 2 ^ 62) : Small x := by unfold Small; omega
theorem news_but2 {h₀ h h' : Heap} {L : Addr} {news : List (Addr × Obj)} (N : News h₀ L h news) (k : ∀ b o, b ≠ L → h.get? b = some o → h'.get? b = some o) : News h₀ L h' news :=
  fun q hq => ⟨k _ _ (N q hq).2.1 (N q hq).1, (N q hq).2⟩
local macro_rules | `(tactic| walk_at "call ref") => `(tactic| refine Stop.mk ?_)
local macro_rules | `(tactic| walk_at "eval ListComp") => `(tactic| ((have stp := (by assumption : StopNow)); refine Stop.mk ?_))
local macro_rules | `(tactic| k_room) => `(tactic| ((try simp only [depth_under_make, depth_under_kw, depth_in1, depth_deeper, depth_caller]); omega))
local macro_rules | `(tactic| walk_at "exec If") => `(tactic| ((have stp := (by assumption : StopIf)); refine Stop.mk ?_))
local macro_rules | `(tactic| walk_at "exec Assign cons ListComp") => `(tactic| ((have stp := (by assumption : StopAsg)); refine Stop.mk ?_))
theorem law_walk : PySem.Challenge.rw_ib0003_01.Holds := hd (by
  k_go0
  (all_goals try k_fold)
  k_steps
  refine Stop.out ?_
  rename World => w
  rename Fr _ _ _ _ => F
  rename News _ _ _ _ => N
  rename Frag.In _ _ => X
  rename Top topProg _ _ _ _ _ => T
  rename Below _ _ _ _ => B
  rename CodeHd _ (55, 51).1 _ => C51
  rename CodeHd _ (48, 44).1 _ => C44
  rename IntsAre _ _ => hI8
  have stopNow : StopNow := .mk
  obtain ⟨r0, r1, r2, r3, r4, hR, b0, b1, b2, b3, b4⟩ := roots_five _
  rw [hR] at hI8 ⊢
  clear hR
  refine table_tells w _ _ _ _ _ _ _ [] _ _ _ _ _ _ _ r0 r1 _ _ (Around.frames_deeper B.stack) rfl rfl rfl (by show callerA.depth + 1 + 16 < recursionLimit; decide) (by show callerA.units + 3 + 128 < cLine; decide) B F X T b0.tiny b1.tiny ?_
  rintro D1 _ ⟨g1, k1, rfl, v1⟩ n1 t1
  try dsimp only at n1 t1 v1
  have F1 := F.keeps v1
  have N1 := N.keeps v1
  obtain ⟨o1, ka1, kb1, kc1, aa1, ab1, ac1, e01, e11, e21, e31, f11, f21, f31, c11, c21, c31, c01, back1⟩ := tab_objs t1
  try dsimp only at f11 f21 f31
  have M1 := news_put F e01 n1 (news_put F e11 f11 (news_put F e21 f21 (news_put F e31 f31 N1)))
  have z105 := neN (ne_of (N _ (.tail _ (.tail _ (.tail _ (.tail _ (.tail _ (.head _))))))).1 n1)
  have z106 := neN (ne_of (N _ (.tail _ (.tail _ (.tail _ (.tail _ (.tail _ (.tail _ (.head _)))))))).1 n1)
  have z115 := neN (ne_of (N _ (.tail _ (.tail _ (.tail _ (.tail _ (.tail _ (.head _))))))).1 f11)
  have z116 := neN (ne_of (N _ (.tail _ (.tail _ (.tail _ (.tail _ (.tail _ (.tail _ (.head _)))))))).1 f11)
  have z125 := neN (ne_of (N _ (.tail _ (.tail _ (.tail _ (.tail _ (.tail _ (.head _))))))).1 f21)
  have z126 := neN (ne_of (N _ (.tail _ (.tail _ (.tail _ (.tail _ (.tail _ (.tail _ (.head _)))))))).1 f21)
  have z135 := neN (ne_of (N _ (.tail _ (.tail _ (.tail _ (.tail _ (.tail _ (.head _))))))).1 f31)
  have z136 := neN (ne_of (N _ (.tail _ (.tail _ (.tail _ (.tail _ (.tail _ (.tail _ (.head _)))))))).1 f31)
  try dsimp only at z105 z106 z115 z116 z125 z126 z135 z136
  clear F N N1
  (try dsimp only)
  k_steps
  refine Stop.out ?_
  rename Fr _ _ _ _ => Fb
  rename News _ _ _ _ => Nb
  refine table_tells w _ _ _ _ _ _ _ [] _ _ _ _ _ _ _ r2 r3 _ _ (Around.frames_deeper B.stack) rfl rfl rfl (by show callerA.depth + 1 + 16 < recursionLimit; decide) (by show callerA.units + 3 + 128 < cLine; decide) B Fb X T b2.tiny b3.tiny ?_
  rintro D2 _ ⟨g2, k2, rfl, v2⟩ n2 t2
  try dsimp only at n2 t2 v2
  have F2 := Fb.keeps v2
  have N2 := Nb.keeps v2
  obtain ⟨o2, ka2, kb2, kc2, aa2, ab2, ac2, e02, e12, e22, e32, f12, f22, f32, c12, c22, c32, c02, back2⟩ := tab_objs t2
  try dsimp only at f12 f22 f32
  have M2 := news_put Fb e02 n2 (news_put Fb e12 f12 (news_put Fb e22 f22 (news_put Fb e32 f32 N2)))
  have z209 := neN (ne_of (Nb _ (.tail _ (.tail _ (.tail _ (.tail _ (.tail _ (.tail _ (.tail _ (.tail _ (.tail _ (.head _))))))))))).1 n2)
  have z2010 := neN (ne_of (Nb _ (.tail _ (.tail _ (.tail _ (.tail _ (.tail _ (.tail _ (.tail _ (.tail _ (.tail _ (.tail _ (.head _)))))))))))).1 n2)
  have z219 := neN (ne_of (Nb _ (.tail _ (.tail _ (.tail _ (.tail _ (.tail _ (.tail _ (.tail _ (.tail _ (.tail _ (.head _))))))))))).1 f12)
  have z2110 := neN (ne_of (Nb _ (.tail _ (.tail _ (.tail _ (.tail _ (.tail _ (.tail _ (.tail _ (.tail _ (.tail _ (.tail _ (.head _)))))))))))).1 f12)
  have z229 := neN (ne_of (Nb _ (.tail _ (.tail _ (.tail _ (.tail _ (.tail _ (.tail _ (.tail _ (.tail _ (.tail _ (.head _))))))))))).1 f22)
  have z2210 := neN (ne_of (Nb _ (.tail _ (.tail _ (.tail _ (.tail _ (.tail _ (.tail _ (.tail _ (.tail _ (.tail _ (.tail _ (.head _)))))))))))).1 f22)
  have z239 := neN (ne_of (Nb _ (.tail _ (.tail _ (.tail _ (.tail _ (.tail _ (.tail _ (.tail _ (.tail _ (.tail _ (.head _))))))))))).1 f32)
  have z2310 := neN (ne_of (Nb _ (.tail _ (.tail _ (.tail _ (.tail _ (.tail _ (.tail _ (.tail _ (.tail _ (.tail _ (.tail _ (.head _)))))))))))).1 f32)
  try dsimp only at z209 z2010 z219 z2110 z229 z2210 z239 z2310
  clear Fb Nb N2
  (try dsimp only)
  k_steps
  refine Stop.out ?_
  rename Fr _ _ _ _ => Fc
  rename News _ _ _ _ => Nc
  rename_i lT _ l1T hC _
  have TA := back1 _ (Nc _ (.tail _ (.tail _ (.tail _ (.tail _ (.tail _ (.head _))))))).1 (Nc _ (.tail _ (.tail _ (.tail _ (.tail _ (.tail _ (.tail _ (.head _)))))))).1 (Nc _ (.tail _ (.tail _ (.tail _ (.tail _ (.tail _ (.tail _ (.tail _ (.head _))))))))).1 (Nc _ (.tail _ (.tail _ (.tail _ (.tail _ (.tail _ (.tail _ (.tail _ (.tail _ (.head _)))))))))).1
  have TB := back2 _ (Nc _ (.tail _ (.head _))).1 (Nc _ (.tail _ (.tail _ (.head _)))).1 (Nc _ (.tail _ (.tail _ (.tail _ (.head _))))).1 (Nc _ (.tail _ (.tail _ (.tail _ (.tail _ (.head _)))))).1
  refine compG (cl := _) (by rfl) (by rfl) (by decide) ?_
  refine aft ?_
  k_steps
  unfold Aft
  dsimp only
  have hlT : hC.get? lT = some (listOf #[.ref D1, .ref D2] 0) := (Nc _ (.head _)).1
  refine wpAny_pyIter_list (l := lT) (items := #[.ref D1, .ref D2]) ⟨_, hlT, rfl, _, rfl⟩ ?_
  dsimp only
  have hIlt : lT ≠ hC.objs.size := Nat.ne_of_lt (Heap.lt_size hlT)
  have upI : Up hC (hC.push { cls := .type "list_iterator", data := .fields #[.ref lT, .int 0 0] }) := up_push _ _
  refine ⟨2, [hC.objs.size], fun _ => [], _, _, fun Z i y h => ∃ a vs, y = .ref a ∧ a ∉ Z ∧ hC.get? a = none ∧ h.PlainList a (List.toArray vs) ∧ IntsAre vs (if i = 0 then [r0 * r1, (0 - r0) + (0 - r1), 1] else [r2 * r3, (0 - r2) + (0 - r3), 1]),
    okLocal _ (Walks.list rfl hC.objs.size lT hIlt #[.ref D1, .ref D2]) (by rw [sizeLine_eq]; decide) ?_ ?_ (fun _ => rfl) rfl rfl ?_ ?_, ?_⟩
  · exact ⟨⟨_, Heap.get?_push_size _ rfl, rfl, rfl⟩, ⟨_, upI _ _ hlT, rfl, _, rfl⟩⟩
  · intro b hb
    show b < (hC.push _).objs.size
    rw [Heap.size_push]
    rcases List.mem_cons.mp hb with rfl | hb
    · exact Nat.lt_succ_self _
    · rw [List.mem_singleton.mp hb]; exact Nat.lt_succ_of_lt (Heap.lt_size hlT)
  · rintro Xs i y h h' ⟨a, vs, rfl, ha, hn, hl, hi⟩ hk
    exact ⟨a, vs, rfl, ha, hn, hl.at fun o e => hk a o ha e, hi⟩
  · intro Ce Xe i v h₆ tk₆ m₆ E6 hC6 hi6 hP6 hn6 hv6 hX61 hX62 hst6 hk6
    have up₆ : Up hC h₆ := fun b o e => hk6 b o (fun hb => by
      have e2 := Heap.lt_size e
      rcases hX61 b hb with q | q
      · rw [List.mem_singleton.mp q] at e2; exact Nat.lt_irrefl _ e2
      · have q' : hC.objs.size + 1 ≤ b := by rw [← Heap.size_push]; exact q
        exact Nat.lt_irrefl _ (Nat.lt_of_lt_of_le (Nat.lt_succ_of_lt e2) q')) (upI _ _ e)
    have F₆ := Fc.keeps up₆
    have X₆ := X.keeps F₆.keep
    have T₆ := T.keeps F₆.keep
    dsimp only
    refine Call_ ?_
    refine nameGlobal X₆ T₆ (by k_is) rfl rfl rfl ?_
    refine callWith_K X₆ (by k_is) ?_
    refine spliced_more ?_
    refine nameLocal rfl rfl hn6 hv6 ?_
    refine spliced_none ?_
    refine ⟨X₆, ?_⟩
    obtain ⟨d, kvs, rfl, ⟨B₁, Td⟩, he⟩ : ∃ d kvs, v = .ref d ∧ (∃ B₁, Tab PySem.Challenge.rw_ib0003_01.row.prog w B₁ h₆ d kvs) ∧ [getT kvs 0, getT kvs 1, getT kvs 2] = (if i = 0 then [r0 * r1, (0 - r0) + (0 - r1), 1] else [r2 * r3, (0 - r2) + (0 - r3), 1]) := by
      have hi6' : i < 2 := hi6
      match i, hi6', hP6 with
      | 0, _, hP6 => exact ⟨D1, tabOf r0 r1, (Option.some.inj hP6).symm, ⟨_, TA.up up₆⟩, rfl⟩
      | 1, _, hP6 => exact ⟨D2, tabOf r2 r3, (Option.some.inj hP6).symm, ⟨_, TB.up up₆⟩, rfl⟩
    refine row_tells w _ _ _ _ _ _ _ [] _ _ _ _ _ _ _ d kvs B₁ (Around.frames_deeper B.stack) rfl rfl rfl (by show callerA.depth + 1 + 16 < recursionLimit; decide) (by show callerA.units + 3 + 128 < cLine; decide) B F₆ X T Td ?_
    rintro Dr _ vr ⟨h7, k7, rfl, up7⟩ hDn7 hpl7 hi7
    dsimp only at hDn7 hpl7 up7
    refine ⟨kp up7, Dr, vr, rfl, fun hb => ?_, up_none up₆ hDn7, hpl7, he ▸ hi7⟩
    rcases hX62 _ hb with q | q | ⟨o, e⟩
    · have q' := List.mem_singleton.mp q
      have e2 := hst6.1
      obtain ⟨o, e, _⟩ := e2
      rw [q', e] at hDn7; cases hDn7
    · obtain ⟨o, _, _, e, _⟩ := hn6
      rw [q, e] at hDn7; cases hDn7
    · rw [e] at hDn7; cases hDn7
  · intro Dl h₇ tk₇ ys₇ X₇ hD7 hyn7 hys7 hk₇ hDn7
    have up₇ : Up hC h₇ := fun b o e => hk₇ b o (fun hb => by
      rw [List.mem_singleton.mp hb] at e
      exact Nat.lt_irrefl _ (Heap.lt_size e)) (upI _ _ e)
    obtain ⟨vs₇, rfl⟩ : ∃ vs : List Value, ys₇ = vs.toArray := ⟨ys₇.toList, (Array.toArray_toList).symm⟩
    have hDn : hC.get? Dl = none := up_none upI hDn7
    have hl₇ : vs₇.length = 2 := by simpa using hyn7
    obtain ⟨u1, u2, rfl⟩ : ∃ u1 u2, vs₇ = [u1, u2] := by
      match vs₇, hl₇ with
      | [a, b], _ => exact ⟨a, b, rfl⟩
    obtain ⟨ra, va, rfl, _, na, pa, ia⟩ := hys7 0 u1 rfl
    obtain ⟨rb, vb, rfl, _, nb, pb, ib⟩ := hys7 1 u2 rfl
    rw [if_pos rfl] at ia
    rw [if_neg (by decide)] at ib
    obtain ⟨ta0, ta1, ta2, rfl⟩ := ints3 ia
    obtain ⟨tb0, tb1, tb2, rfl⟩ := ints3 ib
    obtain ⟨kl, el⟩ := hD7
    obtain ⟨kka, ea⟩ := pa
    obtain ⟨kkb, eb⟩ := pb
    have Nd := news_put (o := listOf #[.ref ra, .ref rb] kl) Fc el hDn (news_put (o := listOf #[.int (r0 * r1) ta0, .int ((0 - r0) + (0 - r1)) ta1, .int 1 ta2] kka) Fc ea na
      (news_put (o := listOf #[.int (r2 * r3) tb0, .int ((0 - r2) + (0 - r3)) tb1, .int 1 tb2] kkb) Fc eb nb (Nc.keeps up₇)))
    have Fd := Fc.keeps up₇
    have yhDn14 := neN (ne_of (Nc _ (.tail _ (.tail _ (.tail _ (.tail _ (.tail _ (.tail _ (.tail _ (.tail _ (.tail _ (.tail _ (.tail _ (.tail _ (.tail _ (.tail _ (.head _)))))))))))))))).1 hDn)
    have yhDn15 := neN (ne_of (Nc _ (.tail _ (.tail _ (.tail _ (.tail _ (.tail _ (.tail _ (.tail _ (.tail _ (.tail _ (.tail _ (.tail _ (.tail _ (.tail _ (.tail _ (.tail _ (.head _))))))))))))))))).1 hDn)
    have yna14 := neN (ne_of (Nc _ (.tail _ (.tail _ (.tail _ (.tail _ (.tail _ (.tail _ (.tail _ (.tail _ (.tail _ (.tail _ (.tail _ (.tail _ (.tail _ (.tail _ (.head _)))))))))))))))).1 na)
    have yna15 := neN (ne_of (Nc _ (.tail _ (.tail _ (.tail _ (.tail _ (.tail _ (.tail _ (.tail _ (.tail _ (.tail _ (.tail _ (.tail _ (.tail _ (.tail _ (.tail _ (.tail _ (.head _))))))))))))))))).1 na)
    have ynb14 := neN (ne_of (Nc _ (.tail _ (.tail _ (.tail _ (.tail _ (.tail _ (.tail _ (.tail _ (.tail _ (.tail _ (.tail _ (.tail _ (.tail _ (.tail _ (.tail _ (.head _)))))))))))))))).1 nb)
    have ynb15 := neN (ne_of (Nc _ (.tail _ (.tail _ (.tail _ (.tail _ (.tail _ (.tail _ (.tail _ (.tail _ (.tail _ (.tail _ (.tail _ (.tail _ (.tail _ (.tail _ (.tail _ (.head _))))))))))))))))).1 nb)
    try dsimp only at yhDn14 yhDn15 yna14 yna15 ynb14 ynb15
    rename (_ ≠ _ ∧ _ ≠ _ ∧ _) => o1r
    have q1 := o1r.2.2.2.2.1
    have q2 := o1r.2.2.2.2.2.1
    have q3 := o1r.2.2.2.2.2.2.1
    have zT14 := l1T.2.2.2.2.2.2.2.2.2.2.2.2.2.1
    have zT15 := l1T.2.2.2.2.2.2.2.2.2.2.2.2.2.2.1
    have zT16 := l1T.2.2.2.2.2.2.2.2.2.2.2.2.2.2.2.1
    rename (51 < _ ∧ 44 < _) => l0
    have l51 := l0.1
    have l44 := l0.2
    have Ne := news_mask Nd [true, true, true, true, false, false, false, false, true, true, true, true, true, false, false, false, false, true, true, true, true, true]
    dsimp only [maskL] at Ne
    clear Fc Nc Nd o1r l0 l1T TA TB hlT hIlt upI hk₇ hDn7 up₇ hDn na nb hys7 hyn7 hl₇ el ea eb z209 z2010 z219 z2110 z229 z2210 z239 z2310 v1 n1 t1 v2 n2 t2 e01 e11 e21 e31 e02 e12 e22 e32 f11 f21 f31 f12 f22 f32 c11 c21 c31 c12 c22 c32 c01 c02 back2
    repeat (with_reducible (rename (_ ∧ _) => zz); clear zz)
    (try dsimp only)
    k_steps
    refine Stop.out ?_
    rename Fr _ _ _ _ => Fe
    rename News _ _ _ _ => Ne1
    have TC := back1 _ (Ne1.get (a := D1) (o := o1) (by k_mem)) (Ne1.get (a := aa1) (o := ka1) (by k_mem)) (Ne1.get (a := ab1) (o := kb1) (by k_mem)) (Ne1.get (a := ac1) (o := kc1) (by k_mem))
    refine count_tells w _ _ _ _ _ _ _ [] _ _ _ _ _ _ _ D1 (tabOf r0 r1) _ (Around.frames_deeper B.stack) rfl rfl rfl (by show callerA.depth + 1 + 16 < recursionLimit; decide) (by show callerA.units + 3 + 128 < cLine; decide) B Fe X T TC ?_
    rintro tq _ ⟨g3, k3, rfl, v3⟩
    dsimp only at v3
    have Ff := Fe.keeps v3
    have Nf := Ne1.keeps v3
    clear Fe Ne1
    (try dsimp only)
    k_steps
    refine Stop.out ?_
    rename Fr _ _ _ _ => Fe
    rename News _ _ _ _ => Ne1
    have hp := chp_of b0 b1 b4
    simp only [chp, Bool.and_eq_true, beq_iff_eq, decide_eq_true_eq] at hp
    obtain ⟨⟨⟨hp1, hp2⟩, hp3⟩, hp4⟩ := hp
    have sm : ∀ {x y : Int}, Root x → Root y → Small (x * y) := fun {x y} hx hy => by
      have h1 := hx.mem
      have h2 := hy.mem
      simp only [seven, List.mem_cons, List.not_mem_nil, or_false] at h1 h2
      unfold Small
      rcases h1 with rfl | rfl | rfl | rfl | rfl | rfl | rfl <;> unfold Root at hy <;> omega
    have sa : ∀ {x y : Int}, Root x → Root y → Small ((0 - x) + (0 - y)) := fun {x y} hx hy => by
      unfold Root at hx hy
      unfold Small
      omega
    refine worth_tells w _ _ _ _ _ _ _ [] _ _ _ _ _ _ _ ra _ [r0 * r1, (0 - r0) + (0 - r1), 1] 1 _ (Around.frames_deeper B.stack) rfl rfl rfl (by show callerA.depth + 1 + 1 < recursionLimit; decide) (by show callerA.units + 3 + 16 < cLine; decide) B Fe X T (News.isList Ne1 (by k_mem)) ia (by simp) (fun y hy => by
      simp only [List.mem_cons, List.not_mem_nil, or_false] at hy
      rcases hy with rfl | rfl | rfl
      · exact sm b0 b1
      · exact sa b0 b1
      · exact ⟨by decide, by decide⟩) ⟨by decide, by decide⟩ ?_
    rintro tw _ ⟨g4, k4, rfl, v4⟩
    dsimp only at v4
    rw [worth3, ← hp3]
    have Ff := Fe.keeps v4
    have Nf := Ne1.keeps v4
    clear Fe Ne1
    (try dsimp only)
    k_steps
    refine j_mul (by show -(2 ^ 64) < r0; have := b0.1; omega) (by show r0 < 2 ^ 64; have := b0.2; omega) fun tm tkm => ?_
    (try dsimp only)
    k_steps
    refine Stop.out ?_
    w_top off
    rename_i Dr _ _ _ oc1 dc1 _ _ _ _ _ _ _ _ _ _ _ _ oc2 dc2 _ _ _ _ _ _ _ _ hN F N l1N _ _
    rename Shared => s₁
    have N2 := news_mask N [false, false, true, true, false, false, false, false, false, true, true, true, true, true, true]
    dsimp only [maskL] at N2
    clear N
    obtain ⟨e0, e1, e2, e3, e4, rfl⟩ := ints5 hI8
    rename (List.length _ = List.length (List.map _ (List.take 5 _))) => hL8
    clear hL8 hI8
    clear l1N back1 z105 z106 z115 z116 z125 z126 z135 z136 yhDn14 yhDn15 TC v3 v4 hp3 zT14 zT15 zT16
    repeat (with_reducible (rename (_ ∧ _) => zz); clear zz)
    refine compG (cl := _) (by rfl) (by rfl) (by decide) ?_
    refine aft ?_
    k_steps
    rename_i h₃ tk₃ _ _ _ hrng F₃ N₃ up₃
    (rename News _ _ hN _ => zz; clear zz)
    (rename Fr _ _ hN _ => zz; clear zz)
    unfold Aft
    dsimp only
    refine wpAny_pyIter_range hrng (by decide) ?_
    dsimp only
    rw [show Builtin.Range.rangeSize 0 3 1 = ((3 : Nat) : Int) from by decide]
    have c2 := (N₃ _ (.tail _ (.tail _ (.tail _ (.tail _ (.head _)))))).1
    dsimp only at c2
    have ra3 := (N₃ _ (.head _)).1
    dsimp only at ra3
    refine ⟨3, [h₃.objs.size], fun _ => [], _, _, fun _ i y _ => ∃ t, y = .int ([r0 * r1, (0 - r0) + (0 - r1), 1].getD i 0) t, okLocal _ (LCg.range_walks rfl 0 3) (by rw [sizeLine_eq]; decide) ?_ ?_ (fun _ => rfl) rfl rfl ?_ ?_, ?_⟩
    · show IsRangeIter _ _ _ _ _
      simpa using Heap.get?_push_size _ rfl
    · intro b hb
      show b < (h₃.push _).objs.size
      rw [List.mem_singleton.mp hb, Heap.size_push]; exact Nat.lt_succ_self _
    · exact fun _ _ _ _ _ h _ => h
    · intro C X5 k v h₄ tk₄ m₄ E4 hC hi hP hn hv hX1 hX2 hst hk
      obtain ⟨tv, rfl⟩ := hP
      rw [Int.zero_add] at hv
      have up₄ : Up h₃ h₄ := fun b o e => hk b o (fun hb => by
        have e2 := Heap.lt_size e
        rcases hX1 b hb with q | q
        · rw [List.mem_singleton.mp q] at e2; exact Nat.lt_irrefl _ e2
        · have q' : h₃.objs.size + 1 ≤ b := by rw [← Heap.size_push]; exact q
          exact Nat.lt_irrefl _ (Nat.lt_of_lt_of_le (Nat.lt_succ_of_lt e2) q')) (Heap.get?_push_of_some _ e)
      have r2 : h₄.IsCell (s₁.heap.objs.size + 1 + 1) (some (.ref ra)) := ⟨_, up₄ _ _ c2, dc2⟩
      obtain ⟨te, hte⟩ := ints_get k ia (by simp only [List.length_cons, List.length_nil]; omega)
      dsimp only
      refine Subscript_ (nameCell rfl rfl rfl r2 (nameLocal rfl rfl hn hv ?_))
      refine j_item (list_up (show h₃.IsList ra _ from ⟨_, ra3, rfl, _, rfl⟩) up₄) (by omega) (by omega) hte ?_
      exact ⟨kp (Up.refl _), te, rfl⟩
    intro D h₇ tk₇ ys X₇ hD hyn hys hk₇ hDn
    have up₇ : Up h₃ h₇ := fun b o e => hk₇ b o (fun hb => by
      rw [List.mem_singleton.mp hb] at e
      exact Nat.lt_irrefl _ (Heap.lt_size e)) (Heap.get?_push_of_some _ e)
    obtain ⟨ws, rfl⟩ : ∃ vs : List Value, ys = vs.toArray := ⟨ys.toList, (Array.toArray_toList).symm⟩
    have hI₇ : IntsAre ws ((List.range 3).map fun i : Nat => [r0 * r1, (0 - r0) + (0 - r1), 1].getD i 0) := ints_of_get 3 ws _ (by simpa using hyn) fun i y e => hys i y (by simpa using e)
    have hI₈ : IntsAre ws [r0 * r1, (0 - r0) + (0 - r1), 1] := hI₇
    obtain ⟨kD, hDo⟩ := hD
    have F₇ := F₃.keeps up₇
    have N₇ := N₃.keeps up₇
    clear F₃ N₃ hys hI₇ hyn hDn hk₇ c2 ra3 hrng up₃
    (try dsimp only)
    k_steps
    refine Stop.out ?_
    rename Fr _ _ _ _ => F
    rename News _ _ _ _ => N
    have hc := chk_of b0 b1 b2 b3
    simp only [chk, Bool.and_eq_true, beq_iff_eq] at hc
    obtain ⟨⟨⟨⟨c1, c2⟩, c3⟩, c4⟩, c5⟩ := hc
    refine both_tells w _ _ _ _ _ _ _ [] _ _ _ _ _ _ _ D rb _ _ (r0 * r1) ((0 - r0) + (0 - r1)) 1 (r2 * r3) ((0 - r2) + (0 - r3)) 1 (Around.frames_deeper B.stack) rfl rfl rfl (by show callerA.depth + 1 + 6 < recursionLimit; decide) (by show callerA.units + 3 + 64 < cLine; decide) B F X T ⟨_, hDo, rfl, _, rfl⟩ hI₈ (News.isList N (by k_mem)) ib ⟨sm b0 b1, sa b0 b1, ⟨by decide, by decide⟩⟩ ⟨sm b2 b3, sa b2 b3, ⟨by decide, by decide⟩⟩ ?_
    rintro tt _ ⟨g5, k5, rfl, v5⟩
    dsimp only at v5
    rw [sylv_eq]
    have c6 := moved_eq r0 r1 r2 r3
    have c7 := twice_eq (r0 * r1) ((0 - r0) + (0 - r1)) (r2 * r3) ((0 - r2) + (0 - r3))
    generalize hT : res (r0 * r1, (0 - r0) + (0 - r1), 1) (r2 * r3, (0 - r2) + (0 - r3), 1) = td at c1 c2 c3 c4 c5 c6 c7 ⊢
    have F5 := F.keeps v5
    have N5 := N.keeps v5
    clear F N hDo hI₈ up₇
    (try dsimp only)
    have d02 : (r0 - r2).natAbs ≤ 6 := by unfold Root at b0 b2; omega
    have d03 : (r0 - r3).natAbs ≤ 6 := by unfold Root at b0 b3; omega
    have d12 : (r1 - r2).natAbs ≤ 6 := by unfold Root at b1 b2; omega
    have d13 : (r1 - r3).natAbs ≤ 6 := by unfold Root at b1 b3; omega
    k_steps
    (try dsimp only)
    refine bd_mul (k := 6) d02 (by decide) fun tm1 tkm1 => ?_
    k_steps
    (try dsimp only)
    refine bd_mul (k := 36) (prod_bd d02 d03) (by decide) fun tm2 tkm2 => ?_
    k_steps
    (try dsimp only)
    refine bd_mul (k := 216) (prod_bd (prod_bd d02 d03) d12) (by decide) fun tm3 tkm3 => ?_
    k_steps
    refine Stop.out ?_
    rename Fr _ _ _ _ => F
    rename News _ _ _ _ => N
    refine both_tells w _ _ _ _ _ _ _ [] _ _ _ _ _ _ _ rb ra _ _ (r2 * r3) ((0 - r2) + (0 - r3)) 1 (r0 * r1) ((0 - r0) + (0 - r1)) 1 (Around.frames_deeper B.stack) rfl rfl rfl (by show callerA.depth + 1 + 6 < recursionLimit; decide) (by show callerA.units + 3 + 64 < cLine; decide) B F X T (News.isList N (by k_mem)) ib (News.isList N (by k_mem)) ia ⟨sm b2 b3, sa b2 b3, ⟨by decide, by decide⟩⟩ ⟨sm b0 b1, sa b0 b1, ⟨by decide, by decide⟩⟩ ?_
    rintro tt2 _ ⟨g6, k6, rfl, v6⟩
    dsimp only at v6
    rw [sylv_eq, ← c2]
    have F6 := F.keeps v6
    have N6 := N.keeps v6
    clear F N v6
    (try dsimp only)
    k_steps
    refine Stop.out ?_
    rename Fr _ _ _ _ => F
    rename News _ _ _ _ => N
    have small3 : ∀ y ∈ [r2 * r3, (0 - r2) + (0 - r3), 1], Small y := fun y hy => by
      simp only [List.mem_cons, List.not_mem_nil, or_false] at hy
      rcases hy with rfl | rfl | rfl
      · exact sm b2 b3
      · exact sa b2 b3
      · exact ⟨by decide, by decide⟩
    refine worth_tells w _ _ _ _ _ _ _ [] _ _ _ _ _ _ _ rb _ [r2 * r3, (0 - r2) + (0 - r3), 1] r0 _ (Around.frames_deeper B.stack) rfl rfl rfl (by show callerA.depth + 1 + 1 < recursionLimit; decide) (by show callerA.units + 3 + 16 < cLine; decide) B F X T (News.isList N (by k_mem)) ib (by simp) small3 b0.small ?_
    rintro tw1 _ ⟨g7, k7, rfl, v7⟩
    dsimp only at v7
    rw [worth3]
    have F7 := F.keeps v7
    have N7 := N.keeps v7
    clear F N v7
    (try dsimp only)
    k_steps
    refine Stop.out ?_
    rename Fr _ _ _ _ => F
    rename News _ _ _ _ => N
    refine worth_tells w _ _ _ _ _ _ _ [] _ _ _ _ _ _ _ rb _ [r2 * r3, (0 - r2) + (0 - r3), 1] r1 _ (Around.frames_deeper B.stack) rfl rfl rfl (by show callerA.depth + 1 + 1 < recursionLimit; decide) (by show callerA.units + 3 + 16 < cLine; decide) B F X T (News.isList N (by k_mem)) ib (by simp) small3 b1.small ?_
    rintro tw2 _ ⟨g8, k8, rfl, v8⟩
    dsimp only at v8
    rw [worth3]
    have F8 := F.keeps v8
    have N8 := N.keeps v8
    clear F N v8
    (try dsimp only)
    k_steps
    (try dsimp only)
    refine bd_mul (k := 36) (w3_bd b2 b3 b0) (by decide) fun tm4 tkm4 => ?_
    rw [← c3]
    k_steps
    refine Stop.out ?_
    rename Fr _ _ _ _ => F
    rename News _ _ _ _ => N
    have hIr : IntsAre [Value.int r0 e0, .int r1 e1, .int r2 e2, .int r3 e3, .int r4 e4] [r0, r1, r2, r3, r4] := .cons _ _ (.cons _ _ (.cons _ _ (.cons _ _ (.cons _ _ .nil))))
    have hlr : g8.IsList Dr #[.int r0 e0, .int r1 e1, .int r2 e2, .int r3 e3, .int r4 e4] := ⟨_, (N _ (.tail _ (.tail _ (.head _)))).1, rfl, _, rfl⟩
    have hcr : g8.IsCell (s₁.heap.objs.size + 1) (some (.ref Dr)) := ⟨_, (N _ (.tail _ (.tail _ (.tail _ (.tail _ (.tail _ (.head _))))))).1, dc1⟩
    refine compT (cl := [(Str.ofString "roots", s₁.heap.objs.size + 1)]) (by rfl) (by rfl) (by decide) (fun _ => rfl) (by rfl) ?_
    refine Subscript_ (nameCell rfl rfl rfl hcr (wpAny_Slice (evalPart_none_step (evalPart_some_step (j_const fun t11 tk11 => evalPart_none_step ?_)))))
    dsimp only
    refine j_slice hlr .none (.int _ _) (by show 5 ≤ sizeLine; rw [sizeLine_eq]; decide) fun D9 h9 up9 hn9 hl9 => ?_
    have hl9 : h9.IsList D9 #[.int r0 e0, .int r1 e1] := hl9
    refine wpAny_pyIter_list hl9 ?_
    dsimp only
    have hD9 : D9 ≠ h9.objs.size := Nat.ne_of_lt (list_lt hl9)
    have up10 := up_push h9 { cls := .type "list_iterator", data := .fields #[.ref D9, .int 0 0] }
    refine ⟨h9.objs.size, _, _, 2, _, _, (fun i => [r2, r3].any (· == [r0, r1].getD i 0)), rfl, Walks.list rfl h9.objs.size D9 hD9 #[.int r0 e0, .int r1 e1], (by rw [sizeLine_eq]; decide), ?_, ?_, ?_, ?_, ?_⟩
    · exact ⟨⟨_, Heap.get?_push_size _ rfl, rfl, rfl⟩, list_up hl9 up10⟩
    · intro b hb
      show b < (h9.push _).objs.size
      rw [Heap.size_push]
      rcases List.mem_cons.mp hb with rfl | hb
      · exact Nat.lt_succ_self _
      · rw [List.mem_singleton.mp hb]; exact Nat.lt_succ_of_lt (list_lt hl9)
    · intro C i v h' tk' m' E' hC hi hP hn hv hk
      have upx : Up g8 h' := fun b o e => hk b o (fun hb => by
        have e2 := Heap.lt_size (up9 _ _ e)
        rw [List.mem_singleton.mp hb] at e2; exact Nat.lt_irrefl _ e2) (up10 _ _ (up9 _ _ e))
      obtain ⟨tv, rfl⟩ : ∃ t, v = .int ([r0, r1].getD i 0) t := by
        match i, hi, hP with
        | 0, _, hP => exact ⟨e0, (Option.some.inj hP).symm⟩
        | 1, _, hP => exact ⟨e1, (Option.some.inj hP).symm⟩
      refine wpAny_isTrue_Compare1 (nameLocal rfl rfl hn hv ?_)
      refine Subscript_ (nameCell rfl rfl rfl (cell_up hcr upx) (wpAny_Slice (evalPart_some_step (j_const fun t12 tk12 => evalPart_some_step (j_const fun t13 tk13 => evalPart_none_step ?_)))))
      dsimp only
      refine j_slice (list_up hlr upx) (.int _ _) (.int _ _) (by show 5 ≤ sizeLine; rw [sizeLine_eq]; decide) fun Dz hz upz hnz hlz => ?_
      have hlz : hz.IsList Dz [Value.int r2 e2, .int r3 e3].toArray := hlz
      refine in_list_ints hlz (ns := [r2, r3]) (.cons _ _ (.cons _ _ .nil)) ?_
      refine wpAny_truthy_bool ?_
      exact ⟨rfl, kp upz⟩
    · intro C i v h' tk' m' E' hC hi hP hn hv hk
      refine nameLocal rfl rfl hn hv ?_
      refine ⟨?_, kp (Up.refl _)⟩
      match i, hi, hP with
      | 0, _, hP => exact ⟨_, _, (Option.some.inj hP).symm⟩
      | 1, _, hP => exact ⟨_, _, (Option.some.inj hP).symm⟩
    intro D h' tk' ys hD hyn hyi hk hDn
    have up11 : Up g8 h' := fun b o e => hk b o (fun hb => by
      have e2 := Heap.lt_size (up9 _ _ e)
      rw [List.mem_singleton.mp hb] at e2; exact Nat.lt_irrefl _ e2) (up10 _ _ (up9 _ _ e))
    have hDn8 : g8.get? D = none := up_none up9 (up_none up10 hDn)
    obtain ⟨ws, rfl⟩ : ∃ vs : List Value, ys = vs.toArray := ⟨ys.toList, (Array.toArray_toList).symm⟩
    obtain ⟨ns, hns⟩ := ints_any ws fun j y e => hyi j y (by simpa using e)
    have hsh : (!decide (ns = [])) = shr r0 r1 r2 r3 := by
      have e := cnt_shr r0 r1 r2 r3
      rw [← hyn, List.size_toArray, hns.length] at e
      have e2 : decide (ns = []) = decide (ns.length = 0) := by cases ns <;> simp
      rw [e2, e]
      show (!(!shr r0 r1 r2 r3)) = _
      rw [Bool.not_not]
    obtain ⟨kD, hDo⟩ := hD
    have yD := neN (ne_of (N _ (.tail _ (.tail _ (.tail _ (.head _))))).1 hDn8)
    have F9 := F.keeps up11
    have N9 := news_put (o := listOf ws.toArray kD) F hDo hDn8 (N.keeps up11)
    clear F N hk hDn hyi hyn hDo hlr hcr hl9 up9 up10 up11 hDn8 hn9
    (try dsimp only at yD)
    (try dsimp only)
    k_steps
    refine Stop.out ?_
    rename Fr _ _ _ _ => F
    rename News _ _ _ _ => N
    rw [hsh, ← c4] at F
    have N' := news_mask N [false, false, true, true, true, true, true, true, true, true]
    dsimp only [maskL] at N'
    clear N
    have n51 := N' _ (.tail _ (.tail _ (.tail _ (.tail _ (.tail _ (.tail _ (.head _)))))))
    have n44 := N' _ (.tail _ (.tail _ (.tail _ (.tail _ (.tail _ (.tail _ (.tail _ (.head _))))))))
    dsimp only at n51 n44
    refine left_tells w _ _ _ _ _ _ _ [] _ _ _ _ _ _ _ ra rb _ _ (r0 * r1) ((0 - r0) + (0 - r1)) (r2 * r3) ((0 - r2) + (0 - r3)) (Around.frames_deeper B.stack) rfl rfl rfl (by show callerA.depth + 1 + 30 < recursionLimit; decide) (by show callerA.units + 3 + 200 < cLine; decide) B F X T C44 C51 (fun q hq => N' q (.tail _ (.tail _ (.tail _ (.tail _ (.tail _ (.tail _ hq))))))) (News.isList N' (by k_mem)) ia (News.isList N' (by k_mem)) ib ⟨sm b0 b1, sa b0 b1⟩ ⟨sm b2 b3, sa b2 b3⟩ ?_
    rintro Dq _ wl ⟨h12, k12, rfl, kp12, gr12⟩ hDqn hDq hIq
    dsimp only at kp12 hDqn hDq
    obtain ⟨ps51, e51⟩ := gr12 51 (by simp)
    obtain ⟨ps44, e44⟩ := gr12 44 (by simp)
    have Fb := frT (ts := [51, 44]) F (off2 l51 l44) (by intro b hb; rcases List.mem_cons.mp hb with rfl | hb; exact n51.2.2; rw [List.mem_singleton.mp hb]; exact n44.2.2) kp12
    obtain ⟨kq, eq⟩ := hDq
    obtain ⟨u0, u1, rfl⟩ := ints2 hIq
    have yq := neN (ne_of (N' _ (.tail _ (.tail _ (.tail _ (.head _))))).1 hDqn)
    dsimp only at yq
    have Nb := news_put (o := listOf #[.int (r0 * r1 - r2 * r3) u0, .int ((0 - r0) + (0 - r1) - ((0 - r2) + (0 - r3))) u1] kq) F eq hDqn (news_T (ts := [51, 44]) (news_mask N' [true, true, true, true, true, true]) kp12 (fun q hq => by
      simp only [maskL, List.mem_cons, List.not_mem_nil, or_false] at hq
      rcases hq with rfl | rfl | rfl | rfl | rfl | rfl
      · exact off_tab n51.1 n44.1 (N' _ (.head _)).1 (by intro q; cases q)
      · exact off_tab n51.1 n44.1 (N' _ (.tail _ (.head _))).1 (by intro q; cases q)
      · exact off_tab n51.1 n44.1 (N' _ (.tail _ (.tail _ (.head _)))).1 (by intro q; cases q)
      · exact off2 (Nat.lt_succ_of_lt (Nat.lt_succ_of_lt (Nat.lt_succ_of_lt l51))) (Nat.lt_succ_of_lt (Nat.lt_succ_of_lt (Nat.lt_succ_of_lt l44)))
      · exact off2 (Nat.lt_succ_of_lt (Nat.lt_succ_of_lt l51)) (Nat.lt_succ_of_lt (Nat.lt_succ_of_lt l44))
      · exact off2 (Nat.lt_succ_of_lt l51) (Nat.lt_succ_of_lt l44)))
    have Nc := news_cat Nb (news_two (o1 := tabObj ps51) (o2 := tabObj ps44) n51 n44 e51 e44)
    simp only [maskL, List.cons_append, List.nil_append] at Nc
    clear F Nb N' n51 n44 e51 e44 kp12 gr12 hDqn eq hsh hns yD
    repeat (with_reducible (rename (_ ∧ _) => zz); clear zz)
    have stopIf : StopIf := .mk
    (try dsimp only)
    k_steps
    refine Stop.out ?_
    have stopAsg : StopAsg := .mk
    refine wpAny_If ?_
    k_steps
    refine Stop.out ?_
    refine viaF (fun s fl s' => fl = .next ∧ Keeps s s') ?_ ?_
    · refine wpAny_If ?_
      k_steps
      · refine Stop.out ?_
        rename (¬ List.getD _ (Int.toNat 1) 0 = 0) => hz1
        have hz1 : ¬ ((0 - r0) + (0 - r1) - ((0 - r2) + (0 - r3)) = 0) := hz1
        rw [if_neg hz1] at c5
        refine wpAny_If ?_
        refine viaF (fun s b s' => b = false ∧ Keeps s s') ?_ ?_
        · k_steps
          refine Stop.out ?_
          refine compG (cl := [(Str.ofString "left", s₁.heap.objs.size + 1 + 1 + 1)]) (by rfl) (by rfl) (by decide) ?_
          refine aft ?_
          k_steps
          rename Fr _ _ _ _ => F
          rename News _ _ _ _ => N
          rename Heap => hB
          rename (_ = Data.cell (some (Value.ref Dq))) => dc3
          have hRb : hB.IsList rb [Value.int (r2 * r3) tb0, .int ((0 - r2) + (0 - r3)) tb1, .int 1 tb2].toArray := News.isList N (by k_mem)
          have hlq : hB.IsList Dq [Value.int (r0 * r1 - r2 * r3) u0, .int ((0 - r0) + (0 - r1) - ((0 - r2) + (0 - r3))) u1].toArray := News.isList N (by k_mem)
          have hcl : hB.IsCell (s₁.heap.objs.size + 1 + 1 + 1) (some (.ref Dq)) := ⟨_, (N _ (.tail _ (.tail _ (.tail _ (.tail _ (.head _)))))).1, dc3⟩
          have hrlt := list_lt hRb
          obtain ⟨l1, hl1⟩ : ∃ x, x = (0 - r0) + (0 - r1) - ((0 - r2) + (0 - r3)) := ⟨_, rfl⟩
          have bl1 : l1.natAbs ≤ 12 := by unfold Root at b0 b1 b2 b3; omega
          have sl1 : Small l1 := by unfold Small; omega
          refine call_enumerate_list hRb fun h₂ he₂ hit₂ hz₂ up₂ => ?_
          dsimp only at he₂ hit₂ hz₂ up₂
          unfold Aft
          dsimp only
          refine wpAny_pyIter_enum he₂ ?_
          refine ⟨3, [hB.objs.size + 1, hB.objs.size], fun _ => [], _, _, fun _ i y _ => ∃ t, y = .int ([r2 * r3, (0 - r2) + (0 - r3), 1].getD i 0 * l1 ^ (2 - i)) t,
            okEnum _ rfl (by show 3 ≤ sizeLine; rw [sizeLine_eq]; decide) he₂ hit₂ (list_up hRb up₂) (Nat.succ_ne_self _) (Nat.ne_of_lt (Nat.lt_succ_of_lt hrlt)) (Nat.ne_of_lt hrlt) (fun _ => rfl) rfl rfl rfl (by decide) (fun _ _ _ _ _ h _ => h) ?_, ?_⟩
          · intro C X5 i v ti h₃ tk₃ m₃ E3 hC hi hv hn h1 h2 hX1 hX2 hk
            have hi : i < 3 := hi
            have upA : Up hB h₃ := fun b o e => hk b o (fun hbX => by
              have hb := Heap.lt_size e
              rcases hX1 b hbX with q | q
              · rcases List.mem_cons.mp q with q | q
                · rw [q] at hb; exact Nat.lt_irrefl _ (Nat.lt_of_succ_lt hb)
                · rw [List.mem_singleton.mp q] at hb; exact Nat.lt_irrefl _ hb
              · have q' : h₂.objs.size ≤ b := q
                rw [hz₂] at q'
                exact Nat.lt_irrefl _ (Nat.lt_of_lt_of_le (Nat.lt_succ_of_lt (Nat.lt_succ_of_lt hb)) q')) (up₂ _ _ e)
            obtain ⟨te, hte⟩ := ints_get i ib (by simp only [List.length_cons, List.length_nil]; omega)
            rw [Int.toNat_natCast] at hte
            have hve : v = .int ([r2 * r3, (0 - r2) + (0 - r3), 1].getD i 0) te := by rw [hte] at hv; exact (Option.some.inj hv).symm
            subst hve
            have hbi := small3 ([r2 * r3, (0 - r2) + (0 - r3), 1].getD i 0) (by
              rw [List.getD_eq_getElem?_getD, List.getElem?_eq_getElem hi]
              exact List.getElem_mem _)
            dsimp only
            refine wpAny_BinOp (nameLocal rfl rfl hn h2 (wpAny_BinOp (Subscript_ (nameCell rfl rfl rfl (cell_up hcl upA) (j_const fun t31 tk31 => ?_)))))
            refine j_item (list_up hlq upA) (by decide) (by decide) (v := .int l1 u1) (by rw [hl1]; rfl) ?_
            refine wpAny_BinOp (j_const fun t32 tk32 => nameLocal rfl rfl hn h1 (j_sub fun t33 tk33 => ?_))
            rw [show (2 : Int) - (i : Int) = ((2 - i : Nat) : Int) by omega]
            refine j_pow (by omega) sl1 fun t34 tk34 => ?_
            refine j_mul (by have := hbi.1; omega) (by have := hbi.2; omega) fun t35 tk35 => ?_
            exact ⟨kp (Up.refl _), t35, rfl⟩
          · intro D5 h₇ tk₇ ys₇ X₇ hD5 hyn hys hk₇ hDn
            obtain ⟨wm, rfl⟩ : ∃ vs : List Value, ys₇ = vs.toArray := ⟨ys₇.toList, (Array.toArray_toList).symm⟩
            have hI₇ : IntsAre wm ((List.range 3).map fun i : Nat => [r2 * r3, (0 - r2) + (0 - r3), 1].getD i 0 * l1 ^ (2 - i)) := ints_of_get 3 wm _ (by simpa using hyn) fun i y e => hys i y (by simpa using e)
            have hI₈ : IntsAre wm [r2 * r3 * l1 ^ 2, ((0 - r2) + (0 - r3)) * l1 ^ 1, 1 * l1 ^ 0] := hI₇
            rw [Int.pow_zero, Int.mul_one, show l1 ^ 1 = l1 by rw [Int.pow_succ, Int.pow_zero, Int.one_mul], show l1 ^ 2 = l1 * l1 by rw [Int.pow_succ, Int.pow_succ, Int.pow_zero, Int.one_mul]] at hI₈
            have up₇ : Up hB h₇ := fun b o e => hk₇ b o (fun hb => by
              have e2 := Heap.lt_size e
              rcases List.mem_cons.mp hb with q | q
              · rw [q] at e2; exact Nat.lt_irrefl _ (Nat.lt_of_succ_lt e2)
              · rw [List.mem_singleton.mp q] at e2; exact Nat.lt_irrefl _ e2) (up₂ _ _ e)
            have hDnB : hB.get? D5 = none := up_none (fun b o e => up₂ b o e) hDn
            obtain ⟨kD5, hDo5⟩ := hD5
            have F₇ := F.keeps up₇
            have N₇ := news_put (o := listOf wm.toArray kD5) F hDo5 hDnB (N.keeps up₇)
            clear F N hI₇ hys hyn hk₇ hDn hDo5 hDnB he₂ hit₂ hz₂
            (try dsimp only)
            k_steps
            refine Stop.out ?_
            rename Fr _ _ _ _ => F
            rename News _ _ _ _ => N
            rw [← hl1] at c5
            have hq : (w3 (r2 * r3 * (l1 * l1)) (((0 - r2) + (0 - r3)) * l1) 1 (0 - (r0 * r1 - r2 * r3)) == 0) = (td == 0) := by rw [c4]; exact beq_iff_eq.mp c5
            have p1 := prod_bd b2.abs3 b3.abs3
            have p2 := prod_bd b0.abs3 b1.abs3
            have p3 := prod_bd p1 (prod_bd bl1 bl1)
            have p4 : (((0 - r2) + (0 - r3)) * l1).natAbs ≤ 6 * 12 := prod_bd (by unfold Root at b2 b3; omega) bl1
            refine worth_tells w _ _ _ _ _ _ _ [] _ _ _ _ _ _ _ D5 _ [r2 * r3 * (l1 * l1), ((0 - r2) + (0 - r3)) * l1, 1] (0 - (r0 * r1 - r2 * r3)) _ (Around.frames_deeper B.stack) rfl rfl rfl (by show callerA.depth + 1 + 1 < recursionLimit; decide) (by show callerA.units + 3 + 16 < cLine; decide) B F X T (News.isList N (by k_mem)) hI₈ (by simp) (fun y hy => by
              simp only [List.mem_cons, List.not_mem_nil, or_false] at hy
              rcases hy with rfl | rfl | rfl
              · exact small_abs p3 (by decide)
              · exact small_abs p4 (by decide)
              · exact ⟨by decide, by decide⟩) (by generalize r0 * r1 = x at p2 ⊢; generalize r2 * r3 = y at p1 ⊢; unfold Small; omega) ?_
            rintro tw3 _ ⟨g13, k13, rfl, v13⟩
            dsimp only at v13
            rw [worth3]
            have F13 := F.keeps v13
            have N13 := N.keeps v13
            clear F N p1 p2 p3 p4
            (try dsimp only)
            k_steps
            · show ((w3 (r2 * r3 * (l1 * l1)) (((0 - r2) + (0 - r3)) * l1) 1 (0 - (r0 * r1 - r2 * r3)) == 0) != (td == 0)) = false
              rw [hq]
              cases (td == 0) <;> rfl
            · exact ⟨_, _, rfl, fun b o e => v13 _ _ (up₇ b o e)⟩
        · rintro b _ ⟨rfl, ⟨h8, k8, rfl, u8⟩⟩
          rw [if_neg (by decide)]
          refine wpAny_execs_nil ?_
          dsimp only
          refine wpAny_execs_nil ?_
          exact ⟨rfl, ⟨_, _, rfl, u8⟩⟩
      · refine Stop.out ?_
        rename (List.getD _ (Int.toNat 1) 0 = 0) => hz1
        have hz1 : (0 - r0) + (0 - r1) - ((0 - r2) + (0 - r3)) = 0 := hz1
        have hq : ((r0 * r1 - r2 * r3) == 0) = (td == 0) := by
          rw [c4]
          rw [if_pos hz1] at c5
          exact beq_iff_eq.mp c5
        refine wpAny_If ?_
        refine viaF (fun s b s' => b = false ∧ Keeps s s') ?_ ?_
        · k_steps
          · show (((r0 * r1 - r2 * r3) == 0) != (td == 0)) = false
            rw [hq]
            cases (td == 0) <;> rfl
          · exact ⟨_, _, rfl, fun _ _ e => e⟩
        · rintro b _ ⟨rfl, ⟨h8, k8, rfl, u8⟩⟩
          rw [if_neg (by decide)]
          refine wpAny_execs_nil ?_
          dsimp only
          refine wpAny_execs_nil ?_
          exact ⟨rfl, ⟨_, _, rfl, u8⟩⟩
    rintro fl _ ⟨rfl, ⟨h14, k14, rfl, u14⟩⟩
    rename Fr _ _ _ _ => F
    rename News _ _ _ _ => N
    have F14 := F.keeps u14
    have N14 := N.keeps u14
    clear F N c5
    (try dsimp only)
    k_steps
    refine Stop.out ?_
    refine compGA (cl := [(Str.ofString "roots", s₁.heap.objs.size + 1)]) (by with_unfolding_all rfl) (by rfl) (by rfl) (by decide) (by rfl) (by rfl) ?_
    refine aft ?_
    k_steps
    rename_i h₃ tk₃ _ _ _ hrng F₃ N₃ up₃
    unfold Aft
    dsimp only
    refine wpAny_pyIter_range hrng (by decide) ?_
    dsimp only
    rw [show Builtin.Range.rangeSize 0 2 1 = ((2 : Nat) : Int) from by decide]
    have c1o := (N₃ _ (.tail _ (.tail _ (.tail _ (.tail _ (.tail _ (.tail _ (.head _)))))))).1
    have rro := (N₃ _ (.tail _ (.tail _ (.tail _ (.head _))))).1
    dsimp only at c1o rro
    have hIr : IntsAre [Value.int r0 e0, .int r1 e1, .int r2 e2, .int r3 e3, .int r4 e4] [r0, r1, r2, r3, r4] := .cons _ _ (.cons _ _ (.cons _ _ (.cons _ _ (.cons _ _ .nil))))
    have hroot : ∀ i, Root ([r0, r1, r2, r3, r4].getD i 0) := fun i => match i with
      | 0 => b0
      | 1 => b1
      | 2 => b2
      | 3 => b3
      | 4 => b4
      | _ + 5 => (show Root 0 from ⟨by decide, by decide⟩)
    have up5 := up_push h₃ { cls := .type "range_iterator", data := .fields #[rawInt 0, rawInt ((2 : Nat) : Int), rawInt 1] }
    refine ⟨2, [h₃.objs.size], fun _ => [], _, _, fun Z i y h => ∃ a vs, y = .ref a ∧ a ∉ Z ∧ h₃.get? a = none ∧ h.PlainList a (List.toArray vs) ∧
        IntsAre vs [([r0, r1, r2, r3, r4].getD (2 * i) 0 + 1) * ([r0, r1, r2, r3, r4].getD (2 * i + 1) 0 + 1), (0 - ([r0, r1, r2, r3, r4].getD (2 * i) 0 + 1)) + (0 - ([r0, r1, r2, r3, r4].getD (2 * i + 1) 0 + 1)), 1], _,
      okLocal _ (LCg.range_walks rfl 0 2) (by rw [sizeLine_eq]; decide) ?_ ?_ (fun _ => rfl) rfl rfl ?_ ?_, ?_, ns_up F₃.ns up5, ?_, ?_⟩
    · show IsRangeIter _ _ _ _ _
      simpa using Heap.get?_push_size _ rfl
    · intro b hb
      show b < (h₃.push _).objs.size
      rw [List.mem_singleton.mp hb, Heap.size_push]; exact Nat.lt_succ_self _
    · rintro Xs i y h h' ⟨a, vs, rfl, ha, hn, hl, hi⟩ hk
      exact ⟨a, vs, rfl, ha, hn, hl.at fun o e => hk a o ha e, hi⟩
    · intro C X5 k v h₄ tk₄ m₄ E4 hC hi hP hn hv hX1 hX2 hst hk
      obtain ⟨tv, rfl⟩ := hP
      rw [Int.zero_add] at hv
      have up₄ : Up h₃ h₄ := fun b o e => hk b o (fun hb => by
        have e2 := Heap.lt_size e
        rcases hX1 b hb with q | q
        · rw [List.mem_singleton.mp q] at e2; exact Nat.lt_irrefl _ e2
        · have q' : h₃.objs.size + 1 ≤ b := by rw [← Heap.size_push]; exact q
          exact Nat.lt_irrefl _ (Nat.lt_of_lt_of_le (Nat.lt_succ_of_lt e2) q')) (Heap.get?_push_of_some _ e)
      have F₄ := F₃.keeps up₄
      have X₄ := X.keeps F₄.keep
      have T₄ := T.keeps F₄.keep
      have hcr : h₄.IsCell (s₁.heap.objs.size + 1) (some (.ref Dr)) := ⟨_, up₄ _ _ c1o, dc1⟩
      have hlr : h₄.IsList Dr [Value.int r0 e0, .int r1 e1, .int r2 e2, .int r3 e3, .int r4 e4].toArray := ⟨_, up₄ _ _ rro, rfl, _, rfl⟩
      obtain ⟨ti, hti⟩ := ints_get (2 * k) hIr (by simp only [List.length_cons, List.length_nil]; omega)
      obtain ⟨tj, htj⟩ := ints_get (2 * k + 1) hIr (by simp only [List.length_cons, List.length_nil]; omega)
      have tiny1 : ∀ i, Tiny ([r0, r1, r2, r3, r4].getD i 0 + 1) := fun i => by
        have := hroot i
        unfold Root at this
        unfold Tiny
        omega
      dsimp only
      refine Call_ ?_
      refine nameGlobal X₄ T₄ (by k_is) rfl rfl rfl ?_
      refine callWith_K X₄ (by k_is) ?_
      refine spliced_more ?_
      refine Call_ ?_
      refine nameGlobal X₄ T₄ (by k_is) rfl rfl rfl ?_
      refine callWith_K X₄ (by k_is) ?_
      refine spliced_more ?_
      refine wpAny_BinOp (Subscript_ (nameCell rfl rfl rfl hcr (wpAny_BinOp (j_const fun t41 k41 => nameLocal rfl rfl hn hv (j_mul (by decide) (by decide) fun t42 k42 => ?_)))))
      rw [show (2 : Int) * (k : Int) = ((2 * k : Nat) : Int) by omega]
      refine j_item hlr (by omega) (by omega) hti ?_
      refine j_const fun t43 k43 => j_plus fun t44 k44 => ?_
      refine spliced_more ?_
      refine wpAny_BinOp (Subscript_ (nameCell rfl rfl rfl hcr (wpAny_BinOp (wpAny_BinOp (j_const fun t45 k45 => nameLocal rfl rfl hn hv (j_mul (by decide) (by decide) fun t46 k46 => j_const fun t47 k47 => j_plus fun t48 k48 => ?_))))))
      rw [show (2 : Int) * (k : Int) + 1 = ((2 * k + 1 : Nat) : Int) by omega]
      refine j_item hlr (by omega) (by omega) htj ?_
      refine j_const fun t49 k49 => j_plus fun t50 k50 => ?_
      refine spliced_none ?_
      refine ⟨X₄, ?_⟩
      refine table_tells w _ _ _ _ _ _ _ [] _ _ _ _ _ _ _ ([r0, r1, r2, r3, r4].getD (2 * k) 0 + 1) ([r0, r1, r2, r3, r4].getD (2 * k + 1) 0 + 1) _ _ (Around.frames_deeper B.stack) rfl rfl rfl (by show callerA.depth + 1 + 16 < recursionLimit; decide) (by show callerA.units + 3 + 128 < cLine; decide) B F₄ X T (tiny1 _) (tiny1 _) ?_
      rintro Dt _ ⟨ht, kt, rfl, vt⟩ nt tt'
      dsimp only at nt tt' vt
      have F₅ := F₄.keeps vt
      have X₅ := X.keeps F₅.keep
      dsimp only
      refine spliced_none ?_
      refine ⟨X₅, ?_⟩
      refine row_tells w _ _ _ _ _ _ _ [] _ _ _ _ _ _ _ Dt (tabOf ([r0, r1, r2, r3, r4].getD (2 * k) 0 + 1) ([r0, r1, r2, r3, r4].getD (2 * k + 1) 0 + 1)) _ (Around.frames_deeper B.stack) rfl rfl rfl (by show callerA.depth + 1 + 16 < recursionLimit; decide) (by show callerA.units + 3 + 128 < cLine; decide) B F₅ X T tt' ?_
      rintro Dw _ vw ⟨hw, kw, rfl, upw⟩ hDwn hplw hiw
      dsimp only at hDwn hplw upw
      have hDw4 : h₄.get? Dw = none := up_none vt hDwn
      refine ⟨kp (fun b o e => upw _ _ (vt b o e)), Dw, vw, rfl, fun hb => ?_, up_none up₄ hDw4, hplw, hiw⟩
      rcases hX2 _ hb with q | q | ⟨o, e⟩
      · have q' := List.mem_singleton.mp q
        have e : h₄.get? h₃.objs.size = some _ := hst
        rw [q', e] at hDw4; cases hDw4
      · obtain ⟨o, _, _, e, _⟩ := hn
        rw [q, e] at hDw4; cases hDw4
      · rw [e] at hDw4; cases hDw4
    · intro hm
      exact absurd (List.mem_singleton.mp hm) (Nat.ne_of_lt F₃.ns.lt)
    · rintro Xs i y h h' ⟨a, vs, rfl, ha, hn, hl, hi⟩ hk
      refine ⟨a, vs, rfl, ha, hn, hl.at fun o e => hk a o (fun q => ?_) e, hi⟩
      obtain ⟨oL, _, _, hoL, _⟩ := F₃.ns
      rw [q] at hn
      exact absurd (hn.symm.trans hoL) (by simp)
    intro Dm h₇ tk₇ ys₇ X₇ hD7 hyn7 hys7 hns7 hk₇ hDn7
    have hk8 : ∀ b o, b ≠ s₁.heap.objs.size → h₃.get? b = some o → h₇.get? b = some o := fun b o hb e => hk₇ b o hb (fun q => by
      rw [List.mem_singleton.mp q] at e
      exact Nat.lt_irrefl _ (Heap.lt_size e)) (up5 _ _ e)
    have Fm : Fr _ s₁.heap.objs.size h₇ _ := ⟨hns7, fun b o e => hk8 b o (fun q => by rw [q, Heap.get?_none_of_le F₃.above] at e; cases e) (F₃.keep b o e), F₃.above⟩
    have Nm := news_but2 N₃ hk8
    obtain ⟨vs₇, rfl⟩ : ∃ vs : List Value, ys₇ = vs.toArray := ⟨ys₇.toList, (Array.toArray_toList).symm⟩
    have hl₇ : vs₇.length = 2 := by simpa using hyn7
    obtain ⟨v1, v2, rfl⟩ : ∃ u1 u2, vs₇ = [u1, u2] := by
      match vs₇, hl₇ with
      | [a, b], _ => exact ⟨a, b, rfl⟩
    obtain ⟨rm, vm, rfl, _, nm, pm, im⟩ := hys7 0 v1 rfl
    obtain ⟨rn, vn, rfl, _, nn, pn, inn⟩ := hys7 1 v2 rfl
    have im : IntsAre vm [(r0 + 1) * (r1 + 1), (0 - (r0 + 1)) + (0 - (r1 + 1)), 1] := im
    have inn : IntsAre vn [(r2 + 1) * (r3 + 1), (0 - (r2 + 1)) + (0 - (r3 + 1)), 1] := inn
    obtain ⟨tm0, tm1', tm2', rfl⟩ := ints3 im
    obtain ⟨tn0, tn1, tn2, rfl⟩ := ints3 inn
    obtain ⟨kl7, el7⟩ := hD7
    obtain ⟨km7, em7⟩ := pm
    obtain ⟨kn7, en7⟩ := pn
    have Nd := news_put (o := listOf #[.ref rm, .ref rn] kl7) F₃ el7 (up_none up5 hDn7) (news_put (o := listOf #[.int ((r0 + 1) * (r1 + 1)) tm0, .int ((0 - (r0 + 1)) + (0 - (r1 + 1))) tm1', .int 1 tm2'] km7) F₃ em7 nm
      (news_put (o := listOf #[.int ((r2 + 1) * (r3 + 1)) tn0, .int ((0 - (r2 + 1)) + (0 - (r3 + 1))) tn1, .int 1 tn2] kn7) F₃ en7 nn Nm))
    clear Nm N₃ F₃ hk₇ hk8 hns7 hDn7 hyn7 hys7 el7 em7 en7 nm nn up5 hrng up₃ hIr hroot c1o rro hl₇
    (try (rename Fr _ _ h14 _ => zz; clear zz))
    (try (rename News _ _ h14 _ => zz; clear zz))
    (try dsimp only)
    k_steps
    refine Stop.out ?_
    refine wpAny_If ?_
    k_steps
    refine Stop.out ?_
    rename Fr _ _ _ _ => F
    rename News _ _ _ _ => N
    have q0 : ∀ {x y : Int}, Root x → Root y → Small ((x + 1) * (y + 1)) ∧ Small ((0 - (x + 1)) + (0 - (y + 1))) ∧ Small 1 := fun {x y} hx hy =>
      ⟨small_abs (prod_bd (x := x + 1) (y := y + 1) (a := 4) (b := 4) (by unfold Root at hx; omega) (by unfold Root at hy; omega)) (by decide), (by unfold Root at hx hy; unfold Small; omega), ⟨by decide, by decide⟩⟩
    refine both_tells w _ _ _ _ _ _ _ [] _ _ _ _ _ _ _ rm rn _ _ ((r0 + 1) * (r1 + 1)) ((0 - (r0 + 1)) + (0 - (r1 + 1))) 1 ((r2 + 1) * (r3 + 1)) ((0 - (r2 + 1)) + (0 - (r3 + 1))) 1 (Around.frames_deeper B.stack) rfl rfl rfl (by show callerA.depth + 1 + 6 < recursionLimit; decide) (by show callerA.units + 3 + 64 < cLine; decide) B F X T (News.isList N (by k_mem)) im (News.isList N (by k_mem)) inn (q0 b0 b1) (q0 b2 b3) ?_
    rintro tt5 _ ⟨g15, k15, rfl, v15⟩
    dsimp only at v15
    rw [sylv_eq, c6]
    have F15 := F.keeps v15
    have N15 := N.keeps v15
    clear F N v15 im inn q0
    (try dsimp only)
    k_steps
    refine Stop.out ?_
    rename_i pl _ _ hN F N _
    repeat (with_reducible (rename (_ ∧ _) => zz); clear zz)
    have habs : (1 + if [r0, r1, r2, r3, r4].getD (Int.toNat 4) 0 < 0 then -[r0, r1, r2, r3, r4].getD (Int.toNat 4) 0 else [r0, r1, r2, r3, r4].getD (Int.toNat 4) 0) = 1 + (r4.natAbs : Int) := by
      show (1 + if r4 < 0 then -r4 else r4) = 1 + (r4.natAbs : Int)
      split <;> omega
    rw [habs] at N
    have hz4 : (1 + (r4.natAbs : Int)).natAbs ≤ 4 := by unfold Root at b4; omega
    generalize 1 + (r4.natAbs : Int) = z at N hp1 hp2 hz4
    refine wpAny_If ?_
    k_steps
    refine Stop.out ?_
    rename Fr _ _ _ _ => F
    rename News _ _ _ _ => N
    have sz : Small z := small_abs hz4 (by decide)
    have plI : ∀ {t u v : Tok}, IntsAre [Value.int z t, .int 0 u, .int 1 v] [z, 0, 1] := .cons _ _ (.cons _ _ (.cons _ _ .nil))
    have smz : ∀ y ∈ [z, 0, 1], Small y := fun y hy => by
      simp only [List.mem_cons, List.not_mem_nil, or_false] at hy
      rcases hy with rfl | rfl | rfl
      · exact sz
      · exact ⟨by decide, by decide⟩
      · exact ⟨by decide, by decide⟩
    have wz : ∀ {x : Int}, Root x → (w3 z 0 1 x).natAbs ≤ 13 := fun {x} hx => by
      have h3 := prod_bd hx.abs3 hx.abs3
      unfold w3
      generalize x * x = y at h3 ⊢
      omega
    refine both_tells w _ _ _ _ _ _ _ [] _ _ _ _ _ _ _ ra pl _ _ (r0 * r1) ((0 - r0) + (0 - r1)) 1 z 0 1 (Around.frames_deeper B.stack) rfl rfl rfl (by show callerA.depth + 1 + 6 < recursionLimit; decide) (by show callerA.units + 3 + 64 < cLine; decide) B F X T (News.isList N (by k_mem)) ia (News.isList N (by k_mem)) plI ⟨sm b0 b1, sa b0 b1, ⟨by decide, by decide⟩⟩ ⟨sz, ⟨by decide, by decide⟩, ⟨by decide, by decide⟩⟩ ?_
    rintro tt6 _ ⟨g16, k16, rfl, v16⟩
    dsimp only at v16
    rw [sylv_eq]
    generalize hR : res (r0 * r1, (0 - r0) + (0 - r1), 1) (z, 0, 1) = tp at hp1 hp2 ⊢
    have F16 := F.keeps v16
    have N16 := N.keeps v16
    clear F N v16
    (try dsimp only)
    k_steps
    refine Stop.out ?_
    rename Fr _ _ _ _ => F
    rename News _ _ _ _ => N
    refine worth_tells w _ _ _ _ _ _ _ [] _ _ _ _ _ _ _ pl _ [z, 0, 1] r0 _ (Around.frames_deeper B.stack) rfl rfl rfl (by show callerA.depth + 1 + 1 < recursionLimit; decide) (by show callerA.units + 3 + 16 < cLine; decide) B F X T (News.isList N (by k_mem)) plI (by simp) smz b0.small ?_
    rintro tw5 _ ⟨g17, k17, rfl, v17⟩
    dsimp only at v17
    rw [worth3]
    have F17 := F.keeps v17
    have N17 := N.keeps v17
    clear F N v17
    (try dsimp only)
    k_steps
    refine Stop.out ?_
    rename Fr _ _ _ _ => F
    rename News _ _ _ _ => N
    refine worth_tells w _ _ _ _ _ _ _ [] _ _ _ _ _ _ _ pl _ [z, 0, 1] r1 _ (Around.frames_deeper B.stack) rfl rfl rfl (by show callerA.depth + 1 + 1 < recursionLimit; decide) (by show callerA.units + 3 + 16 < cLine; decide) B F X T (News.isList N (by k_mem)) plI (by simp) smz b1.small ?_
    rintro tw6 _ ⟨g18, k18, rfl, v18⟩
    dsimp only at v18
    rw [worth3]
    have F18 := F.keeps v18
    have N18 := N.keeps v18
    clear F N v18
    (try dsimp only)
    k_steps
    (try dsimp only)
    refine bd_mul (k := 13) (wz b0) (by decide) fun tm7 tkm7 => ?_
    rw [← hp1]
    k_steps
    refine Stop.out ?_
    rename Fr _ _ _ _ => F
    rename News _ _ _ _ => N
    refine both_tells w _ _ _ _ _ _ _ [] _ _ _ _ _ _ _ ra pl _ _ (r0 * r1) ((0 - r0) + (0 - r1)) 1 z 0 1 (Around.frames_deeper B.stack) rfl rfl rfl (by show callerA.depth + 1 + 6 < recursionLimit; decide) (by show callerA.units + 3 + 64 < cLine; decide) B F X T (News.isList N (by k_mem)) ia (News.isList N (by k_mem)) plI ⟨sm b0 b1, sa b0 b1, ⟨by decide, by decide⟩⟩ ⟨sz, ⟨by decide, by decide⟩, ⟨by decide, by decide⟩⟩ ?_
    rintro tt8 _ ⟨g19, k19, rfl, v19⟩
    dsimp only at v19
    rw [sylv_eq, hR]
    have F19 := F.keeps v19
    have N19 := N.keeps v19
    clear F N v19
    (try dsimp only)
    k_steps
    refine Stop.out ?_
    refine compG (cl := []) (by rfl) (by rfl) (by decide) ?_
    refine aft ?_
    k_steps
    rename Fr _ _ _ _ => F
    rename News _ _ _ _ => N
    unfold Aft
    dsimp only
    have hRb : g19.IsList rb [Value.int (r2 * r3) tb0, .int ((0 - r2) + (0 - r3)) tb1, .int 1 tb2].toArray := News.isList N (by k_mem)
    refine wpAny_pyIter_list hRb ?_
    dsimp only
    have hne : rb ≠ g19.objs.size := Nat.ne_of_lt (list_lt hRb)
    have up20 := up_push g19 { cls := .type "list_iterator", data := .fields #[.ref rb, .int 0 0] }
    refine ⟨3, [g19.objs.size], fun _ => [], _, _, fun _ i y _ => ∃ t, y = .int (2 * [r2 * r3, (0 - r2) + (0 - r3), 1].getD i 0) t,
      okLocal _ (Walks.list rfl g19.objs.size rb hne [Value.int (r2 * r3) tb0, .int ((0 - r2) + (0 - r3)) tb1, .int 1 tb2].toArray) (by rw [sizeLine_eq]; decide) ?_ ?_ (fun _ => rfl) rfl rfl ?_ ?_, ?_⟩
    · exact ⟨⟨_, Heap.get?_push_size _ rfl, rfl, rfl⟩, list_up hRb up20⟩
    · intro b hb
      show b < (g19.push _).objs.size
      rw [Heap.size_push]
      rcases List.mem_cons.mp hb with rfl | hb
      · exact Nat.lt_succ_self _
      · rw [List.mem_singleton.mp hb]; exact Nat.lt_succ_of_lt (list_lt hRb)
    · exact fun _ _ _ _ _ h _ => h
    · intro C X5 i v h₄ tk₄ m₄ E4 hC hi hP hn hv hX1 hX2 hst hk
      obtain ⟨te, hte⟩ := ints_get i ib (by simp only [List.length_cons, List.length_nil]; omega)
      rw [Int.toNat_natCast] at hte
      have hve : v = .int ([r2 * r3, (0 - r2) + (0 - r3), 1].getD i 0) te := by rw [hte] at hP; exact (Option.some.inj hP).symm
      subst hve
      dsimp only
      refine wpAny_BinOp (j_const fun t61 k61 => nameLocal rfl rfl hn hv (j_mul (by decide) (by decide) fun t62 k62 => ?_))
      exact ⟨kp (Up.refl _), t62, rfl⟩
    intro Dz h₇ tk₇ ys₇ X₇ hDz hyn hys hk₇ hDn
    have up₇ : Up g19 h₇ := fun b o e => hk₇ b o (fun hb => by
      rw [List.mem_singleton.mp hb] at e
      exact Nat.lt_irrefl _ (Heap.lt_size e)) (up20 _ _ e)
    obtain ⟨wt, rfl⟩ : ∃ vs : List Value, ys₇ = vs.toArray := ⟨ys₇.toList, (Array.toArray_toList).symm⟩
    have hI₇ : IntsAre wt ((List.range 3).map fun i : Nat => 2 * [r2 * r3, (0 - r2) + (0 - r3), 1].getD i 0) := ints_of_get 3 wt _ (by simpa using hyn) fun i y e => hys i y (by simpa using e)
    have hI₈ : IntsAre wt [2 * (r2 * r3), 2 * ((0 - r2) + (0 - r3)), 2 * 1] := hI₇
    obtain ⟨kz, hDo⟩ := hDz
    have F20 := F.keeps up₇
    have N20 := news_put (o := listOf wt.toArray kz) F hDo (up_none up20 hDn) (N.keeps up₇)
    clear F N hys hI₇ hyn hDn hk₇ hRb up₇ up20 hDo
    (try dsimp only)
    k_steps
    refine Stop.out ?_
    rename Fr _ _ _ _ => F
    rename News _ _ _ _ => N
    have p1 : (2 * (r2 * r3)).natAbs ≤ 2 * 9 := prod_bd (x := 2) (a := 2) (by decide) (prod_bd b2.abs3 b3.abs3)
    have p2 : (2 * ((0 - r2) + (0 - r3))).natAbs ≤ 2 * 6 := prod_bd (x := 2) (a := 2) (by decide) (by unfold Root at b2 b3; omega)
    refine both_tells w _ _ _ _ _ _ _ [] _ _ _ _ _ _ _ ra Dz _ _ (r0 * r1) ((0 - r0) + (0 - r1)) 1 (2 * (r2 * r3)) (2 * ((0 - r2) + (0 - r3))) (2 * 1) (Around.frames_deeper B.stack) rfl rfl rfl (by show callerA.depth + 1 + 6 < recursionLimit; decide) (by show callerA.units + 3 + 64 < cLine; decide) B F X T (News.isList N (by k_mem)) ia (News.isList N (by k_mem)) hI₈ ⟨sm b0 b1, sa b0 b1, ⟨by decide, by decide⟩⟩ ⟨small_abs p1 (by decide), small_abs p2 (by decide), ⟨by decide, by decide⟩⟩ ?_
    rintro tt9 _ ⟨g21, k21, rfl, v21⟩
    dsimp only at v21
    rw [sylv_eq, c7]
    have F21 := F.keeps v21
    have N21 := N.keeps v21
    clear F N v21 p1 p2
    (try dsimp only)
    k_steps)
end Mine

theorem PySem.Challenge.cw_ib0003_01_holds : PySem.Challenge.rw_ib0003_01.Holds :=
  Mine.law_walk
