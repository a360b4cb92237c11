import PyProof.Rows.All
import Wide.All
import OpenK.AllK
import Wide.FinOn
import Lean
import PySem.Challenge.RW_qh0022_01
set_option Elab.async false
set_option maxRecDepth 100000
set_option maxHeartbeats 8000000
set_option linter.unusedVariables false
/-! TopN22 -/
open PySem PySem.W PyProof.Rows
namespace Mine
/-- the statements of the top that the claim's view keeps -/
def pick (l : List Stmt) (is : List Nat) : List Stmt := is.filterMap fun i => l[i]?
noncomputable def view : Program := { PySem.Challenge.rw_qh0022_01.prog with main := { PySem.Challenge.rw_qh0022_01.prog.main with body := pick PySem.Challenge.rw_qh0022_01.prog.main.body [0, 2, 3, 4, 5, 6, 7, 8, 10, 11, 13, 14, 15, 16, 17, 18, 25, 28, 29, 30, 31, 32, 33] } }
section
set_option hygiene false in
local macro_rules | `(tactic| o_head $H) => `(tactic| (
  refine holds_open (q := Mine.view) (loose := [PySem.Str.ofString "bytes_types", PySem.Str.ofString "a2b_base64", PySem.Str.ofString "b2a_base64", PySem.Str.ofString "b64encode", PySem.Str.ofString "b64decode", PySem.Str.ofString "_initial_missing", PySem.Str.ofString "reduce"]) (Xt := fun s => xlAt Mine.view [] s && recOk (RowW.records (OpenRow.toRowW PySem.Challenge.rw_qh0022_01.row)) s) (XP := XL Mine.view []) (Yf := Hook.obs $H) (Ya := Hook.val $H) (YP := Hook.says $H) (N := 2212) ?hl (Hook.of $H) (Hook.keeps $H) (fun s e => xl_of s (Bool.and_eq_true_iff.mp e).1) XL.keeps (by rfl) (by rfl) (by rfl) (fun s e => recFacts_of (Bool.and_eq_true_iff.mp e).2) (by rfl) (by first | assumption | decide +kernel) (by decide +kernel) ⟨rfl, rfl, rfl, rfl, rfl, by decide +kernel⟩ ?hw ?hc
  (case hl => (intro w; kernel_rfl))))
open_top hd for PySem.Challenge.rw_qh0022_01
end
/-- the head has set the walker to the top; the contracts are walked below it -/
theorem walk_off : True := by
  w_top off
  trivial
end Mine
/-! Base22 -/
namespace Mine
open PySem PySem.W PySem.Spec PySem.Calls PyProof.Rows

abbrev Pg : Program := PySem.Challenge.rw_qh0022_01.row.prog

theorem News.sub {h₀ h : Heap} {L : Addr} {news news' : List (Addr × Obj)} (N : News h₀ L h news') (hs : ∀ p ∈ news, p ∈ news') : News h₀ L h news := fun p hp => N p (hs p hp)

/-- how a callee's body ends: its own ledger, and a word of the value -/
def EndC (g : Heap) (Ret : Value → List (Addr × Obj) → Prop) (s : Shared) (v : Value) (s' : Shared) : Prop :=
  ∃ L' m' news' h' tk', s' = { s with heap := h', toks := tk' } ∧ Fr g L' h' m' ∧ News g L' h' news' ∧ Ret v news'

section
variable {prog : Program} {w : World} {A₀ A : Around} {s : Shared} {base h₀ : Heap} {outer : List Env} {L : Addr} {m : Str → Option Value} {env : Env} {sub rest : List (Addr × Obj)} {K : Frag}
  {name qual : Str} {params : Arguments} {body : List Stmt} {scope : Scope} {cl : List (Str × Addr)} {dV kV doc pm cdv ct : Value} {an : Option Addr} {fo : Obj} {f : Addr} {vs : List Value} {kw : List (Str × Value)} {binds : List (Str × Value)}
  {Q E : Value → Shared → Prop} {p : Program} {loose : List Str} {mean : ExcName → Option Value} {mg mb : Str → Option Value}

theorem endC_leave {g : Heap} {Ret : Value → List (Addr × Obj) → Prop} {v : Value} {s' : Shared}
    (hg : ∀ b o, s.heap.get? b = some o → b ∉ sub.map (·.1) → g.get? b = some o)
    (N : News h₀ L s.heap (sub ++ rest)) (hdis : ∀ p ∈ rest, p.1 ∉ sub.map (·.1))
    (ret : ∀ r news' h' tk', Fr h₀ L h' m → News h₀ L h' (news' ++ rest) → (∀ p ∈ news', p.1 ∈ sub.map (·.1) ∨ s.heap.get? p.1 = none) → Ret r news' → Q r { s with heap := h', toks := tk' })
    (h : EndC g Ret s v s') :
    LeaveK h₀ L m g (fun r s' => match r with | .ok (.ret v) => Q v s' | .ok _ => False | .error e => E e s') v s' := by
  obtain ⟨L', m', news', h', tk', rfl, F', N', hr⟩ := h
  refine ⟨L', m', news', F', N', fun F₁ N₁ => ?_⟩
  refine ret v news' h' tk' F₁ (fun q hq => ?_) (fun q hq => ?_) hr
  · rcases List.mem_append.mp hq with hq | hq
    · exact N₁ q hq
    · have Nq := N q (List.mem_append_right _ hq)
      exact ⟨F'.keep _ _ (hg _ _ Nq.1 (hdis q hq)), Nq.2⟩
  · by_cases hs : q.1 ∈ sub.map (·.1)
    · exact .inl hs
    · refine .inr ?_
      cases e : s.heap.get? q.1 with
      | none => rfl
      | some o => have := hg _ _ e hs; rw [(N' q hq).2.2] at this; cases this

/-- entering a def without cells of its own (closure cl), by a part sub of the ledger -/
theorem enterP (Ret : Value → List (Addr × Obj) → Prop) (B : Below A₀ base outer h₀) (F : Fr h₀ L s.heap m) (X₀ : K.In h₀) (N : News h₀ L s.heap (sub ++ rest)) (T : Top p loose mean mg mb h₀) (hA : A.frames = some (env :: outer)) (hf : env.frame = some L) (hke : env.scope.kind = .function)
    (hdis : ∀ p ∈ rest, p.1 ∉ sub.map (·.1))
    (ho : s.heap.get? f = some fo) (hd : fo.data = .func (fnX name qual params body scope cl dV kV doc pm an cdv ct)) (hcd : s.heap.CodeRec cdv qual) (hroom : A.depth < recursionLimit)
    (hbind : BindsTo s (fnX name qual params body scope cl dV kV doc pm an cdv ct) ⟨vs, kw⟩ binds) (hloc : ∀ y ∈ binds, scope.names.lookup y.1 = some .local)
    (ret : ∀ r news' h' tk', Fr h₀ L h' m → News h₀ L h' (news' ++ rest) → (∀ p ∈ news', p.1 ∈ sub.map (·.1) ∨ s.heap.get? p.1 = none) → Ret r news' → Q r { s with heap := h', toks := tk' })
    (h : ∀ g L' h₁, Fr g L' h₁ (fun y => binds.reverse.lookup y) → News g L' h₁ sub → Below A base (env :: outer) g → K.In g → Top p loose mean mg mb g → (∀ p ∈ sub, p.1 < L') → (∀ b o, s.heap.get? b = some o → b ∉ sub.map (·.1) → g.get? b = some o) →
      wpAny (model prog w) (A.deeper (envX qual scope L' f cdv cl)) (execs body (envX qual scope L' f cdv cl))
        (fun fl s' => EndC g Ret s (match fl with | .ret v => v | _ => .none) s')
        (fun _ _ => False)
        { s with heap := h₁, toks := s.toks + binds.length })
    (hcell : ∀ x ∈ scope.names, x.2 ≠ .cell) (hco : scope.isCoroutine = false) (hgen : scope.isGenerator = false) (hk : scope.kind = .function) : wpAny (model prog w) A (call (.ref f) vs kw) Q E s := by
  refine wpAny_call ?_
  have Ns : News h₀ L s.heap sub := fun p hp => N p (List.mem_append_left _ hp)
  obtain ⟨FG, BG, st, lv⟩ := groundX (R := fun r s' => match r with | .ok (.ret v) => Q v s' | .ok _ => False | .error e => E e s') B F Ns hA hf hke
  have hg : ∀ b o, s.heap.get? b = some o → b ∉ sub.map (·.1) → (hideAll s.heap (sub.map (·.1))).get? b = some o := fun b o e hb => hideAll_get _ e hb
  refine codeAny_call_def (fd := fnX name qual params body scope cl dV kV doc pm an cdv ct) (body := body) (binds := binds) hroom ho hd (T.nolimit.keeps F.keep) hcd rfl hbind hcell hloc (fun h₁ hns hk₁ => ?_) hco hgen hk
  refine wpAny_mono (h _ s.heap.objs.size h₁ ⟨hns, fun b o e => hk₁ b o (of_hideAll _ e), Nat.le_of_eq (hideAll_size _ _)⟩
    (fun p hp => ⟨hk₁ _ _ (Ns p hp).1, Nat.ne_of_lt (Heap.lt_size (Ns p hp).1), hideAll_none _ (List.mem_map_of_mem hp)⟩) BG (X₀.keeps st) (T.keeps st) (fun p hp => Heap.lt_size (Ns p hp).1) hg) (fun fl s' hl => lv _ _ (endC_leave hg N hdis ret hl)) fun _ _ y => y.elim

/-- entering a def with cells of its own, by a part sub of the ledger -/
theorem enterC (Ret : Value → List (Addr × Obj) → Prop) (B : Below A₀ base outer h₀) (F : Fr h₀ L s.heap m) (X₀ : K.In h₀) (N : News h₀ L s.heap (sub ++ rest)) (T : Top p loose mean mg mb h₀) (hA : A.frames = some (env :: outer)) (hf : env.frame = some L) (hke : env.scope.kind = .function)
    (hdis : ∀ p ∈ rest, p.1 ∉ sub.map (·.1))
    (ho : s.heap.get? f = some fo) (hd : fo.data = .func (fnX name qual params body scope [] dV kV doc pm an cdv ct)) (hcd : s.heap.CodeRec cdv qual) (hroom : A.depth < recursionLimit)
    (hbind : BindsTo s (fnX name qual params body scope [] dV kV doc pm an cdv ct) ⟨vs, kw⟩ binds)
    (hkind : (binds.all fun y => scope.names.lookup y.1 == some .local || scope.names.lookup y.1 == some .cell) = true)
    (hnd : ((cellsFrom 0 scope.names []).map (·.1)).Nodup)
    (ret : ∀ r news' h' tk', Fr h₀ L h' m → News h₀ L h' (news' ++ rest) → (∀ p ∈ news', p.1 ∈ sub.map (·.1) ∨ s.heap.get? p.1 = none) → Ret r news' → Q r { s with heap := h', toks := tk' })
    (h : ∀ g L' h₁ tk cells, Fr g L' h₁ (bindL (envOfC qual scope L' f cdv).kindOf binds fun _ => none) → News g L' h₁ (cells ++ sub) →
      CellsAre (bindC (envOfC qual scope L' f cdv).kindOf binds fun _ => none) (cellsFrom (L' + 1) scope.names []) cells → Below A base (env :: outer) g → K.In g → Top p loose mean mg mb g → (∀ p ∈ sub, p.1 < L') → (∀ b o, s.heap.get? b = some o → b ∉ sub.map (·.1) → g.get? b = some o) →
      wpAny (model prog w) (A.deeper (envOfC qual scope L' f cdv)) (execs body (envOfC qual scope L' f cdv))
        (fun fl s' => EndC g Ret s (match fl with | .ret v => v | _ => .none) s')
        (fun _ _ => False)
        { s with heap := h₁, toks := tk })
    (hco : scope.isCoroutine = false) (hgen : scope.isGenerator = false) (hk : scope.kind = .function) : wpAny (model prog w) A (call (.ref f) vs kw) Q E s := by
  refine wpAny_call ?_
  have Ns : News h₀ L s.heap sub := fun p hp => N p (List.mem_append_left _ hp)
  obtain ⟨FG, BG, st, lv⟩ := groundX (R := fun r s' => match r with | .ok (.ret v) => Q v s' | .ok _ => False | .error e => E e s') B F Ns hA hf hke
  have hg : ∀ b o, s.heap.get? b = some o → b ∉ sub.map (·.1) → (hideAll s.heap (sub.map (·.1))).get? b = some o := fun b o e hb => hideAll_get _ e hb
  refine codeAny_call_function hroom ho hd hco hgen rfl hcd (hbind _ _ _ _ ?_)
  refine wpAny_newFunctionEnv_cells hk (kindsX hkind _) fun env' he s' x => ?_
  subst he
  refine ⟨(T.nolimit.keeps F.keep).keeps x.toInCall.keep, codeAny_func ?_⟩
  obtain ⟨h₁, tk, rfl, _⟩ := x.done
  have hk₁ := x.toInCall.keep
  obtain ⟨cells, NC, Y⟩ := Cl.news (h₀ := s.heap) (Nat.le_refl _) fun n c hm => ⟨x.cell n c (lookup_of_mem_nodup (cellsFrom_names scope.names 0 (s.heap.objs.size + 1) [] [] rfl ▸ hnd) hm), x.above n c hm⟩
  refine wpAny_mono (h _ s.heap.objs.size h₁ tk cells ⟨x.toInCall.ns, fun b o e => hk₁ b o (of_hideAll _ e), Nat.le_of_eq (hideAll_size _ _)⟩ (fun p hp => ?_) Y BG (X₀.keeps st) (T.keeps st) (fun p hp => Heap.lt_size (Ns p hp).1) hg) (fun fl s' hl => lv _ _ (endC_leave hg N hdis ret hl)) fun _ _ y => y.elim
  rcases List.mem_append.mp hp with hp | hp
  · refine ⟨(NC p hp).1, (NC p hp).2.1, ?_⟩
    cases q : (hideAll s.heap (sub.map (·.1))).get? p.1 with
    | none => rfl
    | some o => have := of_hideAll _ q; rw [(NC p hp).2.2] at this; cases this
  · exact ⟨hk₁ _ _ (Ns p hp).1, Nat.ne_of_lt (Heap.lt_size (Ns p hp).1), hideAll_none _ (List.mem_map_of_mem hp)⟩
end
section
variable {prog : Program} {w : World} {A₀ A : Around} {s : Shared} {base h₀ : Heap} {outer : List Env} {L : Addr} {m : Str → Option Value} {env : Env} {sub rest : List (Addr × Obj)} {K : Frag}
  {name qual : Str} {params : Arguments} {body : List Stmt} {scope : Scope} {dV kV doc pm cdv ct oc : Value} {an od : Option Addr} {osl : Array (Option Value)} {f : Addr} {vs : List Value} {kw : List (Str × Value)} {binds : List (Str × Value)}
  {Q E : Value → Shared → Prop} {p : Program} {loose : List Str} {mean : ExcName → Option Value} {mg mb : Str → Option Value}
theorem enterPK (Ret : Value → List (Addr × Obj) → Prop) (B : Below A₀ base outer h₀) (F : Fr h₀ L s.heap m) (X₀ : K.In h₀) (N : News h₀ L s.heap (sub ++ rest)) (T : Top p loose mean mg mb h₀) (hA : A.frames = some (env :: outer)) (hf : env.frame = some L) (hke : env.scope.kind = .function)
    (hdis : ∀ p ∈ rest, p.1 ∉ sub.map (·.1))
    (ho : K.lookup f = some ⟨oc, od, .func (fnOf name qual params body scope dV kV doc pm an cdv ct), osl⟩) (hcd : codeIn K cdv qual = true) (hroom : A.depth < recursionLimit)
    (hbind : BindsTo s (fnOf name qual params body scope dV kV doc pm an cdv ct) ⟨vs, kw⟩ binds) (hloc : ∀ y ∈ binds, scope.names.lookup y.1 = some .local)
    (ret : ∀ r news' h' tk', Fr h₀ L h' m → News h₀ L h' (news' ++ rest) → (∀ p ∈ news', p.1 ∈ sub.map (·.1) ∨ s.heap.get? p.1 = none) → Ret r news' → Q r { s with heap := h', toks := tk' })
    (h : ∀ g L' h₁, Fr g L' h₁ (fun y => binds.reverse.lookup y) → News g L' h₁ sub → Below A base (env :: outer) g → K.In g → Top p loose mean mg mb g → (∀ p ∈ sub, p.1 < L') → (∀ b o, s.heap.get? b = some o → b ∉ sub.map (·.1) → g.get? b = some o) →
      wpAny (model prog w) (A.deeper (envOf qual scope L' f cdv)) (execs body (envOf qual scope L' f cdv))
        (fun fl s' => EndC g Ret s (match fl with | .ret v => v | _ => .none) s')
        (fun _ _ => False)
        { s with heap := h₁, toks := s.toks + binds.length })
    (hco : scope.isCoroutine = false) (hgen : scope.isGenerator = false) (hk : scope.kind = .function) (hcell : ∀ x ∈ scope.names, x.2 ≠ .cell) : wpAny (model prog w) A (call (.ref f) vs kw) Q E s :=
  enterP (cl := []) Ret B F X₀ N T hA hf hke hdis ((X₀.keeps F.keep) _ _ ho) rfl (codeRec_of (X₀.keeps F.keep) hcd) hroom hbind hloc ret h hcell hco hgen hk
theorem enterCK (Ret : Value → List (Addr × Obj) → Prop) (B : Below A₀ base outer h₀) (F : Fr h₀ L s.heap m) (X₀ : K.In h₀) (N : News h₀ L s.heap (sub ++ rest)) (T : Top p loose mean mg mb h₀) (hA : A.frames = some (env :: outer)) (hf : env.frame = some L) (hke : env.scope.kind = .function)
    (hdis : ∀ p ∈ rest, p.1 ∉ sub.map (·.1))
    (ho : K.lookup f = some ⟨oc, od, .func (fnOf name qual params body scope dV kV doc pm an cdv ct), osl⟩) (hcd : codeIn K cdv qual = true) (hroom : A.depth < recursionLimit)
    (hbind : BindsTo s (fnOf name qual params body scope dV kV doc pm an cdv ct) ⟨vs, kw⟩ binds)
    (hkind : (binds.all fun y => scope.names.lookup y.1 == some .local || scope.names.lookup y.1 == some .cell) = true)
    (hnd : ((cellsFrom 0 scope.names []).map (·.1)).Nodup)
    (ret : ∀ r news' h' tk', Fr h₀ L h' m → News h₀ L h' (news' ++ rest) → (∀ p ∈ news', p.1 ∈ sub.map (·.1) ∨ s.heap.get? p.1 = none) → Ret r news' → Q r { s with heap := h', toks := tk' })
    (h : ∀ g L' h₁ tk cells, Fr g L' h₁ (bindL (envOfC qual scope L' f cdv).kindOf binds fun _ => none) → News g L' h₁ (cells ++ sub) →
      CellsAre (bindC (envOfC qual scope L' f cdv).kindOf binds fun _ => none) (cellsFrom (L' + 1) scope.names []) cells → Below A base (env :: outer) g → K.In g → Top p loose mean mg mb g → (∀ p ∈ sub, p.1 < L') → (∀ b o, s.heap.get? b = some o → b ∉ sub.map (·.1) → g.get? b = some o) →
      wpAny (model prog w) (A.deeper (envOfC qual scope L' f cdv)) (execs body (envOfC qual scope L' f cdv))
        (fun fl s' => EndC g Ret s (match fl with | .ret v => v | _ => .none) s')
        (fun _ _ => False)
        { s with heap := h₁, toks := tk })
    (hco : scope.isCoroutine = false) (hgen : scope.isGenerator = false) (hk : scope.kind = .function) : wpAny (model prog w) A (call (.ref f) vs kw) Q E s :=
  enterC Ret B F X₀ N T hA hf hke hdis ((X₀.keeps F.keep) _ _ ho) rfl (codeRec_of (X₀.keeps F.keep) hcd) hroom hbind hkind hnd ret h hco hgen hk
end
end Mine
/-! Loop22 -/
namespace Mine
open PySem PySem.W PySem.Spec PySem.Calls PyProof.Rows

structure Halt (P : Prop) : Prop where
  intro ::
  mk : P
theorem Halt.out {P : Prop} (h : P) : Halt P := ⟨h⟩

/-- the end of a turn: the loop goes on with J, or leaves -/
def TurnEnd (h₀ : Heap) (L I : Addr) (oI : Obj) (fx : List (Addr × Obj)) (J : (Str → Option Value) → List (Addr × Obj) → Prop) (s : Shared) (Q : Flow → Shared → Prop) (f : Flow) (s₂ : Shared) : Prop :=
  match f with
  | .ret v => Q (.ret v) s₂
  | .brk => Q .next s₂
  | _ => ∃ h' tk' m₂ news₂, s₂ = { s with heap := h', toks := tk' } ∧ Fr h₀ L h' m₂ ∧ News h₀ L h' ((I, oI) :: fx ++ news₂) ∧ (∀ p ∈ news₂, p.1 ≠ I) ∧ J m₂ news₂

theorem TurnEnd.go {h₀ h' : Heap} {L I : Addr} {oI : Obj} {fx all news₂ : List (Addr × Obj)} {J : (Str → Option Value) → List (Addr × Obj) → Prop} {s : Shared} {Q : Flow → Shared → Prop} {m₂ : Str → Option Value} {tk' : Nat}
    (F : Fr h₀ L h' m₂) (N : News h₀ L h' all) (hJ : J m₂ news₂) (hs : ∀ p ∈ (I, oI) :: fx ++ news₂, p ∈ all) (hn : ∀ p ∈ news₂, p.1 ≠ I) : TurnEnd h₀ L I oI fx J s Q .next { s with heap := h', toks := tk' } :=
  ⟨h', tk', m₂, news₂, rfl, F, fun p hp => N p (hs p hp), hn, hJ⟩
theorem TurnEnd.cont {h₀ h' : Heap} {L I : Addr} {oI : Obj} {fx all news₂ : List (Addr × Obj)} {J : (Str → Option Value) → List (Addr × Obj) → Prop} {s : Shared} {Q : Flow → Shared → Prop} {m₂ : Str → Option Value} {tk' : Nat}
    (F : Fr h₀ L h' m₂) (N : News h₀ L h' all) (hJ : J m₂ news₂) (hs : ∀ p ∈ (I, oI) :: fx ++ news₂, p ∈ all) (hn : ∀ p ∈ news₂, p.1 ≠ I) : TurnEnd h₀ L I oI fx J s Q .cont { s with heap := h', toks := tk' } :=
  ⟨h', tk', m₂, news₂, rfl, F, fun p hp => N p (hs p hp), hn, hJ⟩
theorem EndC.go {g h' : Heap} {L' : Addr} {m' : Str → Option Value} {news' all : List (Addr × Obj)} {Ret : Value → List (Addr × Obj) → Prop} {s : Shared} {v : Value} {tk' : Nat}
    (F : Fr g L' h' m') (N : News g L' h' all) (hr : Ret v news') (hs : ∀ p ∈ news', p ∈ all) : EndC g Ret s v { s with heap := h', toks := tk' } :=
  ⟨L', m', news', h', tk', rfl, F, fun p hp => N p (hs p hp), hr⟩

section
variable {prog : Program} {w : World} {A : Around} {s : Shared} {env : Env} {h₀ : Heap} {x : Str} {body : List Stmt} {Q : Flow → Shared → Prop} {E : Value → Shared → Prop}
theorem for_rule {I : Addr} {fp : List Addr} {n : Nat} {P : Nat → Value → Prop} {St : Nat → Heap → Prop} {m : Str → Option Value} {news fx : List (Addr × Obj)}
    (J : Nat → (Str → Option Value) → List (Addr × Obj) → Prop) (W : Walks prog w A I fp [I] n P St) (hIf : I ∈ fp)
    (hfp : ∀ b ∈ fp, b = I ∨ (∃ o, h₀.get? b = some o) ∨ ∃ o, (b, o) ∈ fx) (hlive : ∀ i h, St i h → ∃ o, h.get? I = some o)
    (hLf : env.locals ∉ fp) (hI : h₀.get? I = none) (hIx : ∀ p ∈ fx, p.1 ≠ I) (hIn : ∀ p ∈ news, p.1 ≠ I) (hst : St 0 s.heap) (F : Fr h₀ env.locals s.heap m) (N : News h₀ env.locals s.heap (fx ++ news)) (h0 : J 0 m news)
    (turn : ∀ i v m₁ news₁ oI h tk, i < n → P i v → J i m₁ news₁ → (∀ p ∈ news₁, p.1 ≠ I) → Fr h₀ env.locals h (fun y => if y = x then some v else m₁ y) → News h₀ env.locals h ((I, oI) :: fx ++ news₁) →
      wpAny (model prog w) A (execs body env) (TurnEnd h₀ env.locals I oI fx (J (i + 1)) s Q) E { s with heap := h, toks := tk })
    (done : ∀ m₁ news₁ h tk, J n m₁ news₁ → Fr h₀ env.locals h m₁ → News h₀ env.locals h (fx ++ news₁) → Q .next { s with heap := h, toks := tk }) :
    LoopAtV prog w A h₀ env x body Q E (.ref I) s := by
  refine ⟨I, fp, [I], n, P, St, m, fx ++ news, fun i m₁ l => ∃ news₁, l = fx ++ news₁ ∧ (∀ p ∈ news₁, p.1 ≠ I) ∧ J i m₁ news₁, rfl, W, hLf, ?_, ?_, hst, F, N, ⟨news, rfl, hIn, h0⟩, ?_, ?_⟩
  · intro b hb; rw [List.mem_singleton.mp hb]; exact hI
  · intro p hp hb
    rcases List.mem_append.mp hp with h | h
    · exact hIx p h (List.mem_singleton.mp hb)
    · exact hIn p h (List.mem_singleton.mp hb)
  · rintro i v m₁ l s₁ own ⟨h, tk, rfl⟩ hi hP ⟨news₁, rfl, hne, hJ⟩ hoff hofp hown hall hst₁ F₁ N₁
    obtain ⟨oI, hoI⟩ := hlive _ _ hst₁
    have hIo : (I, oI) ∈ own := hall I hIf hI oI hoI
    have hown' : ∀ p ∈ own, p ∈ (I, oI) :: fx := fun p hp => by
      rcases hfp _ (hofp p hp) with e | ⟨o, ho⟩ | ⟨o, ho⟩
      · have h2 := hown p hp
        obtain ⟨pa, po⟩ := p
        have e' : pa = I := e
        subst e'
        have h3 : some oI = some po := hoI.symm.trans h2
        cases h3
        exact List.mem_cons_self
      · have := (N₁ p (List.mem_append_left _ hp)).2.2
        rw [ho] at this; cases this
      · refine List.mem_cons.mpr (.inr ?_)
        have h1 := (N₁ (p.1, o) (List.mem_append_right _ (List.mem_append_left _ ho))).1
        have h2 := hown p hp
        rw [h1] at h2
        have h3 : p.2 = o := (Option.some.inj h2).symm
        rw [← h3] at ho; exact ho
    refine wpAny_mono (turn i v m₁ news₁ oI h tk hi hP hJ hne F₁ (fun p hp => ?_)) (fun f s₂ hf => ?_) fun _ _ e => e
    · rcases List.mem_cons.mp hp with rfl | hp
      · exact N₁ _ (List.mem_append_left _ hIo)
      · exact N₁ _ (List.mem_append_right _ hp)
    have fin : (∃ h' tk' m₂ news₂, s₂ = { s with heap := h', toks := tk' } ∧ Fr h₀ env.locals h' m₂ ∧ News h₀ env.locals h' ((I, oI) :: fx ++ news₂) ∧ (∀ p ∈ news₂, p.1 ≠ I) ∧ J (i + 1) m₂ news₂) →
        LoopStepU h₀ env.locals [I] own (fun m₁ l => ∃ news₁, l = fx ++ news₁ ∧ (∀ p ∈ news₁, p.1 ≠ I) ∧ J (i + 1) m₁ news₁) { s with heap := h, toks := tk } .next s₂ := by
      rintro ⟨h', tk', m₂, news₂, rfl, F₂, N₂, hn₂, hJ₂⟩
      refine ⟨rfl, h', tk', m₂, fx ++ news₂, rfl, F₂, fun p hp => ?_, fun p hp hb => ?_, news₂, rfl, hn₂, hJ₂⟩
      · rcases List.mem_append.mp hp with h1 | h1
        · rcases List.mem_cons.mp (hown' p h1) with rfl | h2
          · exact N₂ _ (List.mem_append_left _ (.head _))
          · exact N₂ _ (List.mem_append_left _ (.tail _ h2))
        · rcases List.mem_append.mp h1 with h2 | h2
          · exact N₂ _ (List.mem_append_left _ (.tail _ h2))
          · exact N₂ _ (List.mem_append_right _ h2)
      · rcases List.mem_append.mp hp with h1 | h1
        · exact hIx p h1 (List.mem_singleton.mp hb)
        · exact hn₂ p h1 (List.mem_singleton.mp hb)
    cases f with
    | ret v => exact .ret hf
    | brk => exact .brk hf
    | next => exact .next (fin hf)
    | cont => exact .cont (fin hf)
  · rintro h' tk m' l F' N' - ⟨news₁, rfl, -, hJ⟩
    exact done m' news₁ h' tk hJ F' N'

/-- pyIter of a list in the base heap -/
theorem iter_baseList {l : Addr} {vs : List Value} {m : Str → Option Value} {news : List (Addr × Obj)} (J : Nat → (Str → Option Value) → List (Addr × Obj) → Prop)
    (hh : A.handled = none) (hl : h₀.IsList l vs.toArray) (F : Fr h₀ env.locals s.heap m) (N : News h₀ env.locals s.heap news) (h0 : J 0 m news)
    (turn : ∀ i v m₁ news₁ I oI h tk, vs[i]? = some v → J i m₁ news₁ → (∀ p ∈ news₁, p.1 ≠ I) → Fr h₀ env.locals h (fun y => if y = x then some v else m₁ y) → News h₀ env.locals h ((I, oI) :: news₁) →
      wpAny (model prog w) A (execs body env) (TurnEnd h₀ env.locals I oI [] (J (i + 1)) s Q) E { s with heap := h, toks := tk })
    (done : ∀ m₁ news₁ h tk, J vs.length m₁ news₁ → Fr h₀ env.locals h m₁ → News h₀ env.locals h news₁ → Q .next { s with heap := h, toks := tk }) :
    wpAny (model prog w) A (pyIter (.ref l)) (fun it s₂ => LoopAtV prog w A h₀ env x body Q E it s₂) E s := by
  have hls : s.heap.IsList l vs.toArray := hl.at fun o e => F.keep l o e
  obtain ⟨ol, hol, _⟩ := id hl
  have hlt : l < h₀.objs.size := Heap.lt_size hol
  have hne : l ≠ s.heap.objs.size := Nat.ne_of_lt (Nat.lt_trans (Nat.lt_of_lt_of_le hlt F.above) F.ns.lt)
  refine wpAny_pyIter_list hls ?_
  have W := Walks.list (prog := prog) (w := w) hh s.heap.objs.size l hne vs.toArray
  have hlen : vs.toArray.size = vs.length := by simp
  rw [hlen] at W
  refine for_rule (fx := []) (news := news) (m := m) (s := { s with heap := _ }) J W (by simp) ?_ ?_ ?_ (next_is_new F) (by simp) ?_ ⟨⟨_, Heap.get?_push_size _ rfl, rfl, rfl⟩, hls.at fun o e => Heap.get?_push_of_some _ e⟩ (F.push _) (fun p hp => ⟨Heap.get?_push_of_some _ (N p hp).1, (N p hp).2⟩) h0 ?_ ?_
  · intro b hb
    rcases List.mem_cons.mp hb with e | hb
    · exact .inl e
    · exact .inr (.inl ⟨ol, (List.mem_singleton.mp hb) ▸ hol⟩)
  · rintro i h ⟨⟨o, e, _⟩, _⟩; exact ⟨o, e⟩
  · intro hm
    rcases List.mem_cons.mp hm with e | hm
    · exact absurd F.ns.lt (e ▸ Nat.lt_irrefl _)
    · exact absurd (Nat.lt_of_lt_of_le hlt F.above) ((List.mem_singleton.mp hm) ▸ Nat.lt_irrefl _)
  · intro p hp e
    exact absurd (Heap.lt_size (N p hp).1) (e ▸ Nat.lt_irrefl _)
  · intro i v m₁ news₁ oI h tk hi hP hJ hn F₁ N₁
    exact turn i v m₁ news₁ _ oI h tk (by simpa using hP) hJ hn F₁ N₁
  · intro m₁ news₁ h tk hJ F₁ N₁
    exact done m₁ news₁ h tk hJ F₁ N₁
end
/-! names, functions, tables that lie in the base heap -/
section
variable {M : Model} {A : Around} {E : Value → Shared → Prop} {s : Shared} {h₀ : Heap} {L a : Addr} {m : Str → Option Value} {cn : Str} {cs : Scope} {ccd : Value} {cl : List (Str × Addr)}
  {x : Str} {pos : Pos} {v : Value} {Q : Value → Shared → Prop} {c : Addr} {o : Obj}
theorem nameX_FB (F : Fr h₀ L s.heap m) (hc : cl.lookup x = some c) (hm : h₀.get? c = some o) (hd : o.data = .cell (some v)) (h : Q v s)
    (hk : cs.kind = .function := by rfl) (hx : (envX cn cs L a ccd cl).kindOf x = some .free := by rfl) (hb : (x == ("__debug__" : Str)) = false := by decide) (hn : (x == ("__classdict__" : Str)) = false := by decide) :
    wpAny M A (eval (.Name x pos) (envX cn cs L a ccd cl)) Q E s := wpAny_Name (wpAny_loadName_free hk hx hc ⟨o, F.keep _ _ hm, hd⟩ h hn) hb
theorem FnAt.base {h : Heap} {q : Addr} {oc : Value} {od : Option Addr} {fd : FuncData} {sl : Array (Option Value)} (F : Fr h₀ L h m) (e : h₀.get? q = some ⟨oc, od, .func fd, sl⟩) : FnAt q h := ⟨oc, od, fd, sl, F.keep _ _ e⟩
end

section
variable {prog : Program} {w : World} {A₀ A : Around} {s : Shared} {base h₀ : Heap} {outer : List Env} {L : Addr} {m : Str → Option Value} {env : Env} {sub rest : List (Addr × Obj)} {K : Frag}
  {name qual : Str} {params : Arguments} {body : Expr} {scope : Scope} {cl : List (Str × Addr)} {pm ct : Value} {c' f : Addr} {vs : List Value} {kw : List (Str × Value)} {binds : List (Str × Value)}
  {Q E : Value → Shared → Prop} {p : Program} {loose : List Str} {mean : ExcName → Option Value} {mg mb : Str → Option Value}
/-- entering a lambda, by a part sub of the ledger -/
theorem enterE (Ret : Value → List (Addr × Obj) → Prop) (B : Below A₀ base outer h₀) (F : Fr h₀ L s.heap m) (X₀ : K.In h₀) (N : News h₀ L s.heap (sub ++ rest)) (T : Top p loose mean mg mb h₀) (hA : A.frames = some (env :: outer)) (hf : env.frame = some L) (hke : env.scope.kind = .function)
    (hdis : ∀ p ∈ rest, p.1 ∉ sub.map (·.1))
    (ho : s.heap.get? f = some (kla_obj name qual params body scope cl pm c' ct)) (hcd : s.heap.CodeRec (.ref c') qual) (hroom : A.depth < recursionLimit)
    (hbind : bindArgs (kla_fn name qual params body scope cl pm (.ref c') ct) ⟨vs, kw⟩ = pure binds) (hloc : ∀ y ∈ binds, scope.names.lookup y.1 = some .local)
    (ret : ∀ r news' h' tk', Fr h₀ L h' m → News h₀ L h' (news' ++ rest) → (∀ p ∈ news', p.1 ∈ sub.map (·.1) ∨ s.heap.get? p.1 = none) → Ret r news' → Q r { s with heap := h', toks := tk' })
    (h : ∀ g L' h₁, Fr g L' h₁ (fun y => binds.reverse.lookup y) → News g L' h₁ sub → Below A base (env :: outer) g → K.In g → Top p loose mean mg mb g → (∀ p ∈ sub, p.1 < L') → (∀ b o, s.heap.get? b = some o → b ∉ sub.map (·.1) → g.get? b = some o) →
      wpAny (model prog w) (A.deeper (envX qual scope L' f (.ref c') cl)) (eval body (envX qual scope L' f (.ref c') cl))
        (fun v s' => EndC g Ret s v s')
        (fun _ _ => False)
        { s with heap := h₁, toks := s.toks + binds.length })
    (hcell : ∀ x ∈ scope.names, x.2 ≠ .cell) (hco : scope.isCoroutine = false) (hgen : scope.isGenerator = false) (hk : scope.kind = .function) : wpAny (model prog w) A (call (.ref f) vs kw) Q E s := by
  refine wpAny_call ?_
  have Ns : News h₀ L s.heap sub := fun p hp => N p (List.mem_append_left _ hp)
  obtain ⟨FG, BG, st, lv⟩ := groundX (R := fun r s' => match r with | .ok (.ret v) => Q v s' | .ok _ => False | .error e => E e s') B F Ns hA hf hke
  have hg : ∀ b o, s.heap.get? b = some o → b ∉ sub.map (·.1) → (hideAll s.heap (sub.map (·.1))).get? b = some o := fun b o e hb => hideAll_get _ e hb
  refine kla_callFunE hroom ho rfl hco hgen rfl hcd ?_
  rw [hbind]
  refine wpAny_pure (wpAny_newFunctionEnv hcell hloc (fun h₁ hns hsb => ⟨((T.nolimit).keeps F.keep).fresh _ hsb, ?_⟩) hk)
  show codeAny _ _ (.expr body (envX qual scope s.heap.objs.size f (.ref c') cl)) _ _
  have hk₁ : ∀ b o, s.heap.get? b = some o → h₁.get? b = some o := fun b o e => hsb.extBut b o (Nat.ne_of_lt (Heap.lt_size e)) (Heap.get?_push_of_some _ e)
  exact kla_codeExpr (wpAny_mono (h _ s.heap.objs.size h₁ ⟨hns, fun b o e => hk₁ b o (of_hideAll _ e), Nat.le_of_eq (hideAll_size _ _)⟩
    (fun p hp => ⟨hk₁ _ _ (Ns p hp).1, Nat.ne_of_lt (Heap.lt_size (Ns p hp).1), hideAll_none _ (List.mem_map_of_mem hp)⟩) BG (X₀.keeps st) (T.keeps st) (fun p hp => Heap.lt_size (Ns p hp).1) hg) (fun v s' hl => lv _ _ (endC_leave hg N hdis ret hl)) fun _ _ y => y.elim)
end

theorem Fr.know {h₀ h : Heap} {L : Addr} {m : Str → Option Value} {x : Str} {v : Value} (F : Fr h₀ L h m) (e : m x = some v) : Fr h₀ L h (fun y => if y = x then some v else m y) := by
  have : (fun y => if y = x then some v else m y) = m := by
    funext y
    by_cases q : y = x
    · rw [if_pos q, q, e]
    · rw [if_neg q]
  rw [this]; exact F
theorem map_off {m : Str → Option Value} {x z : Str} {e v : Option Value} (hz : m z = v) (h : z ≠ x) : (fun y => if y = x then e else m y) z = v := by
  show (if z = x then e else m z) = v
  rw [if_neg h]; exact hz

section
variable {prog : Program} {w : World} {A : Around} {s : Shared} {env : Env} {h₀ : Heap} {x : Str} {body : List Stmt} {Q : Flow → Shared → Prop} {E : Value → Shared → Prop}
/-- a for over the reversed of a list of the ledger's -/
theorem iter_rev {I l : Addr} {vs : List Value} {k : Nat} {m : Str → Option Value} {news : List (Addr × Obj)} (J : Nat → (Str → Option Value) → List (Addr × Obj) → Prop)
    (hh : A.handled = none) (F : Fr h₀ env.locals s.heap m) (N : News h₀ env.locals s.heap ((I, revObj l ((vs.length : Int) - 1)) :: (l, W.listOf vs.toArray k) :: news)) (hlI : l ≠ I) (hIn : ∀ p ∈ news, p.1 ≠ I) (h0 : J 0 m news)
    (turn : ∀ i v m₁ news₁ oI h tk, vs.reverse[i]? = some v → J i m₁ news₁ → (∀ p ∈ news₁, p.1 ≠ I) → Fr h₀ env.locals h (fun y => if y = x then some v else m₁ y) → News h₀ env.locals h ((I, oI) :: (l, W.listOf vs.toArray k) :: news₁) →
      wpAny (model prog w) A (execs body env) (TurnEnd h₀ env.locals I oI [(l, W.listOf vs.toArray k)] (J (i + 1)) s Q) E { s with heap := h, toks := tk })
    (done : ∀ m₁ news₁ h tk, J vs.length m₁ news₁ → Fr h₀ env.locals h m₁ → News h₀ env.locals h ((l, W.listOf vs.toArray k) :: news₁) → Q .next { s with heap := h, toks := tk }) :
    wpAny (model prog w) A (pyIter (.ref I)) (fun it s₂ => LoopAtV prog w A h₀ env x body Q E it s₂) E s := by
  have NI := N _ (.head _)
  have Nl := N _ (.tail _ (.head _))
  have hl : s.heap.IsList l vs.toArray := ⟨_, Nl.1, rfl, k, rfl⟩
  have hit : s.heap.IsRevIter I l ((vs.length : Int) - 1) := ⟨_, NI.1, rfl, rfl⟩
  refine wpAny_pyIter_revIter hit ?_
  have Wk := Walks.listRev (prog := prog) (w := w) hh I l hlI vs.toArray
  have hlen : vs.toArray.size = vs.length := by simp
  rw [hlen] at Wk
  refine for_rule (fx := [(l, W.listOf vs.toArray k)]) (news := news) (m := m) J Wk (by simp) ?_ ?_ ?_ NI.2.2 ?_ hIn ⟨Nat.zero_le _, ?_, hl⟩ F (fun p hp => N p (.tail _ hp)) h0 ?_ ?_
  · intro b hb
    rcases List.mem_cons.mp hb with e | hb
    · exact .inl e
    · exact .inr (.inr ⟨_, by rw [List.mem_singleton.mp hb]; exact .head _⟩)
  · rintro i h ⟨_, ⟨o, e, _⟩, _⟩; exact ⟨o, e⟩
  · intro hm
    rcases List.mem_cons.mp hm with e | hm
    · exact NI.2.1 e.symm
    · exact Nl.2.1 (List.mem_singleton.mp hm).symm
  · intro p hp; rw [List.mem_singleton.mp hp]; exact hlI
  · have e : (vs.length : Int) - 1 - ((0 : Nat) : Int) = (vs.length : Int) - 1 := by omega
    rw [e]; exact hit
  · intro i v m₁ news₁ oI h tk hi hP hJ hn F₁ N₁
    refine turn i v m₁ news₁ oI h tk ?_ hJ hn F₁ N₁
    rw [List.getElem?_reverse hi]
    simpa using hP
  · intro m₁ news₁ h tk hJ F₁ N₁
    exact done m₁ news₁ h tk hJ F₁ N₁
end

theorem map_known1 {m : Str → Option Value} {n0 : Str} {v0 : Value} (e0 : m n0 = some v0) : (fun y => if y = n0 then some v0 else m y) = m := by
  funext y
  by_cases q0 : y = n0
  · rw [if_pos q0, q0, e0]
  rw [if_neg q0]
theorem Fr.know1 {h₀ h : Heap} {L : Addr} {m : Str → Option Value} {n0 : Str} {v0 : Value} (F : Fr h₀ L h m) (e0 : m n0 = some v0) : Fr h₀ L h (fun y => if y = n0 then some v0 else m y) := by
  rw [map_known1 e0]; exact F
theorem Fr.knowL1 {h₀ h : Heap} {L : Addr} {m : Str → Option Value} {x : Str} {w : Option Value} {n0 : Str} {v0 : Value} (F : Fr h₀ L h (fun y => if y = x then w else m y)) (e0 : m n0 = some v0) : Fr h₀ L h (fun y => if y = x then w else if y = n0 then some v0 else m y) := by
  have e := map_known1 e0
  have e2 : (fun y => if y = x then w else if y = n0 then some v0 else m y) = (fun y => if y = x then w else m y) := by
    funext y; rw [congrFun e y]
  rw [e2]; exact F
theorem map_known2 {m : Str → Option Value} {n0 n1 : Str} {v0 v1 : Value} (e0 : m n0 = some v0) (e1 : m n1 = some v1) : (fun y => if y = n0 then some v0 else if y = n1 then some v1 else m y) = m := by
  funext y
  by_cases q0 : y = n0
  · rw [if_pos q0, q0, e0]
  rw [if_neg q0]
  by_cases q1 : y = n1
  · rw [if_pos q1, q1, e1]
  rw [if_neg q1]
theorem Fr.know2 {h₀ h : Heap} {L : Addr} {m : Str → Option Value} {n0 n1 : Str} {v0 v1 : Value} (F : Fr h₀ L h m) (e0 : m n0 = some v0) (e1 : m n1 = some v1) : Fr h₀ L h (fun y => if y = n0 then some v0 else if y = n1 then some v1 else m y) := by
  rw [map_known2 e0 e1]; exact F
theorem Fr.knowL2 {h₀ h : Heap} {L : Addr} {m : Str → Option Value} {x : Str} {w : Option Value} {n0 n1 : Str} {v0 v1 : Value} (F : Fr h₀ L h (fun y => if y = x then w else m y)) (e0 : m n0 = some v0) (e1 : m n1 = some v1) : Fr h₀ L h (fun y => if y = x then w else if y = n0 then some v0 else if y = n1 then some v1 else m y) := by
  have e := map_known2 e0 e1
  have e2 : (fun y => if y = x then w else if y = n0 then some v0 else if y = n1 then some v1 else m y) = (fun y => if y = x then w else m y) := by
    funext y; rw [congrFun e y]
  rw [e2]; exact F
theorem map_known3 {m : Str → Option Value} {n0 n1 n2 : Str} {v0 v1 v2 : Value} (e0 : m n0 = some v0) (e1 : m n1 = some v1) (e2 : m n2 = some v2) : (fun y => if y = n0 then some v0 else if y = n1 then some v1 else if y = n2 then some v2 else m y) = m := by
  funext y
  by_cases q0 : y = n0
  · rw [if_pos q0, q0, e0]
  rw [if_neg q0]
  by_cases q1 : y = n1
  · rw [if_pos q1, q1, e1]
  rw [if_neg q1]
  by_cases q2 : y = n2
  · rw [if_pos q2, q2, e2]
  rw [if_neg q2]
theorem Fr.know3 {h₀ h : Heap} {L : Addr} {m : Str → Option Value} {n0 n1 n2 : Str} {v0 v1 v2 : Value} (F : Fr h₀ L h m) (e0 : m n0 = some v0) (e1 : m n1 = some v1) (e2 : m n2 = some v2) : Fr h₀ L h (fun y => if y = n0 then some v0 else if y = n1 then some v1 else if y = n2 then some v2 else m y) := by
  rw [map_known3 e0 e1 e2]; exact F
theorem Fr.knowL3 {h₀ h : Heap} {L : Addr} {m : Str → Option Value} {x : Str} {w : Option Value} {n0 n1 n2 : Str} {v0 v1 v2 : Value} (F : Fr h₀ L h (fun y => if y = x then w else m y)) (e0 : m n0 = some v0) (e1 : m n1 = some v1) (e2 : m n2 = some v2) : Fr h₀ L h (fun y => if y = x then w else if y = n0 then some v0 else if y = n1 then some v1 else if y = n2 then some v2 else m y) := by
  have e := map_known3 e0 e1 e2
  have e2 : (fun y => if y = x then w else if y = n0 then some v0 else if y = n1 then some v1 else if y = n2 then some v2 else m y) = (fun y => if y = x then w else m y) := by
    funext y; rw [congrFun e y]
  rw [e2]; exact F
theorem map_known4 {m : Str → Option Value} {n0 n1 n2 n3 : Str} {v0 v1 v2 v3 : Value} (e0 : m n0 = some v0) (e1 : m n1 = some v1) (e2 : m n2 = some v2) (e3 : m n3 = some v3) : (fun y => if y = n0 then some v0 else if y = n1 then some v1 else if y = n2 then some v2 else if y = n3 then some v3 else m y) = m := by
  funext y
  by_cases q0 : y = n0
  · rw [if_pos q0, q0, e0]
  rw [if_neg q0]
  by_cases q1 : y = n1
  · rw [if_pos q1, q1, e1]
  rw [if_neg q1]
  by_cases q2 : y = n2
  · rw [if_pos q2, q2, e2]
  rw [if_neg q2]
  by_cases q3 : y = n3
  · rw [if_pos q3, q3, e3]
  rw [if_neg q3]
theorem Fr.know4 {h₀ h : Heap} {L : Addr} {m : Str → Option Value} {n0 n1 n2 n3 : Str} {v0 v1 v2 v3 : Value} (F : Fr h₀ L h m) (e0 : m n0 = some v0) (e1 : m n1 = some v1) (e2 : m n2 = some v2) (e3 : m n3 = some v3) : Fr h₀ L h (fun y => if y = n0 then some v0 else if y = n1 then some v1 else if y = n2 then some v2 else if y = n3 then some v3 else m y) := by
  rw [map_known4 e0 e1 e2 e3]; exact F
theorem Fr.knowL4 {h₀ h : Heap} {L : Addr} {m : Str → Option Value} {x : Str} {w : Option Value} {n0 n1 n2 n3 : Str} {v0 v1 v2 v3 : Value} (F : Fr h₀ L h (fun y => if y = x then w else m y)) (e0 : m n0 = some v0) (e1 : m n1 = some v1) (e2 : m n2 = some v2) (e3 : m n3 = some v3) : Fr h₀ L h (fun y => if y = x then w else if y = n0 then some v0 else if y = n1 then some v1 else if y = n2 then some v2 else if y = n3 then some v3 else m y) := by
  have e := map_known4 e0 e1 e2 e3
  have e2 : (fun y => if y = x then w else if y = n0 then some v0 else if y = n1 then some v1 else if y = n2 then some v2 else if y = n3 then some v3 else m y) = (fun y => if y = x then w else m y) := by
    funext y; rw [congrFun e y]
  rw [e2]; exact F
theorem map_known5 {m : Str → Option Value} {n0 n1 n2 n3 n4 : Str} {v0 v1 v2 v3 v4 : Value} (e0 : m n0 = some v0) (e1 : m n1 = some v1) (e2 : m n2 = some v2) (e3 : m n3 = some v3) (e4 : m n4 = some v4) : (fun y => if y = n0 then some v0 else if y = n1 then some v1 else if y = n2 then some v2 else if y = n3 then some v3 else if y = n4 then some v4 else m y) = m := by
  funext y
  by_cases q0 : y = n0
  · rw [if_pos q0, q0, e0]
  rw [if_neg q0]
  by_cases q1 : y = n1
  · rw [if_pos q1, q1, e1]
  rw [if_neg q1]
  by_cases q2 : y = n2
  · rw [if_pos q2, q2, e2]
  rw [if_neg q2]
  by_cases q3 : y = n3
  · rw [if_pos q3, q3, e3]
  rw [if_neg q3]
  by_cases q4 : y = n4
  · rw [if_pos q4, q4, e4]
  rw [if_neg q4]
theorem Fr.know5 {h₀ h : Heap} {L : Addr} {m : Str → Option Value} {n0 n1 n2 n3 n4 : Str} {v0 v1 v2 v3 v4 : Value} (F : Fr h₀ L h m) (e0 : m n0 = some v0) (e1 : m n1 = some v1) (e2 : m n2 = some v2) (e3 : m n3 = some v3) (e4 : m n4 = some v4) : Fr h₀ L h (fun y => if y = n0 then some v0 else if y = n1 then some v1 else if y = n2 then some v2 else if y = n3 then some v3 else if y = n4 then some v4 else m y) := by
  rw [map_known5 e0 e1 e2 e3 e4]; exact F
theorem Fr.knowL5 {h₀ h : Heap} {L : Addr} {m : Str → Option Value} {x : Str} {w : Option Value} {n0 n1 n2 n3 n4 : Str} {v0 v1 v2 v3 v4 : Value} (F : Fr h₀ L h (fun y => if y = x then w else m y)) (e0 : m n0 = some v0) (e1 : m n1 = some v1) (e2 : m n2 = some v2) (e3 : m n3 = some v3) (e4 : m n4 = some v4) : Fr h₀ L h (fun y => if y = x then w else if y = n0 then some v0 else if y = n1 then some v1 else if y = n2 then some v2 else if y = n3 then some v3 else if y = n4 then some v4 else m y) := by
  have e := map_known5 e0 e1 e2 e3 e4
  have e2 : (fun y => if y = x then w else if y = n0 then some v0 else if y = n1 then some v1 else if y = n2 then some v2 else if y = n3 then some v3 else if y = n4 then some v4 else m y) = (fun y => if y = x then w else m y) := by
    funext y; rw [congrFun e y]
  rw [e2]; exact F
theorem map_known6 {m : Str → Option Value} {n0 n1 n2 n3 n4 n5 : Str} {v0 v1 v2 v3 v4 v5 : Value} (e0 : m n0 = some v0) (e1 : m n1 = some v1) (e2 : m n2 = some v2) (e3 : m n3 = some v3) (e4 : m n4 = some v4) (e5 : m n5 = some v5) : (fun y => if y = n0 then some v0 else if y = n1 then some v1 else if y = n2 then some v2 else if y = n3 then some v3 else if y = n4 then some v4 else if y = n5 then some v5 else m y) = m := by
  funext y
  by_cases q0 : y = n0
  · rw [if_pos q0, q0, e0]
  rw [if_neg q0]
  by_cases q1 : y = n1
  · rw [if_pos q1, q1, e1]
  rw [if_neg q1]
  by_cases q2 : y = n2
  · rw [if_pos q2, q2, e2]
  rw [if_neg q2]
  by_cases q3 : y = n3
  · rw [if_pos q3, q3, e3]
  rw [if_neg q3]
  by_cases q4 : y = n4
  · rw [if_pos q4, q4, e4]
  rw [if_neg q4]
  by_cases q5 : y = n5
  · rw [if_pos q5, q5, e5]
  rw [if_neg q5]
theorem Fr.know6 {h₀ h : Heap} {L : Addr} {m : Str → Option Value} {n0 n1 n2 n3 n4 n5 : Str} {v0 v1 v2 v3 v4 v5 : Value} (F : Fr h₀ L h m) (e0 : m n0 = some v0) (e1 : m n1 = some v1) (e2 : m n2 = some v2) (e3 : m n3 = some v3) (e4 : m n4 = some v4) (e5 : m n5 = some v5) : Fr h₀ L h (fun y => if y = n0 then some v0 else if y = n1 then some v1 else if y = n2 then some v2 else if y = n3 then some v3 else if y = n4 then some v4 else if y = n5 then some v5 else m y) := by
  rw [map_known6 e0 e1 e2 e3 e4 e5]; exact F
theorem Fr.knowL6 {h₀ h : Heap} {L : Addr} {m : Str → Option Value} {x : Str} {w : Option Value} {n0 n1 n2 n3 n4 n5 : Str} {v0 v1 v2 v3 v4 v5 : Value} (F : Fr h₀ L h (fun y => if y = x then w else m y)) (e0 : m n0 = some v0) (e1 : m n1 = some v1) (e2 : m n2 = some v2) (e3 : m n3 = some v3) (e4 : m n4 = some v4) (e5 : m n5 = some v5) : Fr h₀ L h (fun y => if y = x then w else if y = n0 then some v0 else if y = n1 then some v1 else if y = n2 then some v2 else if y = n3 then some v3 else if y = n4 then some v4 else if y = n5 then some v5 else m y) := by
  have e := map_known6 e0 e1 e2 e3 e4 e5
  have e2 : (fun y => if y = x then w else if y = n0 then some v0 else if y = n1 then some v1 else if y = n2 then some v2 else if y = n3 then some v3 else if y = n4 then some v4 else if y = n5 then some v5 else m y) = (fun y => if y = x then w else m y) := by
    funext y; rw [congrFun e y]
  rw [e2]; exact F
theorem map_known7 {m : Str → Option Value} {n0 n1 n2 n3 n4 n5 n6 : Str} {v0 v1 v2 v3 v4 v5 v6 : Value} (e0 : m n0 = some v0) (e1 : m n1 = some v1) (e2 : m n2 = some v2) (e3 : m n3 = some v3) (e4 : m n4 = some v4) (e5 : m n5 = some v5) (e6 : m n6 = some v6) : (fun y => if y = n0 then some v0 else if y = n1 then some v1 else if y = n2 then some v2 else if y = n3 then some v3 else if y = n4 then some v4 else if y = n5 then some v5 else if y = n6 then some v6 else m y) = m := by
  funext y
  by_cases q0 : y = n0
  · rw [if_pos q0, q0, e0]
  rw [if_neg q0]
  by_cases q1 : y = n1
  · rw [if_pos q1, q1, e1]
  rw [if_neg q1]
  by_cases q2 : y = n2
  · rw [if_pos q2, q2, e2]
  rw [if_neg q2]
  by_cases q3 : y = n3
  · rw [if_pos q3, q3, e3]
  rw [if_neg q3]
  by_cases q4 : y = n4
  · rw [if_pos q4, q4, e4]
  rw [if_neg q4]
  by_cases q5 : y = n5
  · rw [if_pos q5, q5, e5]
  rw [if_neg q5]
  by_cases q6 : y = n6
  · rw [if_pos q6, q6, e6]
  rw [if_neg q6]
theorem Fr.know7 {h₀ h : Heap} {L : Addr} {m : Str → Option Value} {n0 n1 n2 n3 n4 n5 n6 : Str} {v0 v1 v2 v3 v4 v5 v6 : Value} (F : Fr h₀ L h m) (e0 : m n0 = some v0) (e1 : m n1 = some v1) (e2 : m n2 = some v2) (e3 : m n3 = some v3) (e4 : m n4 = some v4) (e5 : m n5 = some v5) (e6 : m n6 = some v6) : Fr h₀ L h (fun y => if y = n0 then some v0 else if y = n1 then some v1 else if y = n2 then some v2 else if y = n3 then some v3 else if y = n4 then some v4 else if y = n5 then some v5 else if y = n6 then some v6 else m y) := by
  rw [map_known7 e0 e1 e2 e3 e4 e5 e6]; exact F
theorem Fr.knowL7 {h₀ h : Heap} {L : Addr} {m : Str → Option Value} {x : Str} {w : Option Value} {n0 n1 n2 n3 n4 n5 n6 : Str} {v0 v1 v2 v3 v4 v5 v6 : Value} (F : Fr h₀ L h (fun y => if y = x then w else m y)) (e0 : m n0 = some v0) (e1 : m n1 = some v1) (e2 : m n2 = some v2) (e3 : m n3 = some v3) (e4 : m n4 = some v4) (e5 : m n5 = some v5) (e6 : m n6 = some v6) : Fr h₀ L h (fun y => if y = x then w else if y = n0 then some v0 else if y = n1 then some v1 else if y = n2 then some v2 else if y = n3 then some v3 else if y = n4 then some v4 else if y = n5 then some v5 else if y = n6 then some v6 else m y) := by
  have e := map_known7 e0 e1 e2 e3 e4 e5 e6
  have e2 : (fun y => if y = x then w else if y = n0 then some v0 else if y = n1 then some v1 else if y = n2 then some v2 else if y = n3 then some v3 else if y = n4 then some v4 else if y = n5 then some v5 else if y = n6 then some v6 else m y) = (fun y => if y = x then w else m y) := by
    funext y; rw [congrFun e y]
  rw [e2]; exact F
theorem map_known8 {m : Str → Option Value} {n0 n1 n2 n3 n4 n5 n6 n7 : Str} {v0 v1 v2 v3 v4 v5 v6 v7 : Value} (e0 : m n0 = some v0) (e1 : m n1 = some v1) (e2 : m n2 = some v2) (e3 : m n3 = some v3) (e4 : m n4 = some v4) (e5 : m n5 = some v5) (e6 : m n6 = some v6) (e7 : m n7 = some v7) : (fun y => if y = n0 then some v0 else if y = n1 then some v1 else if y = n2 then some v2 else if y = n3 then some v3 else if y = n4 then some v4 else if y = n5 then some v5 else if y = n6 then some v6 else if y = n7 then some v7 else m y) = m := by
  funext y
  by_cases q0 : y = n0
  · rw [if_pos q0, q0, e0]
  rw [if_neg q0]
  by_cases q1 : y = n1
  · rw [if_pos q1, q1, e1]
  rw [if_neg q1]
  by_cases q2 : y = n2
  · rw [if_pos q2, q2, e2]
  rw [if_neg q2]
  by_cases q3 : y = n3
  · rw [if_pos q3, q3, e3]
  rw [if_neg q3]
  by_cases q4 : y = n4
  · rw [if_pos q4, q4, e4]
  rw [if_neg q4]
  by_cases q5 : y = n5
  · rw [if_pos q5, q5, e5]
  rw [if_neg q5]
  by_cases q6 : y = n6
  · rw [if_pos q6, q6, e6]
  rw [if_neg q6]
  by_cases q7 : y = n7
  · rw [if_pos q7, q7, e7]
  rw [if_neg q7]
theorem Fr.know8 {h₀ h : Heap} {L : Addr} {m : Str → Option Value} {n0 n1 n2 n3 n4 n5 n6 n7 : Str} {v0 v1 v2 v3 v4 v5 v6 v7 : Value} (F : Fr h₀ L h m) (e0 : m n0 = some v0) (e1 : m n1 = some v1) (e2 : m n2 = some v2) (e3 : m n3 = some v3) (e4 : m n4 = some v4) (e5 : m n5 = some v5) (e6 : m n6 = some v6) (e7 : m n7 = some v7) : Fr h₀ L h (fun y => if y = n0 then some v0 else if y = n1 then some v1 else if y = n2 then some v2 else if y = n3 then some v3 else if y = n4 then some v4 else if y = n5 then some v5 else if y = n6 then some v6 else if y = n7 then some v7 else m y) := by
  rw [map_known8 e0 e1 e2 e3 e4 e5 e6 e7]; exact F
theorem Fr.knowL8 {h₀ h : Heap} {L : Addr} {m : Str → Option Value} {x : Str} {w : Option Value} {n0 n1 n2 n3 n4 n5 n6 n7 : Str} {v0 v1 v2 v3 v4 v5 v6 v7 : Value} (F : Fr h₀ L h (fun y => if y = x then w else m y)) (e0 : m n0 = some v0) (e1 : m n1 = some v1) (e2 : m n2 = some v2) (e3 : m n3 = some v3) (e4 : m n4 = some v4) (e5 : m n5 = some v5) (e6 : m n6 = some v6) (e7 : m n7 = some v7) : Fr h₀ L h (fun y => if y = x then w else if y = n0 then some v0 else if y = n1 then some v1 else if y = n2 then some v2 else if y = n3 then some v3 else if y = n4 then some v4 else if y = n5 then some v5 else if y = n6 then some v6 else if y = n7 then some v7 else m y) := by
  have e := map_known8 e0 e1 e2 e3 e4 e5 e6 e7
  have e2 : (fun y => if y = x then w else if y = n0 then some v0 else if y = n1 then some v1 else if y = n2 then some v2 else if y = n3 then some v3 else if y = n4 then some v4 else if y = n5 then some v5 else if y = n6 then some v6 else if y = n7 then some v7 else m y) = (fun y => if y = x then w else m y) := by
    funext y; rw [congrFun e y]
  rw [e2]; exact F

section
variable {prog : Program} {w : World} {A : Around} {s : Shared} {env : Env} {h₀ : Heap} {x : Str} {body : List Stmt} {Q : Flow → Shared → Prop} {E : Value → Shared → Prop}
/-- a for over bytes -/
theorem iter_bytes {bs : Array UInt8} {tb : Tok} {m : Str → Option Value} {news : List (Addr × Obj)} (J : Nat → (Str → Option Value) → List (Addr × Obj) → Prop)
    (hh : A.handled = none) (F : Fr h₀ env.locals s.heap m) (N : News h₀ env.locals s.heap news) (h0 : J 0 m news)
    (turn : ∀ i n u m₁ news₁ I oI h tk, (KBw.bInts bs)[i]? = some n → J i m₁ news₁ → (∀ p ∈ news₁, p.1 ≠ I) → Fr h₀ env.locals h (fun y => if y = x then some (.int n u) else m₁ y) → News h₀ env.locals h ((I, oI) :: news₁) →
      wpAny (model prog w) A (execs body env) (TurnEnd h₀ env.locals I oI [] (J (i + 1)) s Q) E { s with heap := h, toks := tk })
    (done : ∀ m₁ news₁ h tk, J bs.size m₁ news₁ → Fr h₀ env.locals h m₁ → News h₀ env.locals h news₁ → Q .next { s with heap := h, toks := tk }) :
    wpAny (model prog w) A (pyIter (.bytes bs tb)) (fun it s₂ => LoopAtV prog w A h₀ env x body Q E it s₂) E s := by
  refine KBw.pyIter_bytes ?_
  have Wk := KBw.walks (prog := prog) (w := w) hh s.heap.objs.size bs tb
  refine for_rule (fx := []) (news := news) (m := m) (s := { s with heap := _ }) J Wk (by simp) ?_ ?_ ?_ (next_is_new F) (by simp) ?_ ⟨_, Heap.get?_push_size _ rfl, rfl, rfl⟩ (F.push _) (fun p hp => ⟨Heap.get?_push_of_some _ (N p hp).1, (N p hp).2⟩) h0 ?_ ?_
  · intro b hb; exact .inl (List.mem_singleton.mp hb)
  · rintro i h ⟨o, e, _⟩; exact ⟨o, e⟩
  · intro hm; exact absurd F.ns.lt ((List.mem_singleton.mp hm) ▸ Nat.lt_irrefl _)
  · intro p hp e; exact absurd (Heap.lt_size (N p hp).1) (e ▸ Nat.lt_irrefl _)
  · rintro i v m₁ news₁ oI h tk hi ⟨c, u, hc, rfl⟩ hJ hn F₁ N₁
    exact turn i _ u m₁ news₁ _ oI h tk (KBw.ints_get hc) hJ hn F₁ N₁
  · intro m₁ news₁ h tk hJ F₁ N₁
    exact done m₁ news₁ h tk hJ F₁ N₁
end

def lamIn : List Stmt → Option (Arguments × Expr × Scope × Pos)
  | .Return (some (.Call _ (.Lambda args body sc pos :: _) _ _)) _ :: _ => some (args, body, sc, pos)
  | _ => none
def lamOf (o : Option Obj) : Option (Arguments × Expr × Scope × Pos) := match o with
  | some ⟨_, _, .func fd, _⟩ => (match fd.body with | .stmts b => lamIn b | _ => none)
  | _ => none
theorem lam_of {K : Frag} {a : Addr} {o : Obj} {r : Arguments × Expr × Scope × Pos} (h : lamOf (K.lookup a) = some r) (e : K.lookup a = some o) : lamOf (some o) = some r := e ▸ h
theorem of_lam {K : Frag} {a : Addr} {o : Obj} {r : Arguments × Expr × Scope × Pos} (e : K.lookup a = some o) (h : lamOf (some o) = some r) : lamOf (K.lookup a) = some r := e ▸ h

def nestedIn : List Stmt → Option (Arguments × List Stmt × Scope × Pos)
  | .FunctionDef _ args body _ _ _ sc _ _ pos :: _ => some (args, body, sc, pos)
  | _ :: r => nestedIn r
  | [] => none
def nested (o : Option Obj) : Option (Arguments × List Stmt × Scope × Pos) := match o with
  | some ⟨_, _, .func fd, _⟩ => (match fd.body with | .stmts b => nestedIn b | _ => none)
  | _ => none

theorem nested_of {K : Frag} {a : Addr} {o : Obj} {r : Arguments × List Stmt × Scope × Pos} (h : nested (K.lookup a) = some r) (e : K.lookup a = some o) : nested (some o) = some r := e ▸ h
theorem of_nested {K : Frag} {a : Addr} {o : Obj} {r : Arguments × List Stmt × Scope × Pos} (e : K.lookup a = some o) (h : nested (some o) = some r) : nested (K.lookup a) = some r := e ▸ h

/-- what comes back: an int and no object; a list of ints -/
def RetI (x : Int) (v : Value) (l : List (Addr × Obj)) : Prop := ∃ t, v = .int x t ∧ l = []
def RetL (ms : List Int) (v : Value) (l : List (Addr × Obj)) : Prop := ∃ a vs k, v = .ref a ∧ l = [(a, W.listOf (List.toArray vs) k)] ∧ IntsAre vs ms
theorem EndC.int {g h' : Heap} {L' : Addr} {m' : Str → Option Value} {all : List (Addr × Obj)} {s : Shared} {x y : Int} {t : Tok} {tk' : Nat}
    (F : Fr g L' h' m') (N : News g L' h' all) (e : x = y) : EndC g (RetI y) s (.int x t) { s with heap := h', toks := tk' } := .go F N ⟨t, by rw [e], rfl⟩ (fun _ h => nomatch h)
theorem EndC.list {g h' : Heap} {L' a : Addr} {m' : Str → Option Value} {all : List (Addr × Obj)} {s : Shared} {vs : List Value} {ms ns : List Int} {k : Nat} {tk' : Nat}
    (F : Fr g L' h' m') (N : News g L' h' all) (hm : (a, W.listOf (List.toArray vs) k) ∈ all) (hi : IntsAre vs ms) (e : ms = ns) : EndC g (RetL ns) s (.ref a) { s with heap := h', toks := tk' } :=
  .go (news' := [(a, W.listOf (List.toArray vs) k)]) F N ⟨a, vs, k, rfl, rfl, e ▸ hi⟩ (fun q h => by rw [List.mem_singleton.mp h]; exact hm)
end Mine
/-! Math22 -/
namespace Mine

/-- the number that figures make, the greatest first -/
def val (B : Int) (ns : List Int) : Int := ns.foldl (fun acc d => acc * B + d) 0
/-- c figures of V to the base B, the greatest first -/
def bdig (B : Int) : Nat → Int → List Int
  | 0, _ => []
  | c + 1, V => bdig B c (V / B) ++ [V % B]

theorem val_nil (B : Int) : val B [] = 0 := rfl
theorem val_snoc (B : Int) (ns : List Int) (d : Int) : val B (ns ++ [d]) = val B ns * B + d := by simp [val]
theorem val_foldl (B : Int) : ∀ (ns : List Int) (a : Int), ns.foldl (fun acc d => acc * B + d) a = a * B ^ ns.length + val B ns
  | [], a => by simp [val]
  | d :: r, a => by
    have h1 := val_foldl B r (a * B + d)
    have h2 := val_foldl B r (0 * B + d)
    simp only [List.foldl_cons, List.length_cons, val] at *
    rw [h1, h2, Int.pow_succ, Int.add_mul, Int.zero_mul, Int.zero_add, Int.mul_assoc, Int.mul_comm B]
    omega
theorem val_append (B : Int) (xs ys : List Int) : val B (xs ++ ys) = val B xs * B ^ ys.length + val B ys := by
  rw [val, List.foldl_append, val_foldl]; rfl
theorem val_cons (B : Int) (d : Int) (r : List Int) : val B (d :: r) = d * B ^ r.length + val B r := by
  have := val_append B [d] r
  simpa [val] using this

theorem ediv_ediv_pos {a b c : Int} (hb : 0 < b) : a / b / c = a / (b * c) := by
  rw [Int.ediv_ediv, if_neg (by omega), Int.sub_zero]

theorem bdig_length (B : Int) : ∀ (c : Nat) (V : Int), (bdig B c V).length = c
  | 0, _ => rfl
  | c + 1, V => by rw [bdig, List.length_append, bdig_length B c]; rfl
theorem bdig_mem {B : Int} (hB : 0 < B) : ∀ (c : Nat) (V x : Int), x ∈ bdig B c V → 0 ≤ x ∧ x < B
  | 0, _, _, h => nomatch h
  | c + 1, V, x, h => by
    rw [bdig] at h
    rcases List.mem_append.mp h with h | h
    · exact bdig_mem hB c _ _ h
    · rw [List.mem_singleton.mp h]
      exact ⟨Int.emod_nonneg _ (by omega), Int.emod_lt_of_pos _ hB⟩
theorem bdig_add {B : Int} (hB : 0 < B) (a : Nat) : ∀ (b : Nat) (V : Int), bdig B (a + b) V = bdig B a (V / B ^ b) ++ bdig B b V
  | 0, V => by simp [bdig]
  | b + 1, V => by
    rw [← Nat.add_assoc, bdig, bdig_add hB a b, bdig, ediv_ediv_pos hB, Int.pow_succ, Int.mul_comm B, List.append_assoc]
theorem emod_mul_pos {V B M : Int} (hB : 0 < B) (hM : 0 < M) : (V / B % M) * B + V % B = V % (M * B) := by
  have h1 := Int.mul_ediv_add_emod V B
  have h2 := Int.mul_ediv_add_emod (V / B) M
  have h3 := Int.emod_nonneg V (show B ≠ 0 by omega)
  have h4 := Int.emod_lt_of_pos V hB
  have h5 := Int.emod_nonneg (V / B) (show M ≠ 0 by omega)
  have h6 := Int.emod_lt_of_pos (V / B) hM
  have hMB : 0 < M * B := Int.mul_pos hM hB
  refine ((Int.ediv_emod_unique (q := V / B / M) hMB).mpr ⟨?_, ?_, ?_⟩).2.symm
  · have e : V / B % M = V / B - M * (V / B / M) := by omega
    rw [e, Int.sub_mul, Int.mul_right_comm M B, Int.mul_comm (V / B) B]
    omega
  · have := Int.mul_nonneg h5 (Int.le_of_lt hB); omega
  · have h7 : V / B % M + 1 ≤ M := by omega
    have h8 := Int.mul_le_mul_of_nonneg_right h7 (Int.le_of_lt hB)
    rw [Int.add_mul, Int.one_mul] at h8
    omega
theorem pow_pos' {B : Int} (hB : 0 < B) (c : Nat) : 0 < B ^ c := Int.pow_pos hB
theorem val_bdig {B : Int} (hB : 0 < B) : ∀ (c : Nat) (V : Int), val B (bdig B c V) = V % B ^ c
  | 0, V => by simp [bdig, val, Int.emod_one]
  | c + 1, V => by
    rw [bdig, val_snoc, val_bdig hB c, Int.pow_succ]
    exact emod_mul_pos hB (pow_pos' hB c)
theorem val_bdig_of_lt {B : Int} (hB : 0 < B) {c : Nat} {V : Int} (h0 : 0 ≤ V) (h : V < B ^ c) : val B (bdig B c V) = V := by
  rw [val_bdig hB, Int.emod_eq_of_lt h0 h]
theorem val_nonneg {B : Int} (hB : 0 < B) : ∀ (ns : List Int), (∀ x ∈ ns, 0 ≤ x ∧ x < B) → 0 ≤ val B ns ∧ val B ns < B ^ ns.length
  | [], _ => by simp [val]
  | d :: r, h => by
    have ih := val_nonneg hB r fun x hx => h x (.tail _ hx)
    have hd := h d (.head _)
    have hp := pow_pos' hB r.length
    rw [val_cons, List.length_cons, Int.pow_succ]
    have h1 := Int.mul_nonneg hd.1 (Int.le_of_lt hp)
    have h2 : d + 1 ≤ B := by omega
    have h3 := Int.mul_le_mul_of_nonneg_right h2 (Int.le_of_lt hp)
    rw [Int.add_mul, Int.one_mul, Int.mul_comm B] at h3
    omega
theorem snoc_cases {α : Type} (l : List α) : l = [] ∨ ∃ i d, l = i ++ [d] := by
  rcases List.eq_nil_or_concat l with h | ⟨i, d, h⟩
  · exact .inl h
  · exact .inr ⟨i, d, by simpa using h⟩
theorem bdig_val {B : Int} (hB : 0 < B) : ∀ (c : Nat) (ns : List Int), ns.length = c → (∀ x ∈ ns, 0 ≤ x ∧ x < B) → bdig B c (val B ns) = ns
  | 0, ns, hl, _ => by rw [List.length_eq_zero_iff.mp hl]; rfl
  | c + 1, ns, hl, h => by
    rcases snoc_cases ns with e | ⟨i, d, e⟩
    · rw [e] at hl; cases hl
    · subst e
      have hi : i.length = c := by simpa using hl
      have hd := h d (by simp)
      rw [bdig, val_snoc]
      have e1 : (val B i * B + d) / B = val B i := by
        rw [Int.add_comm, Int.add_mul_ediv_right _ _ (by omega), Int.ediv_eq_zero_of_lt hd.1 hd.2, Int.zero_add]
      have e2 : (val B i * B + d) % B = d := by
        rw [Int.add_comm, Int.add_mul_emod_self_right, Int.emod_eq_of_lt hd.1 hd.2]
      rw [e1, e2, bdig_val hB c i hi fun x hx => h x (by simp [hx])]
theorem bdig_zero {B : Int} : ∀ c : Nat, bdig B c 0 = List.replicate c 0
  | 0 => rfl
  | c + 1 => by rw [bdig, Int.zero_ediv, Int.zero_emod, bdig_zero c, List.replicate_succ']
theorem bdig_pad {B : Int} (hB : 0 < B) (a b : Nat) {V : Int} (h0 : 0 ≤ V) (h : V < B ^ b) : bdig B (a + b) V = List.replicate a 0 ++ bdig B b V := by
  rw [bdig_add hB, Int.ediv_eq_zero_of_lt h0 h, bdig_zero]
theorem bdig_mod {B : Int} (hB : 0 < B) : ∀ (c : Nat) (V : Int), bdig B c (V % B ^ c) = bdig B c V := by
  intro c V
  have h := bdig_val hB c (bdig B c V) (bdig_length B c V) (bdig_mem hB c V)
  rw [val_bdig hB] at h
  exact h
theorem bdig_take {B : Int} (hB : 0 < B) {a c : Nat} (h : a ≤ c) (V : Int) : (bdig B c V).take a = bdig B a (V / B ^ (c - a)) := by
  have e : c = a + (c - a) := by omega
  rw [show bdig B c V = bdig B (a + (c - a)) V by rw [← e], bdig_add hB, List.take_left' (bdig_length _ _ _)]
theorem bdig_drop {B : Int} (hB : 0 < B) {a c : Nat} (h : a ≤ c) (V : Int) : (bdig B c V).drop a = bdig B (c - a) V := by
  have e : c = a + (c - a) := by omega
  rw [show bdig B c V = bdig B (a + (c - a)) V by rw [← e], bdig_add hB, List.drop_left' (bdig_length _ _ _)]

/-- the sum that _law_sum makes -/
theorem sum_val (b : Int) : ∀ (ns : List Int), ((List.range ns.length).map fun k => ns.getD k 0 * b ^ (ns.length - 1 - k)).sum = val b ns
  | [] => rfl
  | d :: r => by
    rw [List.length_cons, List.range_succ_eq_map, List.map_cons, List.sum_cons, val_cons, List.map_map, ← sum_val b r]
    congr 1
    congr 1
    apply List.map_congr_left
    intro k hk
    have := List.mem_range.mp hk
    have e : r.length + 1 - 1 - k.succ = r.length - 1 - k := by omega
    show (d :: r).getD k.succ 0 * b ^ (r.length + 1 - 1 - k.succ) = _
    rw [e, List.getD_cons_succ]
end Mine
/-! Sum22 -/
namespace Mine
open PySem PySem.W PySem.Spec PySem.Calls PyProof.Rows
theorem getD_bits {ns : List Int} {j : Nat} (h : ∀ x ∈ ns, 0 ≤ x ∧ x < 256) : Builtin.Int.intBits (ns.getD j 0) ≤ 64 := by
  refine intBits_le_iff.mpr ?_
  by_cases hj : j < ns.length
  · have e : ns.getD j 0 = ns[j] := by simp [List.getD, hj]
    rw [e]
    have := h _ (List.getElem_mem hj)
    omega
  · have e : ns.getD j 0 = 0 := by simp [List.getD, Nat.not_lt.mp hj]
    rw [e]; decide
theorem sumKs (b : Int) (ns : List Int) : ((rangeKs 0 ((ns.length : Int) - 0).toNat).map fun k' => ns.getD k'.toNat 0 * b ^ ((ns.length : Int) - 1 - k').toNat).sum = val b ns := by
  rw [← sum_val b ns, rangeKs, List.map_map, show ((ns.length : Int) - 0).toNat = ns.length by omega]
  congr 1
  apply List.map_congr_left
  intro k hk
  have h1 := List.mem_range.mp hk
  have e1 : (0 + (k : Int)).toNat = k := by omega
  have e2 : ((ns.length : Int) - 1 - (0 + (k : Int))).toNat = ns.length - 1 - k := by omega
  simp only [Function.comp]
  rw [e1, e2]
theorem fillKSum22 : ∀ P : Params, Mine.hd.heap_39 P = Mine.hd.heap_39 P ∧ PySem.Challenge.rw_qh0022_01 = PySem.Challenge.rw_qh0022_01 := by k_fill; intro P; exact ⟨rfl, rfl⟩
section
local macro_rules | `(tactic| mul_fits) => `(tactic| exact PySem.IntMulOk.of_left (getD_bits (by assumption)))
set_option maxHeartbeats 8000000 in
theorem law_sum_spec {w : World} {p : Program} {loose : List Str} {mean : ExcName → Option Value} {mg mb : Str → Option Value} {dp un : Nat} {gd : Option (List Code)} {cn : Str} {cs : Scope} {a : Addr} {ccd : Value} {cl : List (Str × Addr)} {outer : List Env} {A₀ : Around} {base h₀ : Heap} {L : Addr} {m : Str → Option Value} {s : Shared} {Q E : Value → Shared → Prop}
  (B : Below A₀ base outer h₀) (F : Fr h₀ L s.heap m) (X : (hd.heap_39 w.params).In h₀) (T : Top p loose mean mg mb h₀) (hk : cs.kind = .function) {news : List (Addr × Obj)} (N : News h₀ L s.heap news)
  {l : Addr} {vs : List Value} {ns : List Int} {b : Int} {tb : Tok} (hl : s.heap.IsList l vs.toArray) (hi : IntsAre vs ns) (hlen : ns.length ≤ 200) (hns : ∀ x ∈ ns, 0 ≤ x ∧ x < 256) (hb : 0 ≤ b ∧ b ≤ 256)
  (hd : dp + 3 < recursionLimit)
  (ret : ∀ t h' tk', Fr h₀ L h' m → News h₀ L h' news → Q (.int (val b ns) t) { s with heap := h', toks := tk' }) :
  wpAny (model PySem.Challenge.rw_qh0022_01.row.prog w) (ktrTop dp un gd cn cs L a ccd cl outer) (call (.ref 172) [.ref l, .int b tb]) Q E s := by
  refine' enterCK (sub := []) (rest := news) (RetI (val b ns)) ?k1 ?k2 ?k3 ?k4 ?k5 ?kA ?kF ?kK ?kD ?k6 ?k7 ?k8 ?k9 ?kB ?kN ?kR ?_ ?c2 ?c3 ?c4
  case k1 => exact B
  case k2 => exact F
  case k3 => exact X
  case k4 => exact N
  case k5 => exact T
  case kA => exact rfl
  case kF => exact rfl
  case kK => exact hk
  case k6 => k_is
  case k7 => k_is
  case k8 => show dp < _; omega
  case k9 => first | exact BindsTo.of_eq rfl | exact binds_K (by k_in) rfl (by k_is) rfl rfl rfl
  case kB => exact rfl
  case kN => decide +kernel
  case c2 => exact rfl
  case c3 => exact rfl
  case c4 => exact rfl
  case kD => intro p hp; simp
  case kR => 
    rintro r news' h' tk' F' N' - ⟨t, rfl, rfl⟩
    exact ret t h' tk' F' N'
  intro g' L' h' tk' cells' F' N' Y' B' X' T' l1 hg'
  have hl' : g'.IsList l vs.toArray := by
    obtain ⟨o, ho, r⟩ := hl
    exact ⟨o, hg' _ _ ho (by simp), r⟩
  clear hg' ret B F X N T hl
  k_cells Y'
  (try simp only [List.cons_append, List.nil_append] at N')
  k_steps
  refine EndC.int (by assumption) (by assumption) ?_
  exact sumKs b ns
end
end Mine
/-! Oct22 -/
namespace Mine
open PySem PySem.W PySem.Spec PySem.Calls PyProof.Rows
def octs (ns : List Int) : List Int := [0, 0, 7, 251, 239, 255] ++ ns.flatMap fun x => [x.fmod 256, (x.fdiv 7).fmod 256, 255 - x.fmod 256]
def OctJ (ns : List Int) (i : Nat) (m₁ : Str → Option Value) (news₁ : List (Addr × Obj)) : Prop :=
  ∃ (u : Str → Option Value) (l' : Addr) (vs' : List Value) (k' : Nat) (os : List Int), m₁ = (fun y => if y = Str.ofString "octets" then some (.ref l') else u y) ∧ news₁ = [(l', W.listOf (List.toArray vs') k')] ∧ IntsAre vs' os ∧ os = octs (ns.take i) ∧ os.length ≤ 6 + 3 * i
theorem OctJ.mk {ns os : List Int} {i k' : Nat} {u : Str → Option Value} {l' : Addr} {vs' : List Value} (h1 : IntsAre vs' os) (h2 : os = octs (ns.take i)) (h3 : os.length ≤ 6 + 3 * i) :
    OctJ ns i (fun y => if y = Str.ofString "octets" then some (.ref l') else u y) [(l', W.listOf (List.toArray vs') k')] := ⟨u, l', vs', k', os, rfl, rfl, h1, h2, h3⟩
section
local macro_rules | `(tactic| walk_at "exec For Name Name cons nil") => `(tactic| refine Halt.mk ?_)
set_option maxHeartbeats 8000000 in
theorem law_octets_spec {w : World} {p : Program} {loose : List Str} {mean : ExcName → Option Value} {mg mb : Str → Option Value} {dp un : Nat} {gd : Option (List Code)} {cn : Str} {cs : Scope} {a : Addr} {ccd : Value} {cl : List (Str × Addr)} {outer : List Env} {A₀ : Around} {base h₀ : Heap} {L : Addr} {m : Str → Option Value} {s : Shared} {Q E : Value → Shared → Prop}
  (B : Below A₀ base outer h₀) (F : Fr h₀ L s.heap m) (X : (hd.heap_39 w.params).In h₀) (T : Top p loose mean mg mb h₀) (hk : cs.kind = .function) {news : List (Addr × Obj)} (N : News h₀ L s.heap news)
  {l : Addr} {vs : List Value} {ns : List Int} (hl : s.heap.IsList l vs.toArray) (hi : IntsAre vs ns) (hlen : ns.length ≤ 3)
  (hd : dp + 3 < recursionLimit) (hu : un + 24 < cLine)
  (ret : ∀ l' vs' k' h' tk', Fr h₀ L h' m → News h₀ L h' ((l', W.listOf vs'.toArray k') :: news) → s.heap.get? l' = none → IntsAre vs' (octs ns) → Q (.ref l') { s with heap := h', toks := tk' }) :
  wpAny (model PySem.Challenge.rw_qh0022_01.row.prog w) (ktrTop dp un gd cn cs L a ccd cl outer) (call (.ref 160) [.ref l]) Q E s := by
  refine' enterPK (sub := []) (rest := news) (fun v ns' => ∃ l' vs' k', v = .ref l' ∧ ns' = [(l', W.listOf (List.toArray vs') k')] ∧ IntsAre vs' (octs ns)) ?k1 ?k2 ?k3 ?k4 ?k5 ?kA ?kF ?kK ?kD ?k6 ?k7 ?k8 ?k9 ?kB ?kR ?_ ?c2 ?c3 ?c4 ?c5
  case k1 => exact B
  case k2 => exact F
  case k3 => exact X
  case k4 => exact N
  case k5 => exact T
  case kA => exact rfl
  case kF => exact rfl
  case kK => exact hk
  case k6 => k_is
  case k7 => k_is
  case k8 => show dp < _; omega
  case k9 => first | exact BindsTo.of_eq rfl | exact binds_K (by k_in) rfl (by k_is) rfl rfl rfl
  case kB => exact locs rfl
  case c5 => decide
  case c2 => exact rfl
  case c3 => exact rfl
  case c4 => exact rfl
  case kD => intro p hp; simp
  case kR => 
    rintro r news' h' tk' F' N' hf' ⟨l', vs', k', rfl, rfl, hi'⟩
    exact ret l' vs' k' h' tk' F' N' (by simpa using hf' (l', W.listOf (List.toArray vs') k') (by simp)) hi'
  intro g' L' h' F' N' B' X' T' l1 hg'
  have hl' : g'.IsList l vs.toArray := by
    obtain ⟨o, ho, r⟩ := hl
    exact ⟨o, hg' _ _ ho (by simp), r⟩
  clear hg' ret B F X N T hl
  k_steps
  refine Halt.out ?_
  rename Fr _ _ _ _ => Fx
  rename News _ _ _ _ => Nx
  refine For_invV g' rfl rfl ?_
  refine ld Fx rfl ?_
  refine iter_baseList (OctJ ns) rfl hl' Fx Nx (OctJ.mk (.cons _ _ (.cons _ _ (.cons _ _ (.cons _ _ (.cons _ _ (.cons _ _ .nil)))))) rfl (by simp)) ?_ ?_
  · clear Fx Nx
    rintro i v m₁ news₁ I oI h tk hv ⟨u, l', vs', k', os, rfl, rfl, hi', hos, hol⟩ hne F N
    have hll : l' ≠ I := hne _ (List.mem_singleton_self _)
    obtain ⟨n, t, rfl, hn⟩ := IntsAre.at hi i v hv
    have hil : i < ns.length := (List.getElem?_eq_some_iff.mp hn).1
    k_steps
    rename Fr _ _ _ _ => Fx
    rename News _ _ _ _ => Nx
    refine TurnEnd.go Fx Nx (OctJ.mk (k' := 0) (by assumption) ?_ ?_) ?_ ?_
    · rw [List.take_add_one, hn, hos]; simp [octs]
    · simp only [List.length_append, List.length_cons, List.length_nil]; omega
    · intro p hp
      simp only [List.cons_append, List.nil_append, List.mem_cons, List.not_mem_nil, or_false] at hp ⊢
      rcases hp with rfl | rfl <;> simp
    · intro p hp
      rw [List.mem_singleton.mp hp]
      k_ne
  · rintro m₁ news₁ h tk ⟨u, l', vs', k', os, rfl, rfl, hi', hos, hol⟩ F N
    k_steps
    refine EndC.go F N (news' := [_]) ⟨l', vs', k', rfl, rfl, ?_⟩ (fun _ h => h)
    rw [hi.length, List.take_length] at hos
    rw [← hos]; exact hi'
end
end Mine
/-! Stg22 -/
namespace Mine
open PySem PySem.W PySem.Spec PySem.Calls PyProof.Rows
theorem execs_app {env : Env} (l rest : List Stmt) : execs (l ++ rest) env = (execs l env >>= fun f => match f with | .next => execs rest env | f => pure f) := by
  induction l with
  | nil => 
    show execs rest env = (execs [] env >>= _)
    rw [execs_nil, pure_bind]
  | cons st l ih =>
    rw [List.cons_append, execs_cons, execs_cons, bind_assoc]
    congr 1
    funext f
    cases f with
    | next => exact ih
    | _ => simp only [pure_bind]
theorem execs_split {M : Model} {A : Around} {E : Value → Shared → Prop} {s : Shared} {env : Env} {Q : Flow → Shared → Prop} {b : List Stmt} (n : Nat)
    (h : wpAny M A (execs (b.take n) env) (fun f s' => match f with | .next => wpAny M A (execs (b.drop n) env) Q E s' | f => Q f s') E s) : wpAny M A (execs b env) Q E s := by
  have e := execs_app (env := env) (b.take n) (b.drop n)
  rw [List.take_append_drop] at e
  rw [e]
  refine wpAny_bind (wpAny_mono h (fun f s' hf => ?_) fun _ _ x => x)
  cases f with
  | next => exact hf
  | _ => exact wpAny_pure hf
/-- how a stage of the law's body ends: it goes on -/
def StageE (h₀ : Heap) (L : Addr) (J : (Str → Option Value) → List (Addr × Obj) → Prop) (s : Shared) (f : Flow) (s' : Shared) : Prop :=
  f = .next ∧ ∃ m' news' h' tk', s' = { s with heap := h', toks := tk' } ∧ Fr h₀ L h' m' ∧ News h₀ L h' news' ∧ J m' news'
theorem StageE.go {h₀ h' : Heap} {L : Addr} {J : (Str → Option Value) → List (Addr × Obj) → Prop} {s : Shared} {m' : Str → Option Value} {all news' : List (Addr × Obj)} {tk' : Nat}
    (F : Fr h₀ L h' m') (N : News h₀ L h' all) (hJ : J m' news') (hs : ∀ p ∈ news', p ∈ all) : StageE h₀ L J s .next { s with heap := h', toks := tk' } :=
  ⟨rfl, m', news', h', tk', rfl, F, fun p hp => N p (hs p hp), hJ⟩
theorem lookup_det {K : Frag} {f : Addr} {name qual name' qual' : Str} {params params' : Arguments} {body body' : List Stmt} {scope scope' : Scope} {dV kV doc pm cdv ct oc dV' kV' doc' pm' cdv' ct' oc' : Value} {an od an' od' : Option Addr} {osl osl' : Array (Option Value)} {P : Str → Scope → List Stmt → Prop}
    (h : K.lookup f = some ⟨oc, od, .func (fnOf name qual params body scope dV kV doc pm an cdv ct), osl⟩) (h' : K.lookup f = some ⟨oc', od', .func (fnOf name' qual' params' body' scope' dV' kV' doc' pm' an' cdv' ct'), osl'⟩) (hp : P qual' scope' body') : P qual scope body := by
  rw [h] at h'
  simp only [fnOf, Option.some.injEq, Obj.mk.injEq, Data.func.injEq, FuncData.mk.injEq] at h'
  obtain ⟨-, -, ⟨-, rfl, -, hbd, rfl, -⟩, -⟩ := h'
  cases hbd
  exact hp
def AllNe (l : Nat) : List (Addr × Obj) → Prop
  | [] => True
  | q :: r => @Ne Nat l q.1 ∧ AllNe l r
theorem News.allNe {h₀ h : Heap} {L l : Addr} : ∀ {news : List (Addr × Obj)}, News h₀ L h news → h.get? l = none → AllNe l news
  | [], _, _ => True.intro
  | q :: r, N, hl => ⟨fun e => by
      have h1 := (N q (List.mem_cons_self ..)).1
      have e' : l = q.1 := e
      rw [← e', hl] at h1
      exact absurd h1 (by simp), News.allNe (fun p hp => N p (List.mem_cons_of_mem _ hp)) hl⟩
def Sep (l : Nat) : List Nat → Prop
  | [] => True
  | q :: r => @Ne Nat l q ∧ Sep l r
theorem Sep.ne {l x : Nat} : ∀ {xs : List Nat}, Sep l xs → x ∈ xs → l ≠ x
  | _ :: _, h, .head _ => h.1
  | _ :: _, h, .tail _ hx => Sep.ne h.2 hx
theorem Sep.ne' {l x : Nat} {xs : List Nat} (h : Sep l xs) (hx : x ∈ xs) : x ≠ l := (Sep.ne h hx).symm
theorem AllNe.sep {l : Nat} : ∀ {news : List (Addr × Obj)}, AllNe l news → Sep l (news.map (·.1))
  | [], _ => True.intro
  | _ :: _, h => ⟨h.1, AllNe.sep h.2⟩
/-- the turns of a comprehension by an invariant -/
theorem compRest_inv {prog : Program} {w : World} {A : Around} {s : Shared} {h₀ : Heap} {L : Addr} {m : Str → Option Value} {env : Env} {elt : Expr} {x : Str} {scope : Scope} {cl : List (Str × Addr)} {S : List (Addr × Obj) → Prop} {P : Nat → Value → Prop} {Fin : List Value → List (Addr × Obj) → Prop} {n : Nat} {news : List (Addr × Obj)}
    (J : Nat → List Value → List (Addr × Obj) → Prop) (h0 : J 0 [] news)
    (turn : ∀ i ys news, i < n → J i ys news → ∀ v I oI C oC D m₂ h tk (E' : Value → Shared → Prop), P i v → LCg.NsObj oC m₂ → m₂ x = some v → Fr h₀ L h m → News h₀ L h ((I, oI) :: (C, oC) :: (D, LCg.lst ys) :: news) → LCg.Off3 I C D news → ((@Ne Nat I C) ∧ (@Ne Nat I D) ∧ (@Ne Nat C D)) →
      wpAny (model prog w) A (eval elt (compEnvC scope cl C env)) (LCg.CompEnd h₀ L m { s with heap := h, toks := tk } I oI C oC D (LCg.lst ys) S (fun y news' => J (i + 1) (ys ++ [y]) news')) E' { s with heap := h, toks := tk })
    (fin : ∀ ys news, J n ys news → Fin ys news) : LCg.CompRest prog w A h₀ L m env elt x scope cl s S P Fin n 0 [] news := by
  have go : ∀ k i ys news, i + k = n → J i ys news → LCg.CompRest prog w A h₀ L m env elt x scope cl s S P Fin k i ys news := by
    intro k
    induction k with
    | zero => intro i ys news hi hJ; exact fin ys news (by rw [← hi]; exact hJ)
    | succ k ih =>
      intro i ys news hi hJ
      refine LCg.CompRest.succ fun v I oI C oC D m₂ h tk E' hP hC hx F N o3 ne => ?_
      refine wpAny_mono (turn i ys news (by omega) hJ v I oI C oC D m₂ h tk E' hP hC hx F N o3 ne) (fun y s' hy => ?_) fun _ _ e => e
      obtain ⟨h', tk', news', e, F', N', o', hS, hJ'⟩ := hy
      exact ⟨h', tk', news', e, F', N', o', hS, ih (i + 1) _ _ (by omega) hJ'⟩
  exact go n 0 [] news (by omega) h0
end Mine
/-! LwA22 -/
namespace Mine
open PySem PySem.W PySem.Spec PySem.Calls PyProof.Rows
def cells5 (L : Addr) (o1 o2 o3 o4 o5 : Obj) : List (Addr × Obj) := [(L + 1 + 1 + 1 + 1 + 1, o5), (L + 1 + 1 + 1 + 1, o4), (L + 1 + 1 + 1, o3), (L + 1 + 1, o2), (L + 1, o1)]
def signsS : Str := Str.ofString "ABCDEFGHIJKLMNOPQRSTUVWXYZabcdefghijklmnopqrstuvwxyz0123456789+/"
/-- the state after the first four statements -/
def StA (L : Addr) (o4 o5 : Obj) (ds : List Int) (m' : Str → Option Value) (news' : List (Addr × Obj)) : Prop :=
  ∃ (o1 o2 o3 : Obj) (ld : Addr) (vd : List Value) (kd : Nat) (t1 t2 t3 : Tok), Sep ld [L + 1 + 1 + 1 + 1 + 1, L + 1 + 1 + 1 + 1, L + 1 + 1 + 1, L + 1 + 1, L + 1, 181, 162, 44, 37] ∧ m' (Str.ofString "drawn") = some (.ref ld) ∧ IntsAre vd ds ∧ o1.data = .cell (some (.str signsS t1)) ∧ o2.data = .cell (some (.int (val 256 ds) t2)) ∧ o3.data = .cell (some (.int ((ds.length : Int) / 3 * 4) t3)) ∧
    news' = [(L + 1 + 1 + 1 + 1 + 1, o5), (L + 1 + 1 + 1 + 1, o4), (L + 1 + 1 + 1, o3), (L + 1 + 1, o2), (L + 1, o1), (181, tabObj #[]), (162, tabObj #[]), (44, tabObj #[]), (37, tabObj #[]), (ld, W.listOf (List.toArray vd) kd)]
theorem octs_len (ns : List Int) : (octs ns).length = 6 + 3 * ns.length := by
  unfold octs
  rw [List.length_append]
  induction ns with
  | nil => rfl
  | cons a ns ih => simp only [List.flatMap_cons, List.length_append, List.length_cons, List.length_nil] at ih ⊢; omega
theorem octs_range {ns : List Int} : ∀ x ∈ octs ns, 0 ≤ x ∧ x < 256 := by
  intro x hx
  unfold octs at hx
  rcases List.mem_append.mp hx with hx | hx
  · simp only [List.mem_cons, List.not_mem_nil, or_false] at hx
    omega
  · obtain ⟨y, -, hy⟩ := List.mem_flatMap.mp hx
    have f1 := Int.fmod_nonneg_of_pos y (b := 256) (by decide)
    have f2 := Int.fmod_lt_of_pos y (b := 256) (by decide)
    have f3 := Int.fmod_nonneg_of_pos (y.fdiv 7) (b := 256) (by decide)
    have f4 := Int.fmod_lt_of_pos (y.fdiv 7) (b := 256) (by decide)
    simp only [List.mem_cons, List.not_mem_nil, or_false] at hy
    rcases hy with rfl | rfl | rfl <;> omega
theorem StA.mk' {L : Addr} {o1 o2 o3 o4 o5 : Obj} {ds : List Int} {m' : Str → Option Value} {ld : Addr} {vd : List Value} {kd : Nat} {t1 t2 t3 : Tok} {x : Int} (hsep : Sep ld [L + 1 + 1 + 1 + 1 + 1, L + 1 + 1 + 1 + 1, L + 1 + 1 + 1, L + 1 + 1, L + 1, 181, 162, 44, 37]) (e : m' (Str.ofString "drawn") = some (.ref ld)) (hi : IntsAre vd ds) (d1 : o1.data = .cell (some (.str signsS t1))) (d2 : o2.data = .cell (some (.int (val 256 ds) t2))) (d3 : o3.data = .cell (some (.int x t3))) (hx : x = (ds.length : Int) / 3 * 4) :
    StA L o4 o5 ds m' [(L + 1 + 1 + 1 + 1 + 1, o5), (L + 1 + 1 + 1 + 1, o4), (L + 1 + 1 + 1, o3), (L + 1 + 1, o2), (L + 1, o1), (181, tabObj #[]), (162, tabObj #[]), (44, tabObj #[]), (37, tabObj #[]), (ld, W.listOf (List.toArray vd) kd)] := by
  subst hx
  exact ⟨o1, o2, o3, ld, vd, kd, t1, t2, t3, hsep, e, hi, d1, d2, d3, rfl⟩
section
local macro_rules | `(tactic| walk_at "call ref") => `(tactic| refine Halt.mk ?_)
set_option maxHeartbeats 8000000 in
theorem lawA {w : World} {p : Program} {loose : List Str} {mean : ExcName → Option Value} {mg mb : Str → Option Value} {base h₀ : Heap} {L : Addr} {m : Str → Option Value} {s : Shared}
  {name qual : Str} {params : Arguments} {body : List Stmt} {scope : Scope} {dV kV doc pm cdv ct oc : Value} {an od : Option Addr} {osl : Array (Option Value)} (hb : (hd.heap_39 w.params).lookup 191 = some ⟨oc, od, .func (fnOf name qual params body scope dV kV doc pm an cdv ct), osl⟩) {fa : Addr} {cdw : Value}
  (B : Below callerA base [] h₀) (F : Fr h₀ L s.heap m) (X : (hd.heap_39 w.params).In h₀) (T : Top p loose mean mg mb h₀) (hlt : @LT.lt Nat _ 181 L)
  (C1 : CodeHd base 41 37) (C2 : CodeHd base 48 44) (C3 : CodeHd base 166 162) (C4 : CodeHd base 185 181)
  {o1 o2 o3 o4 o5 : Obj} (d1 : o1.data = .cell none) (d2 : o2.data = .cell none) (d3 : o3.data = .cell none)
  (N : News h₀ L s.heap [(L + 1 + 1 + 1 + 1 + 1, o5), (L + 1 + 1 + 1 + 1, o4), (L + 1 + 1 + 1, o3), (L + 1 + 1, o2), (L + 1, o1), (181, tabObj #[]), (162, tabObj #[]), (44, tabObj #[]), (37, tabObj #[])])
  {ls : Addr} {vs : List Value} {ns : List Int} (hl : h₀.IsList ls vs.toArray) (hi : IntsAre vs ns) (hlen : ns.length ≤ 63) (hm : m (Str.ofString "script") = some (.ref ls)) :
  wpAny (model PySem.Challenge.rw_qh0022_01.row.prog w) (callerA.deeper (envOfC qual scope L fa cdw)) (execs ((body.drop 0).take 4) (envOfC qual scope L fa cdw)) (StageE h₀ L (StA L o4 o5 (octs (ns.take 3))) s) (fun _ _ => False) s := by
  refine' lookup_det (P := fun qual scope body => wpAny (model PySem.Challenge.rw_qh0022_01.row.prog w) (callerA.deeper (envOfC qual scope L fa cdw)) (execs ((body.drop 0).take 4) (envOfC qual scope L fa cdw)) _ _ s) hb ?k6 ?_
  case k6 => k_is
  clear hb
  dsimp only [List.drop, List.take]
  replace F := Fr.know1 F hm
  clear hm
  k_steps
  refine Halt.out ?_
  rename Fr _ _ _ _ => Fx
  rename News _ _ _ _ => Nx
  rename IntsAre _ (List.take 3 ns) => hi3
  refine law_octets_spec B Fx X T rfl Nx (News.isList Nx (by k_mem)) hi3 (List.length_take_le _ _) (by decide +kernel) (by decide +kernel) ?_
  intro ld vd kd h1 tk1 F1 N1 hld hid
  have hne := News.allNe Nx hld
  simp only [AllNe] at hne
  clear Fx Nx hld
  have hdl := octs_len (List.take 3 ns)
  have hdr := octs_range (ns := List.take 3 ns)
  have h3 := List.length_take_le 3 ns
  k_steps
  refine Halt.out ?_
  rename Fr _ _ _ _ => Fx
  rename News _ _ _ _ => Nx
  refine law_sum_spec B Fx X T rfl Nx (News.isList Nx (by k_mem)) hid (by omega) hdr (by decide) (by decide +kernel) ?_
  intro tw h2 tk2 F2 N2
  clear Fx Nx
  k_steps
  rename Fr _ _ _ _ => Fx
  rename News _ _ _ _ => Nx
  refine StageE.go Fx Nx (StA.mk' ?_ rfl hid (by assumption) (by assumption) (by assumption) ?_) (by k_allIn)
  · simp only [Sep]
    simp only [and_true] at hne ⊢
    exact hne.2
  · rw [Int.fdiv_eq_ediv_of_nonneg _ (by decide)]
end
end Mine
/-! Din22 -/
namespace Mine
open PySem PySem.W PySem.Spec PySem.Calls PyProof.Rows
/-- the number of the figures x to y of a list, the least first -/
def dval (n : Int) (ns : List Int) (x y : Int) : Int := val (2 ^ n.toNat) ((ns.drop x.toNat).take (y - x).toNat).reverse
theorem two_pow_pos (n : Nat) : (0 : Int) < 2 ^ n := Int.pow_pos (by decide)
theorem pow_le {B : Int} (hB : 0 < B) {a b : Nat} (h : a ≤ b) : B ^ a ≤ B ^ b := by
  obtain ⟨c, rfl⟩ := Nat.le.dest h
  rw [Int.pow_add]
  have h4 := Int.mul_le_mul_of_nonneg_left (show (1 : Int) ≤ _ from pow_pos' hB c) (Int.le_of_lt (pow_pos' hB a))
  rwa [Int.mul_one] at h4
theorem dval_one {n : Int} {ns : List Int} {x y : Int} (hx : 0 ≤ x) (hy : x + 1 = y) (hl : y ≤ ns.length) : ns.getD x.toNat 0 = dval n ns x y := by
  have h : x.toNat < ns.length := by omega
  have e : (y - x).toNat = 1 := by omega
  have e2 : (ns.drop x.toNat).take 1 = [ns[x.toNat]] := by rw [List.drop_eq_getElem_cons h]; rfl
  rw [dval, e, e2]
  simp [val, List.getD, h]
theorem dval_bounds {n : Int} {ns : List Int} {x y : Int} (hd : ∀ d ∈ ns, 0 ≤ d ∧ d < 2 ^ n.toNat) : 0 ≤ dval n ns x y ∧ dval n ns x y < (2 ^ n.toNat) ^ (y - x).toNat := by
  have h := val_nonneg (two_pow_pos n.toNat) ((ns.drop x.toNat).take (y - x).toNat).reverse (fun d h => hd d (by
    have := List.mem_reverse.mp h
    exact List.mem_of_mem_drop (List.mem_of_mem_take this)))
  exact ⟨h.1, Int.lt_of_lt_of_le h.2 (pow_le (two_pow_pos _) (by simp only [List.length_reverse, List.length_take]; omega))⟩
theorem dval_split {n : Int} {ns : List Int} {x z y : Int} (hx : 0 ≤ x) (hz : x ≤ z) (hy : z ≤ y) (hl : y ≤ ns.length) (hn : 0 ≤ n) :
    dval n ns z y * 2 ^ ((z - x) * n).toNat + dval n ns x z = dval n ns x y := by
  have e1 : (ns.drop x.toNat).take (y - x).toNat = (ns.drop x.toNat).take (z - x).toNat ++ (ns.drop z.toNat).take (y - z).toNat := by
    have h1 : (y - x).toNat = (z - x).toNat + (y - z).toNat := by omega
    have h2 : z.toNat = x.toNat + (z - x).toNat := by omega
    rw [h1, List.take_add, List.drop_drop, ← h2]
  have e2 : ((ns.drop x.toNat).take (z - x).toNat).reverse.length = (z - x).toNat := by
    simp only [List.length_reverse, List.length_take, List.length_drop]; omega
  have e3 : ((z - x) * n).toNat = n.toNat * (z - x).toNat := by
    rw [Int.toNat_mul (by omega) hn, Nat.mul_comm]
  rw [dval, dval, dval, e1, List.reverse_append, val_append, e2, e3, Int.pow_mul]
theorem bits_of_lt {a : Int} {m : Nat} (h0 : 0 ≤ a) (h : a < 2 ^ m) : Builtin.Int.intBits a ≤ m := by
  refine intBits_le_iff.mpr ?_
  have : ((a.natAbs : Nat) : Int) < ((2 ^ m : Nat) : Int) := by
    rw [Int.natAbs_of_nonneg h0, Int.natCast_pow]; exact h
  exact_mod_cast this
theorem shift_fits {v n s : Int} {k : Nat} (h0 : 0 ≤ v) (h : v < (2 ^ n.toNat) ^ k) (hk : k ≤ 200) (hn : n ≤ 200) (hs : s ≤ 200 * 200) : (Builtin.Int.intBits v : Int) + s ≤ 2 ^ 27 := by
  have h2 : Builtin.Int.intBits v ≤ 200 * 200 := bits_of_lt h0 (Int.lt_of_lt_of_le h (by
    rw [← Int.pow_mul]
    exact pow_le (by decide) (Nat.mul_le_mul (by omega) hk)))
  have e27 : (2 : Int) ^ 27 = 134217728 := by decide
  rw [e27]; omega
section
local macro_rules | `(tactic| walk_at "binaryOp LShift int int") => `(tactic| refine Halt.mk ?_)
local macro_rules | `(tactic| walk_at "call ref") => `(tactic| refine Halt.mk ?_)
local macro_rules | `(tactic| walk_at "eval Name") => `(tactic| (k_dflt (refine' nameX_FB ?F ?c ?m ?d ?_ ?a ?b; (case a => rfl); (case b => rfl); (case F => k_asm); (case c => rfl); (case m => assumption); (case d => assumption); k_whole)))
local macro_rules | `(tactic| walk_at "callWith ref") => `(tactic| (k_dflt (refine' callWith_F ?k1 ?_; (case k1 => exact FnAt.base (by k_asm) (by assumption)); k_whole)))
local macro_rules | `(tactic| walk_at "FnAt") => `(tactic| (k_dflt (exact FnAt.base (by k_asm) (by assumption))))
set_option maxHeartbeats 8000000 in
theorem inner_d2i {w : World} {params : Arguments} {body : List Stmt} {scope : Scope} {ps : Pos} (hn : nested ((hd.heap_39 w.params).lookup 49) = some (params, body, scope, ps))
  {fi c' c1 c2 c3 l : Addr} {qual : Str} {doc pm ctv : Value} {o1 o2 o3 : Obj} {vs : List Value} {ns : List Int} {n : Int} {tn : Tok} (hi : IntsAre vs ns) (hlen : ns.length ≤ 200) (hnn : 0 ≤ n ∧ n ≤ 200) (hds : ∀ x ∈ ns, 0 ≤ x ∧ x < 2 ^ n.toNat)
  (hd1 : o1.data = .cell (some (.int n tn))) (hd2 : o2.data = .cell (some (.ref fi))) (hd3 : o3.data = .cell (some (.ref l))) (k : Nat) :
  ∀ {p : Program} {loose : List Str} {mean : ExcName → Option Value} {mg mb : Str → Option Value} {dp un : Nat} {gd : Option (List Code)} {cn : Str} {cs : Scope} {a : Addr} {ccd : Value} {cl : List (Str × Addr)} {outer : List Env} {A₀ : Around} {base h₀ : Heap} {L : Addr} {m : Str → Option Value} {s : Shared} {Q E : Value → Shared → Prop}
  (_B : Below A₀ base outer h₀) (_F : Fr h₀ L s.heap m) (_X : (hd.heap_39 w.params).In h₀) (_T : Top p loose mean mg mb h₀) (_hk : cs.kind = .function) {news : List (Addr × Obj)} (_N : News h₀ L s.heap news)
  (_hf : s.heap.get? fi = some (fnMade (Str.ofString "inner") qual params body scope [(Str.ofString "n", c1), (Str.ofString "inner", c2), (Str.ofString "digits", c3)] doc pm c' ctv)) (_hc : s.heap.CodeRec (.ref c') qual)
  (_h1 : s.heap.get? c1 = some o1) (_h2 : s.heap.get? c2 = some o2) (_h3 : s.heap.get? c3 = some o3) (_hl : s.heap.IsList l vs.toArray)
  {x y : Int} {tx ty : Tok} (_hx : 0 ≤ x) (_hxy : x < y) (_hy : y ≤ ns.length) (_hky : y - x ≤ k) (_hd : dp + k < recursionLimit)
  (_ret : ∀ t h' tk', Fr h₀ L h' m → News h₀ L h' news → Q (.int (dval n ns x y) t) { s with heap := h', toks := tk' }),
  wpAny (model PySem.Challenge.rw_qh0022_01.row.prog w) (ktrTop dp un gd cn cs L a ccd cl outer) (call (.ref fi) [.int x tx, .int y ty]) Q E s := by
  replace hn := nested_of hn (by k_is)
  dsimp only [nested, nestedIn] at hn
  cases hn
  induction k with
  | zero => intros; omega
  | succ k IH =>
    intro p loose mean mg mb dp un gd cn cs a ccd cl outer A₀ base h₀ L m s Q E B F X T hk news N hf hc h1 h2 h3 hl x y tx ty hx hxy hy hky hd ret
    refine' enterP (sub := []) (rest := news) (RetI (dval n ns x y)) B F X N T rfl rfl hk ?kD hf rfl hc ?k8 ?k9 ?kB ?kR ?_ ?c5 ?c2 ?c3 ?c4
    case k8 => show dp < _; omega
    case k9 => exact BindsTo.of_eq rfl
    case kB => exact locs rfl
    case c5 => decide
    case c2 => exact rfl
    case c3 => exact rfl
    case c4 => exact rfl
    case kD => intro p hp; simp
    case kR => 
      rintro r news' h' tk' F' N' hf' ⟨t, rfl, rfl⟩
      exact ret t h' tk' F' N'
    intro g' L' h' F' N' B' X' T' l1 hg'
    have hl' : g'.IsList l vs.toArray := by
      obtain ⟨o, ho, r⟩ := hl
      exact ⟨o, hg' _ _ ho (by simp), r⟩
    have hf' := hg' _ _ hf (by simp)
    have h1' := hg' _ _ h1 (by simp)
    have h2' := hg' _ _ h2 (by simp)
    have h3' := hg' _ _ h3 (by simp)
    have hc' : g'.CodeRec (.ref c') qual := by
      obtain ⟨a1, a2, a3, a4, e1, e2, r⟩ := hc
      exact ⟨a1, a2, a3, a4, e1, hg' _ _ e2 (by simp), r⟩
    clear hg' ret B F X N T hl hf h1 h2 h3 hc
    k_steps
    · refine EndC.int (by assumption) (by assumption) (dval_one hx (by assumption) hy)
    · rename Fr _ _ _ _ => Fx
      rename News _ _ _ _ => Nx
      refine Halt.out ?_
      have hz1 : x < (x + y).fdiv (2 ^ (Int.toNat 1)) := by rw [show (2 : Int) ^ (Int.toNat 1) = 2 from rfl, Int.fdiv_eq_ediv_of_nonneg _ (by decide)]; omega
      have hz2 : (x + y).fdiv (2 ^ (Int.toNat 1)) < y := by rw [show (2 : Int) ^ (Int.toNat 1) = 2 from rfl, Int.fdiv_eq_ediv_of_nonneg _ (by decide)]; omega
      refine IH B' Fx X' T' rfl Nx (Fx.keep _ _ hf') (hc'.keeps Fx.keep) (Fx.keep _ _ h1') (Fx.keep _ _ h2') (Fx.keep _ _ h3') (hl'.at fun o e => Fx.keep _ o e) (Int.le_trans hx (Int.le_of_lt hz1)) hz2 hy (by omega) (by show dp + 1 + k < _; omega) ?_
      intro t1 h1x tk1 F1 N1
      clear Fx Nx
      k_steps
      have hb := dval_bounds (n := n) (ns := ns) (x := (x + y).fdiv (2 ^ (Int.toNat 1))) (y := y) hds
      have hs0 : 0 ≤ ((x + y).fdiv (2 ^ (Int.toNat 1)) - x) * n := Int.mul_nonneg (by omega) hnn.1
      have hs1 : ((x + y).fdiv (2 ^ (Int.toNat 1)) - x) * n ≤ 200 * 200 := Int.mul_le_mul (by omega) hnn.2 hnn.1 (by omega)
      refine Halt.out (lshift_int hs0 (shift_fits hb.1 hb.2 (by omega) hnn.2 hs1) ?_)
      k_steps
      rename Fr _ _ _ _ => Fx
      rename News _ _ _ _ => Nx
      refine Halt.out ?_
      refine IH B' Fx X' T' rfl Nx (Fx.keep _ _ hf') (hc'.keeps Fx.keep) (Fx.keep _ _ h1') (Fx.keep _ _ h2') (Fx.keep _ _ h3') (hl'.at fun o e => Fx.keep _ o e) hx hz1 (by omega) (by omega) (by show dp + 1 + k < _; omega) ?_
      intro t2 h2x tk2 F2 N2
      clear Fx Nx
      k_steps
      exact EndC.int (by assumption) (by assumption) (dval_split hx (by omega) (by omega) hy hnn.1)
end
end Mine
/-! Dig22 -/
namespace Mine
open PySem PySem.W PySem.Spec PySem.Calls PyProof.Rows
/-- the table of a def's own code, once its inner def is made -/
def Tab1 (P : Addr) (line col : Int) (qual : Str) (l : List (Addr × Obj)) : Prop :=
  ∃ c' oc vs t, l = [(P, tabObj #[rawInt line, rawInt col, .ref c']), (c', oc)] ∧ oc.data = .fields vs ∧ vs[1]? = some (.str qual t)
def RetIT (P : Addr) (line col : Int) (qual : Str) (x : Int) (v : Value) (l : List (Addr × Obj)) : Prop := ∃ t, v = .int x t ∧ Tab1 P line col qual l
theorem EndC.intT {g h' : Heap} {L' P c' : Addr} {m' : Str → Option Value} {all : List (Addr × Obj)} {s : Shared} {x y line col : Int} {t tq : Tok} {tk' : Nat} {ps vs : Array Value} {oc : Obj} {q qual : Str}
    (F : Fr g L' h' m') (N : News g L' h' all) (e : x = y) (hm1 : (P, tabObj ps) ∈ all) (hps : ps = #[rawInt line, rawInt col, .ref c']) (hm2 : (c', oc) ∈ all) (d1 : oc.data = .fields vs) (d2 : vs[1]? = some (.str q tq)) (hq : q = qual) :
    EndC g (RetIT P line col qual y) s (.int x t) { s with heap := h', toks := tk' } :=
  .go (news' := [(P, tabObj ps), (c', oc)]) F N ⟨t, by rw [e], c', oc, vs, tq, by rw [hps], d1, by rw [← hq]; exact d2⟩ (fun p hp => by
    rcases List.mem_cons.mp hp with rfl | hp
    · exact hm1
    · rw [List.mem_singleton.mp hp]; exact hm2)
def RetIS (sub : List (Addr × Obj)) (x : Int) (v : Value) (l : List (Addr × Obj)) : Prop := ∃ t, v = .int x t ∧ l = sub
theorem EndC.intS {g h' : Heap} {L' : Addr} {m' : Str → Option Value} {all : List (Addr × Obj)} {p q : Addr × Obj} {s : Shared} {x y : Int} {t : Tok} {tk' : Nat}
    (F : Fr g L' h' m') (N : News g L' h' all) (e : x = y) (hm1 : p ∈ all) (hm2 : q ∈ all) : EndC g (RetIS [p, q] y) s (.int x t) { s with heap := h', toks := tk' } :=
  .go F N ⟨t, by rw [e], rfl⟩ (fun p hp => by
    rcases List.mem_cons.mp hp with rfl | hp
    · exact hm1
    · rw [List.mem_singleton.mp hp]; exact hm2)
theorem dval_whole (n : Int) (ns : List Int) : dval n ns 0 ns.length = val (2 ^ n.toNat) ns.reverse := by
  rw [dval]; congr 1; simp
section
local macro_rules | `(tactic| walk_at "call ref") => `(tactic| refine Halt.mk ?_)
set_option maxHeartbeats 8000000 in
theorem digits2int_F {w : World} {p : Program} {loose : List Str} {mean : ExcName → Option Value} {mg mb : Str → Option Value} {dp un : Nat} {gd : Option (List Code)} {cn : Str} {cs : Scope} {a : Addr} {ccd : Value} {cl : List (Str × Addr)} {outer : List Env} {A₀ : Around} {base h₀ : Heap} {L : Addr} {m : Str → Option Value} {s : Shared} {Q E : Value → Shared → Prop}
  (B : Below A₀ base outer h₀) (F : Fr h₀ L s.heap m) (X : (hd.heap_39 w.params).In h₀) (T : Top p loose mean mg mb h₀) (hk : cs.kind = .function) {rest : List (Addr × Obj)} (N : News h₀ L s.heap ([(44, tabObj #[])] ++ rest)) (hdis : ∀ p ∈ rest, p.1 ∉ ([(44, tabObj #[])] : List (Addr × Obj)).map (·.1)) (C : CodeHd base 48 44)
  {l : Addr} {vs : List Value} {ns : List Int} {n : Int} {tn : Tok} (hl : s.heap.IsList l vs.toArray) (hll : l ∉ ([(44, tabObj #[])] : List (Addr × Obj)).map (·.1)) (hi : IntsAre vs ns) (hlen : ns.length ≤ 200) (hnn : 0 ≤ n ∧ n ≤ 200) (hds : ∀ x ∈ ns, 0 ≤ x ∧ x < 2 ^ n.toNat)
  (hd : dp + 300 < recursionLimit)
  (ret : ∀ t news' h' tk', Fr h₀ L h' m → News h₀ L h' (news' ++ rest) → (∀ p ∈ news', p.1 ∈ ([(44, tabObj #[])] : List (Addr × Obj)).map (·.1) ∨ s.heap.get? p.1 = none) → Tab1 44 50 4 (Str.ofString "_digits2int.<locals>.inner") news' → Q (.int (val (2 ^ n.toNat) ns.reverse) t) { s with heap := h', toks := tk' }) :
  wpAny (model PySem.Challenge.rw_qh0022_01.row.prog w) (ktrTop dp un gd cn cs L a ccd cl outer) (call (.ref 49) [.ref l, .int n tn]) Q E s := by
  refine' enterCK (sub := [(44, tabObj #[])]) (rest := rest) (RetIT 44 50 4 (Str.ofString "_digits2int.<locals>.inner") (val (2 ^ n.toNat) ns.reverse)) ?k1 ?k2 ?k3 ?k4 ?k5 ?kA ?kF ?kK ?kD ?k6 ?k7 ?k8 ?k9 ?kB ?kN ?kR ?_ ?c2 ?c3 ?c4
  case k1 => exact B
  case k2 => exact F
  case k3 => exact X
  case k4 => exact N
  case k5 => exact T
  case kA => exact rfl
  case kF => exact rfl
  case kK => exact hk
  case k6 => k_is
  case k7 => k_is
  case k8 => show dp < _; omega
  case k9 => first | exact BindsTo.of_eq rfl | exact binds_K (by k_in) rfl (by k_is) rfl rfl rfl
  case kB => exact rfl
  case kN => decide +kernel
  case c2 => exact rfl
  case c3 => exact rfl
  case c4 => exact rfl
  case kD => exact hdis
  case kR => 
    rintro r news' h' tk' F' N' hf' ⟨t, rfl, hT⟩
    exact ret t news' h' tk' F' N' hf' hT
  intro g' L' h' tk' cells' F' N' Y' B' X' T' l1 hg'
  have hl' : g'.IsList l vs.toArray := by
    obtain ⟨o, ho, r⟩ := hl
    exact ⟨o, hg' _ _ ho hll, r⟩
  clear hg' ret B F X N T hl
  k_cells Y'
  (try simp only [List.cons_append, List.nil_append] at N')
  (try k_lt l1)
  k_steps
  · refine Halt.out ?_
    rename Fr _ _ _ _ => Fx
    rename News _ _ _ _ => Nx
    refine' inner_d2i ?hn hi hlen hnn hds ?hd1 ?hd2 ?hd3 ns.length B' Fx X' T' rfl Nx ?hf ?hc ?h1 ?h2 ?h3 (hl'.at fun o e => Fx.keep _ o e) (Int.le_refl 0) ?_ (Int.le_refl _) ?_ ?_ ?_
    case hf => exact News.get Nx (by k_mem)
    case h1 => exact News.get Nx (by k_mem)
    case h2 => exact News.get Nx (by k_mem)
    case h3 => exact News.get Nx (by k_mem)
    case hn => exact of_nested (by k_is) rfl
    case hd1 => assumption
    case hd2 => assumption
    case hd3 => assumption
    case hc => exact codeRec_news Nx (by k_mem) (by assumption) (by assumption)
    · omega
    · omega
    · show dp + 1 + ns.length < _; omega
    intro t1 h1x tk1 F1 N1
    exact EndC.intT F1 N1 (dval_whole n ns) (by k_mem) rfl (by k_mem) (by assumption) (by assumption) rfl
  · exact EndC.intT (by assumption) (by assumption) (by have h0 : ns = [] := List.length_eq_zero_iff.mp (by omega); rw [h0]; rfl) (by k_mem) rfl (by k_mem) (by assumption) (by assumption) rfl
set_option maxHeartbeats 8000000 in
theorem digits2int_H {w : World} {p : Program} {loose : List Str} {mean : ExcName → Option Value} {mg mb : Str → Option Value} {dp un : Nat} {gd : Option (List Code)} {cn : Str} {cs : Scope} {a : Addr} {ccd : Value} {cl : List (Str × Addr)} {outer : List Env} {A₀ : Around} {base h₀ : Heap} {L : Addr} {m : Str → Option Value} {s : Shared} {Q E : Value → Shared → Prop}
  (B : Below A₀ base outer h₀) (F : Fr h₀ L s.heap m) (X : (hd.heap_39 w.params).In h₀) (T : Top p loose mean mg mb h₀) (hk : cs.kind = .function) {rest : List (Addr × Obj)} {cc : Addr} {oc : Obj} {vsc : Array Value} {tq : Tok} (hoc : oc.data = .fields vsc) (hvc : vsc[1]? = some (.str (Str.ofString "_digits2int.<locals>.inner") tq)) (N : News h₀ L s.heap ([(44, tabObj #[rawInt 50, rawInt 4, .ref cc]), (cc, oc)] ++ rest)) (hdis : ∀ p ∈ rest, p.1 ∉ ([(44, tabObj #[rawInt 50, rawInt 4, .ref cc]), (cc, oc)] : List (Addr × Obj)).map (·.1)) (C : CodeHd base 48 44)
  {l : Addr} {vs : List Value} {ns : List Int} {n : Int} {tn : Tok} (hl : s.heap.IsList l vs.toArray) (hll : l ∉ ([(44, tabObj #[rawInt 50, rawInt 4, .ref cc]), (cc, oc)] : List (Addr × Obj)).map (·.1)) (hi : IntsAre vs ns) (hlen : ns.length ≤ 200) (hnn : 0 ≤ n ∧ n ≤ 200) (hds : ∀ x ∈ ns, 0 ≤ x ∧ x < 2 ^ n.toNat)
  (hd : dp + 300 < recursionLimit)
  (ret : ∀ t h' tk', Fr h₀ L h' m → News h₀ L h' ([(44, tabObj #[rawInt 50, rawInt 4, .ref cc]), (cc, oc)] ++ rest) → Q (.int (val (2 ^ n.toNat) ns.reverse) t) { s with heap := h', toks := tk' }) :
  wpAny (model PySem.Challenge.rw_qh0022_01.row.prog w) (ktrTop dp un gd cn cs L a ccd cl outer) (call (.ref 49) [.ref l, .int n tn]) Q E s := by
  refine' enterCK (sub := [(44, tabObj #[rawInt 50, rawInt 4, .ref cc]), (cc, oc)]) (rest := rest) (RetIS [(44, tabObj #[rawInt 50, rawInt 4, .ref cc]), (cc, oc)] (val (2 ^ n.toNat) ns.reverse)) ?k1 ?k2 ?k3 ?k4 ?k5 ?kA ?kF ?kK ?kD ?k6 ?k7 ?k8 ?k9 ?kB ?kN ?kR ?_ ?c2 ?c3 ?c4
  case k1 => exact B
  case k2 => exact F
  case k3 => exact X
  case k4 => exact N
  case k5 => exact T
  case kA => exact rfl
  case kF => exact rfl
  case kK => exact hk
  case k6 => k_is
  case k7 => k_is
  case k8 => show dp < _; omega
  case k9 => first | exact BindsTo.of_eq rfl | exact binds_K (by k_in) rfl (by k_is) rfl rfl rfl
  case kB => exact rfl
  case kN => decide +kernel
  case c2 => exact rfl
  case c3 => exact rfl
  case c4 => exact rfl
  case kD => exact hdis
  case kR => 
    rintro r news' h' tk' F' N' hf' ⟨t, rfl, rfl⟩
    exact ret t h' tk' F' N'
  intro g' L' h' tk' cells' F' N' Y' B' X' T' l1 hg'
  have hl' : g'.IsList l vs.toArray := by
    obtain ⟨o, ho, r⟩ := hl
    exact ⟨o, hg' _ _ ho hll, r⟩
  clear hg' ret B F X N T hl
  k_cells Y'
  (try simp only [List.cons_append, List.nil_append] at N')
  (try k_lt l1)
  k_steps
  · refine Halt.out ?_
    rename Fr _ _ _ _ => Fx
    rename News _ _ _ _ => Nx
    refine' inner_d2i ?hn hi hlen hnn hds ?hd1 ?hd2 ?hd3 ns.length B' Fx X' T' rfl Nx ?hf ?hc ?h1 ?h2 ?h3 (hl'.at fun o e => Fx.keep _ o e) (Int.le_refl 0) ?_ (Int.le_refl _) ?_ ?_ ?_
    case hf => exact News.get Nx (by k_mem)
    case h1 => exact News.get Nx (by k_mem)
    case h2 => exact News.get Nx (by k_mem)
    case h3 => exact News.get Nx (by k_mem)
    case hn => exact of_nested (by k_is) rfl
    case hd1 => assumption
    case hd2 => assumption
    case hd3 => assumption
    case hc => exact codeRec_news Nx (by k_mem) (by assumption) (by assumption)
    · omega
    · omega
    · show dp + 1 + ns.length < _; omega
    intro t1 h1x tk1 F1 N1
    exact EndC.intS F1 N1 (dval_whole n ns) (by k_mem) (by k_mem)
  · exact EndC.intS (by assumption) (by assumption) (by have h0 : ns = [] := List.length_eq_zero_iff.mp (by omega); rw [h0]; rfl) (by k_mem) (by k_mem)
end
end Mine
/-! Red22 -/
namespace Mine
open PySem PySem.W PySem.Spec PySem.Calls PyProof.Rows
abbrev iterObj (l : Addr) (i : Int) : Obj := { cls := .type "list_iterator", data := .fields #[.ref l, .int i 0] }
section
variable {prog : Program} {w : World} {A : Around} {s : Shared} {h₀ : Heap} {E : Value → Shared → Prop} {m : Str → Option Value} {news : List (Addr × Obj)} {l : Addr}
theorem iter_list {L : Addr} {items : Array Value} {Q : Value → Shared → Prop} (F : Fr h₀ L s.heap m) (N : News h₀ L s.heap news) (hl : s.heap.IsList l items)
    (h : ∀ (I : Addr) h', Fr h₀ L h' m → News h₀ L h' ((I, iterObj l 0) :: news) → (∀ p ∈ news, p.1 < I) → Q (.ref I) { s with heap := h' }) :
    wpAny (model prog w) A (call (.builtin "iter") [.ref l]) Q E s := by
  refine call_function_entry (by decide +kernel) (by decide +kernel) kdk_entry_iter (kdk_args_iter _) ?_
  unfold Builtin.«iter»
  refine wpAny_bind (m := someArgs "iter" 1 2 _) (wpAny_of_eq (a := [Value.ref l]) (by first | rfl | kernel_rfl!) ?_)
  show wpAny _ _ (pyIter (.ref l) >>= _) _ _ _
  refine wpAny_bind (wpAny_pyIter_list hl ?_)
  exact wpAny_pure ⟨_, rfl, h _ _ (F.push _) (News.push F N _ rfl) (fun q hq => Heap.lt_size (N q hq).1)⟩
/-- a for over a list's iterator of the ledger's, the list in the base heap -/
theorem iter_iterator {env : Env} {x : Str} {body : List Stmt} {Q : Flow → Shared → Prop} {I : Addr} {vs : List Value} (J : Nat → (Str → Option Value) → List (Addr × Obj) → Prop)
    (hh : A.handled = none) (hl : h₀.IsList l vs.toArray) (F : Fr h₀ env.locals s.heap m) (N : News h₀ env.locals s.heap ((I, iterObj l 0) :: news)) (hIn : ∀ p ∈ news, p.1 ≠ I) (h0 : J 0 m news)
    (turn : ∀ i v m₁ news₁ oI h tk, vs[i]? = some v → J i m₁ news₁ → (∀ p ∈ news₁, p.1 ≠ I) → Fr h₀ env.locals h (fun y => if y = x then some v else m₁ y) → News h₀ env.locals h ((I, oI) :: news₁) →
      wpAny (model prog w) A (execs body env) (TurnEnd h₀ env.locals I oI [] (J (i + 1)) s Q) E { s with heap := h, toks := tk })
    (done : ∀ m₁ news₁ h tk, J vs.length m₁ news₁ → Fr h₀ env.locals h m₁ → News h₀ env.locals h news₁ → Q .next { s with heap := h, toks := tk }) :
    wpAny (model prog w) A (pyIter (.ref I)) (fun it s₂ => LoopAtV prog w A h₀ env x body Q E it s₂) E s := by
  have hls : s.heap.IsList l vs.toArray := hl.at fun o e => F.keep l o e
  obtain ⟨ol, hol, _⟩ := id hl
  have hlt : l < h₀.objs.size := Heap.lt_size hol
  have NI := N _ (.head _)
  have hne : l ≠ I := fun e => by have := NI.2.2; rw [← e, hol] at this; cases this
  have hit : s.heap.IsListIter I l 0 := ⟨_, NI.1, rfl, rfl⟩
  refine wpAny_pyIter_listiter hit ?_
  have W := Walks.list (prog := prog) (w := w) hh I l hne vs.toArray
  have hlen : vs.toArray.size = vs.length := by simp
  rw [hlen] at W
  refine for_rule (fx := []) (news := news) (m := m) J W (by simp) ?_ ?_ ?_ NI.2.2 (by simp) hIn ⟨hit, hls⟩ F (fun p hp => N p (.tail _ hp)) h0 ?_ ?_
  · intro b hb
    rcases List.mem_cons.mp hb with e | hb
    · exact .inl e
    · exact .inr (.inl ⟨ol, (List.mem_singleton.mp hb) ▸ hol⟩)
  · rintro i h ⟨⟨o, e, _⟩, _⟩; exact ⟨o, e⟩
  · intro hm
    rcases List.mem_cons.mp hm with e | hm
    · exact NI.2.1 e.symm
    · exact absurd (Nat.lt_of_lt_of_le hlt F.above) ((List.mem_singleton.mp hm) ▸ Nat.lt_irrefl _)
  · intro i v m₁ news₁ oI h tk hi hP hJ hn F₁ N₁
    exact turn i v m₁ news₁ oI h tk (by simpa using hP) hJ hn F₁ N₁
  · intro m₁ news₁ h tk hJ F₁ N₁
    exact done m₁ news₁ h tk hJ F₁ N₁
end
def RedJ (b : Int) (ns : List Int) (m0 : Str → Option Value) (i : Nat) (m₁ : Str → Option Value) (news₁ : List (Addr × Obj)) : Prop :=
  ∃ (a : Int) (t : Tok) (e : Option Value), m₁ = (fun y => if y = Str.ofString "value" then some (.int a t) else if y = Str.ofString "element" then e else m0 y) ∧ news₁ = [] ∧ a = val b (ns.take i)
theorem RedJ.start {b : Int} {ns : List Int} {m0 : Str → Option Value} {t : Tok} : RedJ b ns m0 0 (fun y => if y = Str.ofString "value" then some (.int 0 t) else m0 y) [] :=
  ⟨0, t, m0 (Str.ofString "element"), by funext y; by_cases h : y = Str.ofString "element" <;> simp [h], rfl, by simp [val]⟩
theorem RedJ.next {b : Int} {ns : List Int} {m0 : Str → Option Value} {i : Nat} {a' a : Int} {t' t : Tok} {e' e : Option Value} (h : a' = val b (ns.take i)) :
    RedJ b ns m0 i (fun y => if y = Str.ofString "value" then some (.int a' t') else if y = Str.ofString "element" then e' else if y = Str.ofString "value" then some (.int a t) else if y = Str.ofString "element" then e else m0 y) [] :=
  ⟨a', t', e', by funext y; by_cases h : y = Str.ofString "value" <;> by_cases h2 : y = Str.ofString "element" <;> simp [h, h2], rfl, h⟩
section
local macro_rules | `(tactic| walk_at "call builtin:iter") => `(tactic| (k_here; k_dflt (refine iter_list (by k_asm) (by k_asm) (by is_list) ?_); intro I' h' F' N' l1; (try k_lt l1); (try k_sweep)))
local macro_rules | `(tactic| walk_at "compareOp Is int ref") => `(tactic| refine wpAny_is_other (by rfl) (by intro x; cases x) ?_)
local macro_rules | `(tactic| walk_at "call ref") => `(tactic| refine Halt.mk ?_)
local macro_rules | `(tactic| walk_at "exec For Name Name cons nil") => `(tactic| refine Halt.mk ?_)
local macro_rules | `(tactic| walk_at "eval Name") => `(tactic| (k_dflt (refine' nameX_FB ?F ?c ?m ?d ?_ ?a ?b; (case a => rfl); (case b => rfl); (case F => k_asm); (case c => rfl); (case m => assumption); (case d => assumption); k_whole)))
local macro_rules | `(tactic| walk_at "callWith ref") => `(tactic| (k_dflt (refine' callWith_F ?k1 ?_; (case k1 => exact FnAt.base (by k_asm) (by assumption)); k_whole)))
local macro_rules | `(tactic| walk_at "FnAt") => `(tactic| (k_dflt (exact FnAt.base (by k_asm) (by assumption))))
local macro_rules | `(tactic| mul_fits) => `(tactic| exact PySem.IntMulOk.of_right (by assumption))
set_option maxHeartbeats 8000000 in
theorem lam_spec {w : World} {p : Program} {loose : List Str} {mean : ExcName → Option Value} {mg mb : Str → Option Value} {dp un : Nat} {gd : Option (List Code)} {cn : Str} {cs : Scope} {a : Addr} {ccd : Value} {cl : List (Str × Addr)} {outer : List Env} {A₀ : Around} {base h₀ : Heap} {L : Addr} {m : Str → Option Value} {s : Shared} {Q E : Value → Shared → Prop}
  (B : Below A₀ base outer h₀) (F : Fr h₀ L s.heap m) (X : (hd.heap_39 w.params).In h₀) (T : Top p loose mean mg mb h₀) (hk : cs.kind = .function) {news : List (Addr × Obj)} (N : News h₀ L s.heap news)
  {params : Arguments} {body : Expr} {scope : Scope} {ps : Pos} (hn : lamOf ((hd.heap_39 w.params).lookup 167) = some (params, body, scope, ps))
  {fl c' c1 : Addr} {qual : Str} {pm ctv : Value} {o1 : Obj} {b : Int} {tb : Tok} (hb : 0 ≤ b ∧ b ≤ 256) (hd1 : o1.data = .cell (some (.int b tb)))
  (hf : s.heap.get? fl = some (kla_obj (Str.ofString "<lambda>") qual params body scope [(Str.ofString "base", c1)] pm c' ctv)) (hc : s.heap.CodeRec (.ref c') qual) (h1 : s.heap.get? c1 = some o1)
  {x y : Int} {tx ty : Tok} (hd : dp < recursionLimit)
  (ret : ∀ t h' tk', Fr h₀ L h' m → News h₀ L h' news → Q (.int (x * b + y) t) { s with heap := h', toks := tk' }) :
  wpAny (model PySem.Challenge.rw_qh0022_01.row.prog w) (ktrTop dp un gd cn cs L a ccd cl outer) (call (.ref fl) [.int x tx, .int y ty]) Q E s := by
  replace hn := lam_of hn (by k_is)
  dsimp only [lamOf, lamIn] at hn
  cases hn
  refine' enterE (sub := []) (rest := news) (RetI (x * b + y)) B F X N T rfl rfl hk ?kD hf hc ?k8 ?k9 ?kB ?kR ?_ ?c5 ?c2 ?c3 ?c4
  case k8 => show dp < _; omega
  case k9 => exact rfl
  case kB => exact locs rfl
  case c5 => decide
  case c2 => exact rfl
  case c3 => exact rfl
  case c4 => exact rfl
  case kD => intro p hp; simp
  case kR => 
    rintro r news' h' tk' F' N' hf' ⟨t, rfl, rfl⟩
    exact ret t h' tk' F' N'
  intro g' L' h' F' N' B' X' T' l1 hg'
  have h1' := hg' _ _ h1 (by simp)
  have hbb : Builtin.Int.intBits b ≤ 64 := intBits_le_iff.mpr (by omega)
  clear hg' ret B F X N T hf h1 hc
  k_steps
  exact EndC.int (by assumption) (by assumption) rfl

set_option maxHeartbeats 8000000 in
theorem reduce_spec {w : World} {p : Program} {loose : List Str} {mean : ExcName → Option Value} {mg mb : Str → Option Value} {dp un : Nat} {gd : Option (List Code)} {cn : Str} {cs : Scope} {a : Addr} {ccd : Value} {cl : List (Str × Addr)} {outer : List Env} {A₀ : Around} {base h₀ : Heap} {L : Addr} {m : Str → Option Value} {s : Shared} {Q E : Value → Shared → Prop}
  (B : Below A₀ base outer h₀) (F : Fr h₀ L s.heap m) (X : (hd.heap_39 w.params).In h₀) (T : Top p loose mean mg mb h₀) (hk : cs.kind = .function) {news : List (Addr × Obj)} (N : News h₀ L s.heap news)
  {params : Arguments} {body : Expr} {scope : Scope} {ps : Pos} (hn : lamOf ((hd.heap_39 w.params).lookup 167) = some (params, body, scope, ps))
  {fl c' c1 l : Addr} {qual : Str} {pm ctv : Value} {o1 : Obj} {b : Int} {tb t0 : Tok} (hb : 0 ≤ b ∧ b ≤ 256) (hd1 : o1.data = .cell (some (.int b tb)))
  (hf : s.heap.get? fl = some (kla_obj (Str.ofString "<lambda>") qual params body scope [(Str.ofString "base", c1)] pm c' ctv)) (hc : s.heap.CodeRec (.ref c') qual) (h1 : s.heap.get? c1 = some o1)
  {vs : List Value} {ns : List Int} (hl : s.heap.IsList l vs.toArray) (hi : IntsAre vs ns) (hlen : ns.length ≤ 200)
  (hd : dp + 5 < recursionLimit)
  (ret : ∀ t h' tk', Fr h₀ L h' m → News h₀ L h' news → Q (.int (val b ns) t) { s with heap := h', toks := tk' }) :
  wpAny (model PySem.Challenge.rw_qh0022_01.row.prog w) (ktrTop dp un gd cn cs L a ccd cl outer) (call (.ref 153) [.ref fl, .ref l, .int 0 t0]) Q E s := by
  refine' enterPK (sub := []) (rest := news) (RetI (val b ns)) ?k1 ?k2 ?k3 ?k4 ?k5 ?kA ?kF ?kK ?kD ?k6 ?k7 ?k8 ?k9 ?kB ?kR ?_ ?c2 ?c3 ?c4 ?c5
  case k1 => exact B
  case k2 => exact F
  case k3 => exact X
  case k4 => exact N
  case k5 => exact T
  case kA => exact rfl
  case kF => exact rfl
  case kK => exact hk
  case k6 => k_is
  case k7 => k_is
  case k8 => show dp < _; omega
  case k9 => first | exact BindsTo.of_eq rfl | exact binds_K (by k_in) rfl (by k_is) rfl rfl rfl
  case kB => exact locs rfl
  case c5 => decide
  case c2 => exact rfl
  case c3 => exact rfl
  case c4 => exact rfl
  case kD => intro p hp; simp
  case kR => 
    rintro r news' h' tk' F' N' hf' ⟨t, rfl, rfl⟩
    exact ret t h' tk' F' N'
  intro g' L' h' F' N' B' X' T' l1 hg'
  have hl' : g'.IsList l vs.toArray := by
    obtain ⟨o, ho, r⟩ := hl
    exact ⟨o, hg' _ _ ho (by simp), r⟩
  have hf' := hg' _ _ hf (by simp)
  have h1' := hg' _ _ h1 (by simp)
  have hc' : g'.CodeRec (.ref c') qual := by
    obtain ⟨a1, a2, a3, a4, e1, e2, r⟩ := hc
    exact ⟨a1, a2, a3, a4, e1, hg' _ _ e2 (by simp), r⟩
  clear hg' ret B F X N T hl hf h1 hc
  k_steps
  refine Halt.out ?_
  rename Fr _ _ _ _ => Fx
  rename News _ _ _ _ => Nx
  refine For_invV g' rfl rfl ?_
  refine ld Fx rfl ?_
  refine iter_iterator (RedJ b ns _) rfl hl' Fx Nx (by simp) RedJ.start ?_ ?_
  · clear Fx Nx
    rintro i v m₁ news₁ oI h tk hv ⟨aa, t, e, rfl, rfl, ha⟩ hne F N
    obtain ⟨n, tn, rfl, hn'⟩ := IntsAre.at hi i v hv
    k_steps
    rename Fr _ _ _ _ => Fx
    rename News _ _ _ _ => Nx
    refine Halt.out ?_
    refine lam_spec B' Fx X' T' rfl Nx hn hb hd1 (Fx.keep _ _ hf') (hc'.keeps Fx.keep) (Fx.keep _ _ h1') (by show dp + 1 < _; omega) ?_
    intro t1 h1x tk1 F1 N1
    clear Fx Nx
    k_steps
    rename Fr _ _ _ _ => Fx
    rename News _ _ _ _ => Nx
    refine TurnEnd.go Fx Nx (RedJ.next ?_) (fun _ h => h) (by simp)
    rw [List.take_add_one, hn', Option.toList_some, val_snoc, ← ha]
  · rintro m₁ news₁ h tk ⟨aa, t, e, rfl, rfl, ha⟩ F N
    k_steps
    refine EndC.int F N ?_
    rw [ha, hi.length, List.take_length]
end
end Mine
/-! Fol22 -/
namespace Mine
open PySem PySem.W PySem.Spec PySem.Calls PyProof.Rows
section
local macro_rules | `(tactic| walk_at "call ref") => `(tactic| refine Halt.mk ?_)
set_option maxHeartbeats 8000000 in
theorem law_folded_F {w : World} {p : Program} {loose : List Str} {mean : ExcName → Option Value} {mg mb : Str → Option Value} {dp un : Nat} {gd : Option (List Code)} {cn : Str} {cs : Scope} {a : Addr} {ccd : Value} {cl : List (Str × Addr)} {outer : List Env} {A₀ : Around} {base h₀ : Heap} {L : Addr} {m : Str → Option Value} {s : Shared} {Q E : Value → Shared → Prop}
  (B : Below A₀ base outer h₀) (F : Fr h₀ L s.heap m) (X : (hd.heap_39 w.params).In h₀) (T : Top p loose mean mg mb h₀) (hk : cs.kind = .function) {rest : List (Addr × Obj)} (N : News h₀ L s.heap ([(162, tabObj #[])] ++ rest)) (hdis : ∀ p ∈ rest, p.1 ∉ ([(162, tabObj #[])] : List (Addr × Obj)).map (·.1)) (C : CodeHd base 166 162)
  {l : Addr} {vs : List Value} {ns : List Int} {b : Int} {tb : Tok} (hl : s.heap.IsList l vs.toArray) (hll : l ∉ ([(162, tabObj #[])] : List (Addr × Obj)).map (·.1)) (hi : IntsAre vs ns) (hlen : ns.length ≤ 200) (hb : 0 ≤ b ∧ b ≤ 256)
  (hd : dp + 300 < recursionLimit)
  (ret : ∀ t news' h' tk', Fr h₀ L h' m → News h₀ L h' (news' ++ rest) → (∀ p ∈ news', p.1 ∈ ([(162, tabObj #[])] : List (Addr × Obj)).map (·.1) ∨ s.heap.get? p.1 = none) → Tab1 162 243 18 (Str.ofString "_law_folded.<locals>.<lambda>") news' → Q (.int (val b ns) t) { s with heap := h', toks := tk' }) :
  wpAny (model PySem.Challenge.rw_qh0022_01.row.prog w) (ktrTop dp un gd cn cs L a ccd cl outer) (call (.ref 167) [.ref l, .int b tb]) Q E s := by
  refine' enterCK (sub := [(162, tabObj #[])]) (rest := rest) (RetIT 162 243 18 (Str.ofString "_law_folded.<locals>.<lambda>") (val b ns)) ?k1 ?k2 ?k3 ?k4 ?k5 ?kA ?kF ?kK ?kD ?k6 ?k7 ?k8 ?k9 ?kB ?kN ?kR ?_ ?c2 ?c3 ?c4
  case k1 => exact B
  case k2 => exact F
  case k3 => exact X
  case k4 => exact N
  case k5 => exact T
  case kA => exact rfl
  case kF => exact rfl
  case kK => exact hk
  case k6 => k_is
  case k7 => k_is
  case k8 => show dp < _; omega
  case k9 => first | exact BindsTo.of_eq rfl | exact binds_K (by k_in) rfl (by k_is) rfl rfl rfl
  case kB => exact rfl
  case kN => decide +kernel
  case c2 => exact rfl
  case c3 => exact rfl
  case c4 => exact rfl
  case kD => exact hdis
  case kR => 
    rintro r news' h' tk' F' N' hf' ⟨t, rfl, hT⟩
    exact ret t news' h' tk' F' N' hf' hT
  intro g' L' h' tk' cells' F' N' Y' B' X' T' l1 hg'
  have hl' : g'.IsList l vs.toArray := by
    obtain ⟨o, ho, r⟩ := hl
    exact ⟨o, hg' _ _ ho hll, r⟩
  clear hg' ret B F X N T hl
  k_cells Y'
  (try simp only [List.cons_append, List.nil_append] at N')
  (try k_lt l1)
  k_steps
  refine Halt.out ?_
  rename Fr _ _ _ _ => Fx
  rename News _ _ _ _ => Nx
  refine' reduce_spec B' Fx X' T' rfl Nx ?hn (by omega) ?hd1 ?hf ?hc ?h1 (hl'.at fun o e => Fx.keep _ o e) hi hlen ?_ ?_
  case hf => exact News.get Nx (by k_mem)
  case h1 => exact News.get Nx (by k_mem)
  case hn => exact of_lam (by k_is) rfl
  case hd1 => assumption
  case hc => exact codeRec_news Nx (by k_mem) (by assumption) (by assumption)
  · show dp + 1 + 5 < _; omega
  intro t1 h1x tk1 F1 N1
  exact EndC.intT F1 N1 rfl (by k_mem) rfl (by k_mem) (by assumption) (by assumption) rfl
set_option maxHeartbeats 8000000 in
theorem law_folded_H {w : World} {p : Program} {loose : List Str} {mean : ExcName → Option Value} {mg mb : Str → Option Value} {dp un : Nat} {gd : Option (List Code)} {cn : Str} {cs : Scope} {a : Addr} {ccd : Value} {cl : List (Str × Addr)} {outer : List Env} {A₀ : Around} {base h₀ : Heap} {L : Addr} {m : Str → Option Value} {s : Shared} {Q E : Value → Shared → Prop}
  (B : Below A₀ base outer h₀) (F : Fr h₀ L s.heap m) (X : (hd.heap_39 w.params).In h₀) (T : Top p loose mean mg mb h₀) (hk : cs.kind = .function) {rest : List (Addr × Obj)} {cc : Addr} {oc : Obj} {vsc : Array Value} {tq : Tok} (hoc : oc.data = .fields vsc) (hvc : vsc[1]? = some (.str (Str.ofString "_law_folded.<locals>.<lambda>") tq)) (N : News h₀ L s.heap ([(162, tabObj #[rawInt 243, rawInt 18, .ref cc]), (cc, oc)] ++ rest)) (hdis : ∀ p ∈ rest, p.1 ∉ ([(162, tabObj #[rawInt 243, rawInt 18, .ref cc]), (cc, oc)] : List (Addr × Obj)).map (·.1)) (C : CodeHd base 166 162)
  {l : Addr} {vs : List Value} {ns : List Int} {b : Int} {tb : Tok} (hl : s.heap.IsList l vs.toArray) (hll : l ∉ ([(162, tabObj #[rawInt 243, rawInt 18, .ref cc]), (cc, oc)] : List (Addr × Obj)).map (·.1)) (hi : IntsAre vs ns) (hlen : ns.length ≤ 200) (hb : 0 ≤ b ∧ b ≤ 256)
  (hd : dp + 300 < recursionLimit)
  (ret : ∀ t h' tk', Fr h₀ L h' m → News h₀ L h' ([(162, tabObj #[rawInt 243, rawInt 18, .ref cc]), (cc, oc)] ++ rest) → Q (.int (val b ns) t) { s with heap := h', toks := tk' }) :
  wpAny (model PySem.Challenge.rw_qh0022_01.row.prog w) (ktrTop dp un gd cn cs L a ccd cl outer) (call (.ref 167) [.ref l, .int b tb]) Q E s := by
  refine' enterCK (sub := [(162, tabObj #[rawInt 243, rawInt 18, .ref cc]), (cc, oc)]) (rest := rest) (RetIS [(162, tabObj #[rawInt 243, rawInt 18, .ref cc]), (cc, oc)] (val b ns)) ?k1 ?k2 ?k3 ?k4 ?k5 ?kA ?kF ?kK ?kD ?k6 ?k7 ?k8 ?k9 ?kB ?kN ?kR ?_ ?c2 ?c3 ?c4
  case k1 => exact B
  case k2 => exact F
  case k3 => exact X
  case k4 => exact N
  case k5 => exact T
  case kA => exact rfl
  case kF => exact rfl
  case kK => exact hk
  case k6 => k_is
  case k7 => k_is
  case k8 => show dp < _; omega
  case k9 => first | exact BindsTo.of_eq rfl | exact binds_K (by k_in) rfl (by k_is) rfl rfl rfl
  case kB => exact rfl
  case kN => decide +kernel
  case c2 => exact rfl
  case c3 => exact rfl
  case c4 => exact rfl
  case kD => exact hdis
  case kR => 
    rintro r news' h' tk' F' N' hf' ⟨t, rfl, rfl⟩
    exact ret t h' tk' F' N'
  intro g' L' h' tk' cells' F' N' Y' B' X' T' l1 hg'
  have hl' : g'.IsList l vs.toArray := by
    obtain ⟨o, ho, r⟩ := hl
    exact ⟨o, hg' _ _ ho hll, r⟩
  clear hg' ret B F X N T hl
  k_cells Y'
  (try simp only [List.cons_append, List.nil_append] at N')
  (try k_lt l1)
  k_steps
  refine Halt.out ?_
  rename Fr _ _ _ _ => Fx
  rename News _ _ _ _ => Nx
  refine' reduce_spec B' Fx X' T' rfl Nx ?hn (by omega) ?hd1 ?hf ?hc ?h1 (hl'.at fun o e => Fx.keep _ o e) hi hlen ?_ ?_
  case hf => exact News.get Nx (by k_mem)
  case h1 => exact News.get Nx (by k_mem)
  case hn => exact of_lam (by k_is) rfl
  case hd1 => assumption
  case hc => exact codeRec_news Nx (by k_mem) (by assumption) (by assumption)
  · show dp + 1 + 5 < _; omega
  intro t1 h1x tk1 F1 N1
  exact EndC.intS F1 N1 rfl (by k_mem) (by k_mem)
end
end Mine
/-! Bits22 -/
namespace Mine
open PySem PyProof.Rows
theorem nat_and_high (x s : Nat) : x &&& (x / 2 ^ s * 2 ^ s) = x / 2 ^ s * 2 ^ s := by
  apply Nat.eq_of_testBit_eq
  intro i
  rw [Nat.testBit_and, Nat.testBit_mul_two_pow]
  by_cases h : s ≤ i
  · rw [Nat.testBit_div_two_pow, show i - s + s = i by omega]
    simp [h]
  · simp [h]
theorem xor_high {x : Int} (hx : 0 ≤ x) (s : Nat) : Builtin.bitXor x (x / 2 ^ s * 2 ^ s) = x % 2 ^ s := by
  have h2 : (0 : Int) < 2 ^ s := Int.pow_pos (by decide)
  have hq : 0 ≤ x / 2 ^ s * 2 ^ s := Int.mul_nonneg (Int.ediv_nonneg hx (Int.le_of_lt h2)) (Int.le_of_lt h2)
  have e : (x / 2 ^ s * 2 ^ s).toNat = x.toNat / 2 ^ s * 2 ^ s := by
    obtain ⟨n, rfl⟩ := Int.eq_ofNat_of_zero_le hx
    simp only [Int.toNat_natCast]
    exact_mod_cast rfl
  have e2 : Builtin.bitAnd x (x / 2 ^ s * 2 ^ s) = x / 2 ^ s * 2 ^ s := by
    rw [bitAnd_pp hx hq, e, nat_and_high, ← e, Int.toNat_of_nonneg hq]
  rw [bitXor_and, e2]
  have := Int.mul_ediv_add_emod x (2 ^ s)
  rw [Int.mul_comm (x / 2 ^ s)]
  omega
theorem or_low {a b : Int} (ha : 0 ≤ a) (hb : 0 ≤ b) (k : Nat) (h : b < 2 ^ k) : Builtin.bitOr (a * 2 ^ k) b = a * 2 ^ k + b := by
  obtain ⟨m, rfl⟩ := Int.eq_ofNat_of_zero_le ha
  obtain ⟨n, rfl⟩ := Int.eq_ofNat_of_zero_le hb
  have hn : n < 2 ^ k := by exact_mod_cast h
  have e1 : ((m : Int) * 2 ^ k).toNat = 2 ^ k * m := by
    have : ((m : Int) * 2 ^ k) = ((2 ^ k * m : Nat) : Int) := by push_cast; exact Int.mul_comm _ _
    rw [this, Int.toNat_natCast]
  have h0 : (0 : Int) ≤ (m : Int) * 2 ^ k := Int.mul_nonneg ha (Int.le_of_lt (Int.pow_pos (by decide)))
  have e2 : Builtin.bitAnd ((m : Int) * 2 ^ k) n = 0 := by
    rw [bitAnd_pp h0 hb, e1, Int.toNat_natCast]
    have e3 : 2 ^ k * m &&& n = 0 := by
      apply Nat.eq_of_testBit_eq
      intro i
      rw [Nat.testBit_and, Nat.zero_testBit, Nat.mul_comm, Nat.testBit_mul_two_pow]
      by_cases hi : k ≤ i
      · rw [Nat.testBit_lt_two_pow (Nat.lt_of_lt_of_le hn (Nat.pow_le_pow_right (by decide) hi)), Bool.and_false]
      · simp [hi]
    rw [e3]; rfl
  rw [bitOr_and, e2, Int.sub_zero]
end Mine
/-! Iin22 -/
namespace Mine
open PySem PySem.W PySem.Spec PySem.Calls PyProof.Rows
def putDigs (n : Int) (ms : List Int) (lo hi x : Int) : List Int := ms.take lo.toNat ++ ((bdig (2 ^ n.toNat) (hi - lo).toNat x).reverse ++ ms.drop hi.toNat)
theorem putDigs_length {n : Int} {ms : List Int} {lo hi x : Int} (h0 : 0 ≤ lo) (h1 : lo ≤ hi) (h2 : hi ≤ ms.length) : (putDigs n ms lo hi x).length = ms.length := by
  simp only [putDigs, List.length_append, List.length_take, List.length_reverse, bdig_length, List.length_drop]; omega
theorem putDigs_one {n : Int} {ms : List Int} {lo hi x : Int} (h0 : 0 ≤ lo) (h1 : lo + 1 = hi) (h2 : hi ≤ ms.length) (hx : 0 ≤ x) (hx2 : x < (2 ^ n.toNat) ^ (hi - lo).toNat) : ms.set lo.toNat x = putDigs n ms lo hi x := by
  have e : (hi - lo).toNat = 1 := by omega
  rw [e, Int.pow_succ, Int.pow_zero, Int.one_mul] at hx2
  have e2 : hi.toNat = lo.toNat + 1 := by omega
  rw [putDigs, e, e2, List.set_eq_take_append_cons_drop, if_pos (by omega)]
  simp [bdig, Int.emod_eq_of_lt hx hx2]
theorem putDigs_split {n : Int} {ms : List Int} {lo z hi x : Int} (h0 : 0 ≤ lo) (h1 : lo ≤ z) (h2 : z ≤ hi) (h3 : hi ≤ ms.length) :
    putDigs n (putDigs n ms lo z (x % (2 ^ n.toNat) ^ (z - lo).toNat)) z hi (x / (2 ^ n.toNat) ^ (z - lo).toNat) = putDigs n ms lo hi x := by
  have hB := two_pow_pos n.toNat
  have e1 : (hi - lo).toNat = (hi - z).toNat + (z - lo).toNat := by omega
  have e2 : (ms.take lo.toNat ++ (bdig (2 ^ n.toNat) (z - lo).toNat x).reverse).length = z.toNat := by
    simp only [List.length_append, List.length_take, List.length_reverse, bdig_length]; omega
  have e3 : putDigs n ms lo z (x % (2 ^ n.toNat) ^ (z - lo).toNat) = (ms.take lo.toNat ++ (bdig (2 ^ n.toNat) (z - lo).toNat x).reverse) ++ ms.drop z.toNat := by
    rw [putDigs, bdig_mod hB, List.append_assoc]
  rw [e3, putDigs, List.take_left' e2, List.drop_append, e2, List.drop_of_length_le (by rw [e2]; omega), List.nil_append, List.drop_drop, show z.toNat + (hi.toNat - z.toNat) = hi.toNat by omega]
  rw [putDigs, e1, bdig_add hB, List.reverse_append]
  simp only [List.append_assoc]
theorem ediv_pow_lt {x B : Int} (hB : 0 < B) {a b : Nat} (hx : x < B ^ (a + b)) : x / B ^ b < B ^ a := by
  rw [Int.pow_add] at hx
  exact Int.ediv_lt_of_lt_mul (pow_pos' hB b) hx
def RetNL (a : Addr) (ms : List Int) (v : Value) (l : List (Addr × Obj)) : Prop := ∃ vs k, v = .none ∧ l = [(a, W.listOf (List.toArray vs) k)] ∧ IntsAre vs ms
theorem EndC.nlist {g h' : Heap} {L' a : Addr} {m' : Str → Option Value} {all : List (Addr × Obj)} {s : Shared} {vs : List Value} {ms ns : List Int} {k : Nat} {tk' : Nat}
    (F : Fr g L' h' m') (N : News g L' h' all) (hm : (a, W.listOf (List.toArray vs) k) ∈ all) (hi : IntsAre vs ms) (e : ms = ns) : EndC g (RetNL a ns) s .none { s with heap := h', toks := tk' } :=
  .go (news' := [(a, W.listOf (List.toArray vs) k)]) F N ⟨vs, k, rfl, rfl, e ▸ hi⟩ (fun q h => by rw [List.mem_singleton.mp h]; exact hm)
section
local macro_rules | `(tactic| walk_at "binaryOp LShift int int") => `(tactic| refine Halt.mk ?_)
local macro_rules | `(tactic| walk_at "call ref") => `(tactic| refine Halt.mk ?_)
local macro_rules | `(tactic| walk_at "eval Name") => `(tactic| (k_dflt (refine' nameX_FB ?F ?c ?m ?d ?_ ?a ?b; (case a => rfl); (case b => rfl); (case F => k_asm); (case c => rfl); (case m => assumption); (case d => assumption); k_whole)))
local macro_rules | `(tactic| walk_at "callWith ref") => `(tactic| (k_dflt (refine' callWith_F ?k1 ?_; (case k1 => exact FnAt.base (by k_asm) (by assumption)); k_whole)))
local macro_rules | `(tactic| walk_at "FnAt") => `(tactic| (k_dflt (exact FnAt.base (by k_asm) (by assumption))))
set_option maxHeartbeats 8000000 in
theorem inner_i2d {w : World} {params : Arguments} {body : List Stmt} {scope : Scope} {ps : Pos} (hn : nested ((hd.heap_39 w.params).lookup 42) = some (params, body, scope, ps))
  {fi c' c1 c2 c3 l : Addr} {qual : Str} {doc pm ctv : Value} {o1 o2 o3 : Obj} {n : Int} {tn : Tok} (hnn : 1 ≤ n ∧ n ≤ 200)
  (hd1 : o1.data = .cell (some (.int n tn))) (hd2 : o2.data = .cell (some (.ref fi))) (hd3 : o3.data = .cell (some (.ref l))) (k : Nat) :
  ∀ {p : Program} {loose : List Str} {mean : ExcName → Option Value} {mg mb : Str → Option Value} {dp un : Nat} {gd : Option (List Code)} {cn : Str} {cs : Scope} {a : Addr} {ccd : Value} {cl : List (Str × Addr)} {outer : List Env} {A₀ : Around} {base h₀ : Heap} {L : Addr} {m : Str → Option Value} {s : Shared} {Q E : Value → Shared → Prop}
  (_B : Below A₀ base outer h₀) (_F : Fr h₀ L s.heap m) (_X : (hd.heap_39 w.params).In h₀) (_T : Top p loose mean mg mb h₀) (_hk : cs.kind = .function) {rest : List (Addr × Obj)} {vs : List Value} {ms : List Int} {kk : Nat} (_N : News h₀ L s.heap ([(l, W.listOf (List.toArray vs) kk)] ++ rest))
  (_hdis : ∀ p ∈ rest, p.1 ∉ ([(l, W.listOf (List.toArray vs) kk)] : List (Addr × Obj)).map (·.1)) (_hi : IntsAre vs ms) (_hlen : ms.length ≤ 200)
  (_hf : s.heap.get? fi = some (fnMade (Str.ofString "inner") qual params body scope [(Str.ofString "n", c1), (Str.ofString "inner", c2), (Str.ofString "a_digits", c3)] doc pm c' ctv)) (_hc : s.heap.CodeRec (.ref c') qual)
  (_h1 : s.heap.get? c1 = some o1) (_h2 : s.heap.get? c2 = some o2) (_h3 : s.heap.get? c3 = some o3) (_hne : fi ≠ l ∧ c' ≠ l ∧ c1 ≠ l ∧ c2 ≠ l ∧ c3 ≠ l)
  {x lo hi : Int} {tx tl th : Tok} (_hl : 0 ≤ lo) (_hlh : lo < hi) (_hh : hi ≤ ms.length) (_hk : hi - lo ≤ k) (_hx : 0 ≤ x) (_hx2 : x < (2 ^ n.toNat) ^ (hi - lo).toNat) (_hd : dp + k < recursionLimit)
  (_ret : ∀ vs' k' h' tk', Fr h₀ L h' m → News h₀ L h' ([(l, W.listOf (List.toArray vs') k')] ++ rest) → IntsAre vs' (putDigs n ms lo hi x) → Q .none { s with heap := h', toks := tk' }),
  wpAny (model PySem.Challenge.rw_qh0022_01.row.prog w) (ktrTop dp un gd cn cs L a ccd cl outer) (call (.ref fi) [.int x tx, .int lo tl, .int hi th]) Q E s := by
  replace hn := nested_of hn (by k_is)
  dsimp only [nested, nestedIn] at hn
  cases hn
  induction k with
  | zero => intros; omega
  | succ k IH =>
    intro p loose mean mg mb dp un gd cn cs a ccd cl outer A₀ base h₀ L m s Q E B F X T hk rest vs ms kk N hdis hims hlen hf hc h1 h2 h3 hne x lo hi tx tl th hlo hlh hhi hkk hx hx2 hd ret
    refine' enterP (sub := [(l, W.listOf (List.toArray vs) kk)]) (rest := rest) (RetNL l (putDigs n ms lo hi x)) B F X N T rfl rfl hk hdis hf rfl hc ?k8 ?k9 ?kB ?kR ?_ ?c5 ?c2 ?c3 ?c4
    case k8 => show dp < _; omega
    case k9 => exact BindsTo.of_eq rfl
    case kB => exact locs rfl
    case c5 => decide
    case c2 => exact rfl
    case c3 => exact rfl
    case c4 => exact rfl
    case kR => 
      rintro r news' h' tk' F' N' hf' ⟨vs', k', rfl, rfl, hi'⟩
      exact ret vs' k' h' tk' F' N' hi'
    intro g' L' h' F' N' B' X' T' l1 hg'
    have hf' := hg' _ _ hf (by simpa using hne.1)
    have h1' := hg' _ _ h1 (by simpa using hne.2.2.1)
    have h2' := hg' _ _ h2 (by simpa using hne.2.2.2.1)
    have h3' := hg' _ _ h3 (by simpa using hne.2.2.2.2)
    have hc' : g'.CodeRec (.ref c') qual := by
      obtain ⟨a1, a2, a3, a4, e1, e2, r⟩ := hc
      cases e1
      exact ⟨_, a2, a3, a4, rfl, hg' _ _ e2 (by simpa using hne.2.1), r⟩
    clear hg' ret B F X N T hf h1 h2 h3 hc hdis
    (try k_lt l1)
    have hB := two_pow_pos n.toNat
    have hz1 : lo ≤ (lo + hi).fdiv (2 ^ (Int.toNat 1)) := by rw [show (2 : Int) ^ (Int.toNat 1) = 2 from rfl, Int.fdiv_eq_ediv_of_nonneg _ (by decide)]; omega
    have hz2 : (lo + hi).fdiv (2 ^ (Int.toNat 1)) < hi := by rw [show (2 : Int) ^ (Int.toNat 1) = 2 from rfl, Int.fdiv_eq_ediv_of_nonneg _ (by decide)]; omega
    have hs0 : 0 ≤ ((lo + hi).fdiv (2 ^ (Int.toNat 1)) - lo) * n := Int.mul_nonneg (by omega) (by omega)
    have hs1 : ((lo + hi).fdiv (2 ^ (Int.toNat 1)) - lo) * n ≤ 200 * 200 := Int.mul_le_mul (by omega) hnn.2 (by omega) (by omega)
    have es : (2 : Int) ^ (((lo + hi).fdiv (2 ^ (Int.toNat 1)) - lo) * n).toNat = (2 ^ n.toNat) ^ ((lo + hi).fdiv (2 ^ (Int.toNat 1)) - lo).toNat := by
      rw [Int.toNat_mul (by omega) (by omega), Nat.mul_comm, Int.pow_mul]
    k_steps
    · exact EndC.nlist (by assumption) (by assumption) (by k_mem) (by assumption) (putDigs_one hlo (by assumption) hhi hx hx2)
    · have hz3 : lo < (lo + hi).fdiv (2 ^ (Int.toNat 1)) := by rw [show (2 : Int) ^ (Int.toNat 1) = 2 from rfl, Int.fdiv_eq_ediv_of_nonneg _ (by decide)]; omega
      have hfd : x.fdiv (2 ^ (((lo + hi).fdiv (2 ^ (Int.toNat 1)) - lo) * n).toNat) = x / (2 ^ n.toNat) ^ ((lo + hi).fdiv (2 ^ (Int.toNat 1)) - lo).toNat := by
        rw [Int.fdiv_eq_ediv_of_nonneg _ (Int.le_of_lt (two_pow_pos _)), es]
      have hup0 : 0 ≤ x.fdiv (2 ^ (((lo + hi).fdiv (2 ^ (Int.toNat 1)) - lo) * n).toNat) := by
        rw [hfd]; exact Int.ediv_nonneg hx (Int.le_of_lt (pow_pos' hB _))
      have hup1 : x.fdiv (2 ^ (((lo + hi).fdiv (2 ^ (Int.toNat 1)) - lo) * n).toNat) < (2 ^ n.toNat) ^ (hi - (lo + hi).fdiv (2 ^ (Int.toNat 1))).toNat := by
        rw [hfd]
        refine ediv_pow_lt hB ?_
        rw [show (hi - (lo + hi).fdiv (2 ^ (Int.toNat 1))).toNat + ((lo + hi).fdiv (2 ^ (Int.toNat 1)) - lo).toNat = (hi - lo).toNat by omega]
        exact hx2
      have hlow : Builtin.bitXor x (x.fdiv (2 ^ (((lo + hi).fdiv (2 ^ (Int.toNat 1)) - lo) * n).toNat) * 2 ^ (((lo + hi).fdiv (2 ^ (Int.toNat 1)) - lo) * n).toNat) = x % (2 ^ n.toNat) ^ ((lo + hi).fdiv (2 ^ (Int.toNat 1)) - lo).toNat := by
        rw [Int.fdiv_eq_ediv_of_nonneg _ (Int.le_of_lt (two_pow_pos _)), xor_high hx, es]
      refine Halt.out (lshift_int hs0 (shift_fits hup0 hup1 (by omega) hnn.2 hs1) ?_)
      k_steps
      rename Fr _ _ _ _ => Fx
      rename News _ _ _ _ => Nx
      refine Halt.out ?_
      refine IH B' Fx X' T' rfl (rest := []) Nx (fun _ h => nomatch h) hims hlen (Fx.keep _ _ hf') (hc'.keeps Fx.keep) (Fx.keep _ _ h1') (Fx.keep _ _ h2') (Fx.keep _ _ h3') hne hlo (by omega) (by omega) (by omega) ?_ ?_ (by show dp + 1 + k < _; omega) ?_
      · rw [hlow]; exact Int.emod_nonneg _ (by have := pow_pos' hB ((lo + hi).fdiv (2 ^ (Int.toNat 1)) - lo).toNat; omega)
      · rw [hlow]; exact Int.emod_lt_of_pos _ (pow_pos' hB _)
      rw [hlow]
      intro vs1 kk1 h1x tk1 F1 N1 hi1
      rw [List.append_nil] at N1
      clear Fx Nx
      have hl1 := putDigs_length (n := n) (ms := ms) (x := x % (2 ^ n.toNat) ^ ((lo + hi).fdiv (2 ^ (Int.toNat 1)) - lo).toNat) hlo hz1 (by omega)
      k_steps
      rename Fr _ _ _ _ => Fx
      rename News _ _ _ _ => Nx
      refine Halt.out ?_
      refine IH B' Fx X' T' rfl (rest := []) Nx (fun _ h => nomatch h) hi1 (by omega) (Fx.keep _ _ hf') (hc'.keeps Fx.keep) (Fx.keep _ _ h1') (Fx.keep _ _ h2') (Fx.keep _ _ h3') hne (by omega) hz2 (by omega) (by omega) hup0 hup1 (by show dp + 1 + k < _; omega) ?_
      intro vs2 kk2 h2x tk2 F2 N2 hi2
      rw [List.append_nil] at N2
      rw [hfd, putDigs_split hlo hz1 (Int.le_of_lt hz2) hhi] at hi2
      clear Fx Nx
      k_steps
      exact EndC.nlist F2 N2 (by k_mem) hi2 rfl
end
end Mine
/-! Itd22 -/
namespace Mine
open PySem PySem.W PySem.Spec PySem.Calls PyProof.Rows
def nDigs (a n : Int) : Nat := (((Builtin.Int.intBits a : Int) + n - 1).fdiv n).toNat
def RetLT (P : Addr) (line col : Int) (qual : Str) (ms : List Int) (v : Value) (l : List (Addr × Obj)) : Prop := ∃ a vs k r, v = .ref a ∧ l = (a, W.listOf (List.toArray vs) k) :: r ∧ Tab1 P line col qual r ∧ IntsAre vs ms
theorem cnt_bounds {b : Nat} {n : Int} (hn : 1 ≤ n) (hb : b ≤ 200) : 0 ≤ ((b : Int) + n - 1).fdiv n ∧ ((b : Int) + n - 1).fdiv n ≤ 200 := by
  rw [Int.fdiv_eq_ediv_of_nonneg _ (by omega)]
  refine ⟨Int.ediv_nonneg (by omega) (by omega), ?_⟩
  have h1 : ((b : Int) + n - 1) / n < b + 1 := Int.ediv_lt_of_lt_mul (by omega) (by
    have := Int.mul_le_mul_of_nonneg_left hn (show (0 : Int) ≤ b by omega)
    rw [Int.add_mul, Int.one_mul]
    omega)
  omega
theorem EndC.listT {g h' : Heap} {L' a P c' : Addr} {m' : Str → Option Value} {all : List (Addr × Obj)} {s : Shared} {vs : List Value} {ms ns : List Int} {k : Nat} {line col : Int} {tq : Tok} {tk' : Nat} {ps vc : Array Value} {oc : Obj} {q qual : Str}
    (F : Fr g L' h' m') (N : News g L' h' all) (hm : (a, W.listOf (List.toArray vs) k) ∈ all) (hi : IntsAre vs ms) (e : ms = ns) (hm1 : (P, tabObj ps) ∈ all) (hps : ps = #[rawInt line, rawInt col, .ref c']) (hm2 : (c', oc) ∈ all) (d1 : oc.data = .fields vc) (d2 : vc[1]? = some (.str q tq)) (hq : q = qual) :
    EndC g (RetLT P line col qual ns) s (.ref a) { s with heap := h', toks := tk' } :=
  .go (news' := [(a, W.listOf (List.toArray vs) k), (P, tabObj ps), (c', oc)]) F N ⟨a, vs, k, [(P, tabObj ps), (c', oc)], rfl, rfl, ⟨c', oc, vc, tq, by rw [hps], d1, by rw [← hq]; exact d2⟩, e ▸ hi⟩ (fun p hp => by
    rcases List.mem_cons.mp hp with rfl | hp
    · exact hm
    rcases List.mem_cons.mp hp with rfl | hp
    · exact hm1
    · rw [List.mem_singleton.mp hp]; exact hm2)
def RetLS (sub : List (Addr × Obj)) (ms : List Int) (v : Value) (l : List (Addr × Obj)) : Prop := ∃ a vs k, v = .ref a ∧ l = (a, W.listOf (List.toArray vs) k) :: sub ∧ IntsAre vs ms
theorem EndC.listS {g h' : Heap} {L' a : Addr} {m' : Str → Option Value} {all : List (Addr × Obj)} {p q : Addr × Obj} {s : Shared} {vs : List Value} {ms ns : List Int} {k : Nat} {tk' : Nat}
    (F : Fr g L' h' m') (N : News g L' h' all) (hm : (a, W.listOf (List.toArray vs) k) ∈ all) (hi : IntsAre vs ms) (e : ms = ns) (hm1 : p ∈ all) (hm2 : q ∈ all) : EndC g (RetLS [p, q] ns) s (.ref a) { s with heap := h', toks := tk' } :=
  .go (news' := [(a, W.listOf (List.toArray vs) k), p, q]) F N ⟨a, vs, k, rfl, rfl, e ▸ hi⟩ (fun r hr => by
    rcases List.mem_cons.mp hr with rfl | hr
    · exact hm
    rcases List.mem_cons.mp hr with rfl | hr
    · exact hm1
    · rw [List.mem_singleton.mp hr]; exact hm2)
theorem News.pull2 {h₀ h : Heap} {L : Addr} {a b : Addr × Obj} {r : List (Addr × Obj)} (N : News h₀ L h (a :: b :: r)) : News h₀ L h ([b] ++ (a :: r)) := News.sub N (by
  intro p hp
  simp only [List.cons_append, List.nil_append, List.mem_cons] at hp ⊢
  rcases hp with h | h | h <;> simp [h])
theorem News.pull3 {h₀ h : Heap} {L : Addr} {a b c : Addr × Obj} {r : List (Addr × Obj)} (N : News h₀ L h (a :: b :: c :: r)) : News h₀ L h ([c] ++ (a :: b :: r)) := News.sub N (by
  intro p hp
  simp only [List.cons_append, List.nil_append, List.mem_cons] at hp ⊢
  rcases hp with h | h | h | h <;> simp [h])
theorem off_one {q : Addr × Obj} {rest : List (Addr × Obj)} (h : ∀ p ∈ rest, p.1 ≠ q.1) : ∀ p ∈ rest, p.1 ∉ [q].map (·.1) := fun p hp => by simpa using h p hp
theorem fits_digs {x n : Int} (hx : 0 ≤ x) (hn : 1 ≤ n) : x < (2 ^ n.toNat) ^ nDigs x n := by
  have h1 : x.natAbs < 2 ^ Builtin.Int.intBits x := intBits_le_iff.mp (Nat.le_refl _)
  have h2 : x < 2 ^ Builtin.Int.intBits x := by
    have : ((x.natAbs : Nat) : Int) < ((2 ^ Builtin.Int.intBits x : Nat) : Int) := by exact_mod_cast h1
    rwa [Int.natAbs_of_nonneg hx, Int.natCast_pow] at this
  refine Int.lt_of_lt_of_le h2 ?_
  rw [← Int.pow_mul]
  refine pow_le (by decide) ?_
  have h3 := Int.mul_ediv_add_emod ((Builtin.Int.intBits x : Int) + n - 1) n
  have h4 := Int.emod_lt_of_pos ((Builtin.Int.intBits x : Int) + n - 1) (show 0 < n by omega)
  have h5 : 0 ≤ ((Builtin.Int.intBits x : Int) + n - 1) / n := Int.ediv_nonneg (by omega) (by omega)
  have h6 : ((n.toNat * nDigs x n : Nat) : Int) = n * (((Builtin.Int.intBits x : Int) + n - 1) / n) := by
    rw [nDigs, Int.fdiv_eq_ediv_of_nonneg _ (by omega), Int.natCast_mul, Int.toNat_of_nonneg (by omega), Int.toNat_of_nonneg h5]
  omega
theorem flat_zeros (k : Nat) : (List.replicate k [(0 : Int)]).flatten = List.replicate k 0 := by
  induction k with
  | zero => rfl
  | succ k ih => rw [List.replicate_succ, List.flatten_cons, ih, List.replicate_succ]; rfl
theorem nDigs_pos {x n : Int} (hx : 0 ≤ x) (hn : 1 ≤ n) (h0 : x ≠ 0) : 0 < nDigs x n := by
  have h := fits_digs hx hn
  rcases Nat.eq_zero_or_pos (nDigs x n) with e | e
  · rw [e, Int.pow_zero] at h; omega
  · exact e
theorem putDigs_all {n x : Int} {k : Nat} : putDigs n (List.replicate k 0) 0 k x = (bdig (2 ^ n.toNat) k x).reverse := by
  simp [putDigs]
theorem nDigs_le {x n : Int} (hn : 1 ≤ n) (hb : Builtin.Int.intBits x ≤ 200) : nDigs x n ≤ 200 := by
  have := cnt_bounds hn hb
  rw [nDigs]; omega
section
local macro_rules | `(tactic| walk_at "call ref") => `(tactic| refine Halt.mk ?_)
set_option maxHeartbeats 8000000 in
theorem int2digits_F {w : World} {p : Program} {loose : List Str} {mean : ExcName → Option Value} {mg mb : Str → Option Value} {dp un : Nat} {gd : Option (List Code)} {cn : Str} {cs : Scope} {a : Addr} {ccd : Value} {cl : List (Str × Addr)} {outer : List Env} {A₀ : Around} {base h₀ : Heap} {L : Addr} {m : Str → Option Value} {s : Shared} {Q E : Value → Shared → Prop}
  (B : Below A₀ base outer h₀) (F : Fr h₀ L s.heap m) (X : (hd.heap_39 w.params).In h₀) (T : Top p loose mean mg mb h₀) (hk : cs.kind = .function) {rest : List (Addr × Obj)} (N : News h₀ L s.heap ([(37, tabObj #[])] ++ rest)) (hdis : ∀ p ∈ rest, p.1 ∉ ([(37, tabObj #[])] : List (Addr × Obj)).map (·.1)) (C : CodeHd base 41 37)
  {x n : Int} {tx tn : Tok} (hx : 0 ≤ x) (hnn : 1 ≤ n ∧ n ≤ 200) (hbits : Builtin.Int.intBits x ≤ 200)
  (hd : dp + 300 < recursionLimit)
  (ret : ∀ l' vs' k' r h' tk', Fr h₀ L h' m → News h₀ L h' ((l', W.listOf (List.toArray vs') k') :: r ++ rest) → (∀ p ∈ (l', W.listOf (List.toArray vs') k') :: r, p.1 ∈ ([(37, tabObj #[])] : List (Addr × Obj)).map (·.1) ∨ s.heap.get? p.1 = none) → Tab1 37 35 4 (Str.ofString "_int2digits.<locals>.inner") r → IntsAre vs' (bdig (2 ^ n.toNat) (nDigs x n) x).reverse → Q (.ref l') { s with heap := h', toks := tk' }) :
  wpAny (model PySem.Challenge.rw_qh0022_01.row.prog w) (ktrTop dp un gd cn cs L a ccd cl outer) (call (.ref 42) [.int x tx, .int n tn]) Q E s := by
  refine' enterCK (sub := [(37, tabObj #[])]) (rest := rest) (RetLT 37 35 4 (Str.ofString "_int2digits.<locals>.inner") (bdig (2 ^ n.toNat) (nDigs x n) x).reverse) ?k1 ?k2 ?k3 ?k4 ?k5 ?kA ?kF ?kK ?kD ?k6 ?k7 ?k8 ?k9 ?kB ?kN ?kR ?_ ?c2 ?c3 ?c4
  case k1 => exact B
  case k2 => exact F
  case k3 => exact X
  case k4 => exact N
  case k5 => exact T
  case kA => exact rfl
  case kF => exact rfl
  case kK => exact hk
  case k6 => k_is
  case k7 => k_is
  case k8 => show dp < _; omega
  case k9 => first | exact BindsTo.of_eq rfl | exact binds_K (by k_in) rfl (by k_is) rfl rfl rfl
  case kB => exact rfl
  case kN => decide +kernel
  case c2 => exact rfl
  case c3 => exact rfl
  case c4 => exact rfl
  case kD => exact hdis
  case kR => 
    rintro r news' h' tk' F' N' hf' ⟨l', vs', k', r', rfl, rfl, hT, hi⟩
    exact ret l' vs' k' r' h' tk' F' N' hf' hT hi
  intro g' L' h' tk' cells' F' N' Y' B' X' T' l1 hg'
  clear hg' ret B F X N T
  k_cells Y'
  (try simp only [List.cons_append, List.nil_append] at N')
  (try k_lt l1)
  have hcnt := cnt_bounds hnn.1 hbits
  k_steps
  · refine Halt.out ?_
    rename Fr _ _ _ _ => Fx
    rename News _ _ _ _ => Nx
    rename (List.length (List.flatten _) = _) => e1
    rw [flat_zeros, List.length_replicate] at e1
    change nDigs x n = _ at e1
    have hcn := nDigs_le hnn.1 hbits
    have hcp := nDigs_pos hx hnn.1 (by assumption)
    have hfit := fits_digs hx hnn.1
    rename IntsAre _ _ => hz0
    rw [flat_zeros] at hz0
    change IntsAre _ (List.replicate (nDigs x n) 0) at hz0
    subst e1
    have Ny := News.pull3 Nx
    refine' inner_i2d ?hn hnn ?hd1 ?hd2 ?hd3 200 B' Fx X' T' rfl Ny ?hdis hz0 ?hlen ?hf ?hc ?h1 ?h2 ?h3 ?hne (Int.le_refl 0) ?_ ?_ ?_ hx ?_ ?_ ?_
    case hf => exact News.get Nx (by k_mem)
    case h1 => exact News.get Nx (by k_mem)
    case h2 => exact News.get Nx (by k_mem)
    case h3 => exact News.get Nx (by k_mem)
    case hn => exact of_nested (by k_is) rfl
    case hd1 => assumption
    case hd2 => assumption
    case hd3 => assumption
    case hc => exact codeRec_news Nx (by k_mem) (by assumption) (by assumption)
    case hdis => exact off_one (by k_all)
    case hne => (refine ⟨?_, ?_, ?_, ?_, ?_⟩) <;> k_ne
    case hlen => rw [List.length_replicate]; exact hcn
    · omega
    · rw [List.length_replicate]; exact Int.le_refl _
    · omega
    · rw [show ((nDigs x n : Int) - 0).toNat = nDigs x n by omega]; exact hfit
    · show dp + 1 + 200 < _; omega
    intro vs1 kk1 h1x tk1 F1 N1 hi1
    rw [putDigs_all] at hi1
    clear Fx Nx Ny
    k_steps
    exact EndC.listT F1 N1 (by k_mem) hi1 rfl (by k_mem) rfl (by k_mem) (by assumption) (by assumption) rfl
  · refine EndC.listT (by assumption) (by assumption) (by k_mem) (by assumption) ?_ (by k_mem) rfl (by k_mem) (by assumption) (by assumption) rfl
    rw [flat_zeros, show x = 0 by assumption, bdig_zero, List.reverse_replicate]; rfl
set_option maxHeartbeats 8000000 in
theorem int2digits_H {w : World} {p : Program} {loose : List Str} {mean : ExcName → Option Value} {mg mb : Str → Option Value} {dp un : Nat} {gd : Option (List Code)} {cn : Str} {cs : Scope} {a : Addr} {ccd : Value} {cl : List (Str × Addr)} {outer : List Env} {A₀ : Around} {base h₀ : Heap} {L : Addr} {m : Str → Option Value} {s : Shared} {Q E : Value → Shared → Prop}
  (B : Below A₀ base outer h₀) (F : Fr h₀ L s.heap m) (X : (hd.heap_39 w.params).In h₀) (T : Top p loose mean mg mb h₀) (hk : cs.kind = .function) {rest : List (Addr × Obj)} {cc : Addr} {oc : Obj} {vsc : Array Value} {tq : Tok} (hoc : oc.data = .fields vsc) (hvc : vsc[1]? = some (.str (Str.ofString "_int2digits.<locals>.inner") tq)) (N : News h₀ L s.heap ([(37, tabObj #[rawInt 35, rawInt 4, .ref cc]), (cc, oc)] ++ rest)) (hdis : ∀ p ∈ rest, p.1 ∉ ([(37, tabObj #[rawInt 35, rawInt 4, .ref cc]), (cc, oc)] : List (Addr × Obj)).map (·.1)) (C : CodeHd base 41 37)
  {x n : Int} {tx tn : Tok} (hx : 0 ≤ x) (hnn : 1 ≤ n ∧ n ≤ 200) (hbits : Builtin.Int.intBits x ≤ 200)
  (hd : dp + 300 < recursionLimit)
  (ret : ∀ l' vs' k' h' tk', Fr h₀ L h' m → News h₀ L h' ((l', W.listOf (List.toArray vs') k') :: [(37, tabObj #[rawInt 35, rawInt 4, .ref cc]), (cc, oc)] ++ rest) → (l' ∈ ([(37, tabObj #[rawInt 35, rawInt 4, .ref cc]), (cc, oc)] : List (Addr × Obj)).map (·.1) ∨ s.heap.get? l' = none) → IntsAre vs' (bdig (2 ^ n.toNat) (nDigs x n) x).reverse → Q (.ref l') { s with heap := h', toks := tk' }) :
  wpAny (model PySem.Challenge.rw_qh0022_01.row.prog w) (ktrTop dp un gd cn cs L a ccd cl outer) (call (.ref 42) [.int x tx, .int n tn]) Q E s := by
  refine' enterCK (sub := [(37, tabObj #[rawInt 35, rawInt 4, .ref cc]), (cc, oc)]) (rest := rest) (RetLS [(37, tabObj #[rawInt 35, rawInt 4, .ref cc]), (cc, oc)] (bdig (2 ^ n.toNat) (nDigs x n) x).reverse) ?k1 ?k2 ?k3 ?k4 ?k5 ?kA ?kF ?kK ?kD ?k6 ?k7 ?k8 ?k9 ?kB ?kN ?kR ?_ ?c2 ?c3 ?c4
  case k1 => exact B
  case k2 => exact F
  case k3 => exact X
  case k4 => exact N
  case k5 => exact T
  case kA => exact rfl
  case kF => exact rfl
  case kK => exact hk
  case k6 => k_is
  case k7 => k_is
  case k8 => show dp < _; omega
  case k9 => first | exact BindsTo.of_eq rfl | exact binds_K (by k_in) rfl (by k_is) rfl rfl rfl
  case kB => exact rfl
  case kN => decide +kernel
  case c2 => exact rfl
  case c3 => exact rfl
  case c4 => exact rfl
  case kD => exact hdis
  case kR => 
    rintro r news' h' tk' F' N' hf' ⟨l', vs', k', rfl, rfl, hi⟩
    exact ret l' vs' k' h' tk' F' N' (hf' _ (.head _)) hi
  intro g' L' h' tk' cells' F' N' Y' B' X' T' l1 hg'
  clear hg' ret B F X N T
  k_cells Y'
  (try simp only [List.cons_append, List.nil_append] at N')
  (try k_lt l1)
  have hcnt := cnt_bounds hnn.1 hbits
  k_steps
  · refine Halt.out ?_
    rename Fr _ _ _ _ => Fx
    rename News _ _ _ _ => Nx
    rename (List.length (List.flatten _) = _) => e1
    rw [flat_zeros, List.length_replicate] at e1
    change nDigs x n = _ at e1
    have hcn := nDigs_le hnn.1 hbits
    have hcp := nDigs_pos hx hnn.1 (by assumption)
    have hfit := fits_digs hx hnn.1
    rename IntsAre _ _ => hz0
    rw [flat_zeros] at hz0
    change IntsAre _ (List.replicate (nDigs x n) 0) at hz0
    subst e1
    have Ny := News.pull2 Nx
    refine' inner_i2d ?hn hnn ?hd1 ?hd2 ?hd3 200 B' Fx X' T' rfl Ny ?hdis hz0 ?hlen ?hf ?hc ?h1 ?h2 ?h3 ?hne (Int.le_refl 0) ?_ ?_ ?_ hx ?_ ?_ ?_
    case hf => exact News.get Nx (by k_mem)
    case h1 => exact News.get Nx (by k_mem)
    case h2 => exact News.get Nx (by k_mem)
    case h3 => exact News.get Nx (by k_mem)
    case hn => exact of_nested (by k_is) rfl
    case hd1 => assumption
    case hd2 => assumption
    case hd3 => assumption
    case hc => exact codeRec_news Nx (by k_mem) (by assumption) (by assumption)
    case hdis => exact off_one (by k_all)
    case hne => (refine ⟨?_, ?_, ?_, ?_, ?_⟩) <;> k_ne
    case hlen => rw [List.length_replicate]; exact hcn
    · omega
    · rw [List.length_replicate]; exact Int.le_refl _
    · omega
    · rw [show ((nDigs x n : Int) - 0).toNat = nDigs x n by omega]; exact hfit
    · show dp + 1 + 200 < _; omega
    intro vs1 kk1 h1x tk1 F1 N1 hi1
    rw [putDigs_all] at hi1
    clear Fx Nx Ny
    k_steps
    exact EndC.listS F1 N1 (by k_mem) hi1 rfl (by k_mem) (by k_mem)
  · refine EndC.listS (by assumption) (by assumption) (by k_mem) (by assumption) ?_ (by k_mem) (by k_mem)
    rw [flat_zeros, show x = 0 by assumption, bdig_zero, List.reverse_replicate]; rfl
end
end Mine
/-! Dvn22 -/
namespace Mine
open PySem PySem.W PySem.Spec PySem.Calls PyProof.Rows
abbrev tupObj (vs : Array Value) : Obj := { cls := .type "tuple", data := .seq vs }
def RetP (x y : Int) (v : Value) (l : List (Addr × Obj)) : Prop := ∃ a t u k, v = .ref a ∧ l = [(a, { cls := .type "tuple", data := .seq #[.int x t, .int y u] k })]
theorem noPylong_bits {x y : Int} (hy : 0 < y) (h : Builtin.Int.intBits y ≤ 200) : Builtin.divisionGoesByPylong x y = false := by
  refine PyProof.noPylong_of_log2 ?_
  have h1 := intBits_le_iff.mp h
  have h2 : y.natAbs.log2 < 200 := (Nat.log2_lt (by omega)).mpr h1
  omega
section
local macro_rules | `(tactic| walk_at "call builtin:divmod") => `(tactic| refine Halt.mk ?_)
local macro_rules | `(tactic| walk_at "call ref") => `(tactic| refine Halt.mk ?_)
set_option maxHeartbeats 8000000 in
theorem div2n1n_spec {w : World} {p : Program} {loose : List Str} {mean : ExcName → Option Value} {mg mb : Str → Option Value} {dp un : Nat} {gd : Option (List Code)} {cn : Str} {cs : Scope} {a : Addr} {ccd : Value} {cl : List (Str × Addr)} {outer : List Env} {A₀ : Around} {base h₀ : Heap} {L : Addr} {m : Str → Option Value} {s : Shared} {Q E : Value → Shared → Prop}
  (B : Below A₀ base outer h₀) (F : Fr h₀ L s.heap m) (X : (hd.heap_39 w.params).In h₀) (T : Top p loose mean mg mb h₀) (hk : cs.kind = .function) {news : List (Addr × Obj)} (N : News h₀ L s.heap news)
  {x y n : Int} {tx ty tn : Tok} (hx : 0 ≤ x) (hy : 0 < y) (hn : 0 ≤ n) (hb : Builtin.Int.intBits x ≤ 4000) (hyb : Builtin.Int.intBits y ≤ 200)
  (hd : dp + 3 < recursionLimit)
  (ret : ∀ a t u k h' tk', Fr h₀ L h' m → News h₀ L h' ((a, { cls := .type "tuple", data := .seq #[.int (x / y) t, .int (x % y) u] k }) :: news) → s.heap.get? a = none → Q (.ref a) { s with heap := h', toks := tk' }) :
  wpAny (model PySem.Challenge.rw_qh0022_01.row.prog w) (ktrTop dp un gd cn cs L a ccd cl outer) (call (.ref 28) [.int x tx, .int y ty, .int n tn]) Q E s := by
  refine' enterPK (sub := []) (rest := news) (RetP (x / y) (x % y)) ?k1 ?k2 ?k3 ?k4 ?k5 ?kA ?kF ?kK ?kD ?k6 ?k7 ?k8 ?k9 ?kB ?kR ?_ ?c2 ?c3 ?c4 ?c5
  case k1 => exact B
  case k2 => exact F
  case k3 => exact X
  case k4 => exact N
  case k5 => exact T
  case kA => exact rfl
  case kF => exact rfl
  case kK => exact hk
  case k6 => k_is
  case k7 => k_is
  case k8 => show dp < _; omega
  case k9 => first | exact BindsTo.of_eq rfl | exact binds_K (by k_in) rfl (by k_is) rfl rfl rfl
  case kB => exact locs rfl
  case c5 => decide
  case c2 => exact rfl
  case c3 => exact rfl
  case c4 => exact rfl
  case kD => intro p hp; simp
  case kR => 
    rintro r news' h' tk' F' N' hf' ⟨a, t, u, k, rfl, rfl⟩
    exact ret a t u k h' tk' F' N' (by simpa using hf' _ (by exact .head _))
  intro g' L' h' F' N' B' X' T' l1 hg'
  clear hg' ret B F X N T
  k_steps
  refine Halt.out (divmod_N F' N' (by omega) ?_ (.inl (noPylong_bits hy hyb)))
  intro h1x F1 N1
  rw [Int.fdiv_eq_ediv_of_nonneg _ (by omega), Int.fmod_eq_emod_of_nonneg _ (by omega)] at N1
  exact EndC.go F1 N1 (news' := [_]) ⟨_, _, _, _, rfl, rfl⟩ (fun _ h => h)
end
end Mine
/-! Dpo22 -/
namespace Mine
open PySem PySem.W PySem.Spec PySem.Calls PyProof.Rows
abbrev subI (cc : Addr) (oc : Obj) : List (Addr × Obj) := [(37, tabObj #[rawInt 35, rawInt 4, .ref cc]), (cc, oc)]
abbrev subD (cd : Addr) (od : Obj) : List (Addr × Obj) := [(44, tabObj #[rawInt 50, rawInt 4, .ref cd]), (cd, od)]
/-- the two tables, made -/
structure Made2 (cc : Addr) (oc : Obj) (cd : Addr) (od : Obj) : Prop where
  i : ∃ vs t, oc.data = .fields vs ∧ vs[1]? = some (.str (Str.ofString "_int2digits.<locals>.inner") t)
  d : ∃ vs t, od.data = .fields vs ∧ vs[1]? = some (.str (Str.ofString "_digits2int.<locals>.inner") t)
  n1 : @Ne Nat cc cd
  n2 : @Ne Nat cc 44
  n3 : @Ne Nat cd 37
  n4 : @Ne Nat cc 37
  n5 : @Ne Nat cd 44
theorem News.swap23 {h₀ h : Heap} {L : Addr} {a b c : Addr × Obj} {r : List (Addr × Obj)} (N : News h₀ L h (a :: b :: c :: r)) : News h₀ L h (a :: c :: b :: r) := News.sub N (by
  intro p hp
  simp only [List.mem_cons] at hp ⊢
  rcases hp with h | h | h | h <;> simp [h])
theorem ne_of_none {h : Heap} {a b : Addr} {o : Obj} (h1 : h.get? a = none) (h2 : h.get? b = some o) : @Ne Nat a b := fun e => by
  have e' : a = b := e
  rw [e', h2] at h1; cases h1
theorem div_step {P B d y : Int} (hy : 0 < y) : (P * B + d) / y = (P / y) * B + ((P % y) * B + d) / y ∧ (P * B + d) % y = ((P % y) * B + d) % y := by
  have e : P * B + d = ((P % y) * B + d) + ((P / y) * B) * y := by
    have h := Int.mul_ediv_add_emod P y
    have h2 : P * B = (y * (P / y) + P % y) * B := by rw [h]
    rw [h2, Int.add_mul, Int.mul_comm y, Int.mul_right_comm (P / y) y B]
    omega
  constructor
  · rw [e, Int.add_mul_ediv_right _ _ (by omega)]; omega
  · rw [e, Int.add_mul_emod_self_right]
theorem lt_two_bits {y : Int} (hy : 0 ≤ y) : y < 2 ^ Builtin.Int.intBits y := by
  have h1 : y.natAbs < 2 ^ Builtin.Int.intBits y := intBits_le_iff.mp (Nat.le_refl _)
  have : ((y.natAbs : Nat) : Int) < ((2 ^ Builtin.Int.intBits y : Nat) : Int) := by exact_mod_cast h1
  rwa [Int.natAbs_of_nonneg hy, Int.natCast_pow] at this
theorem digit_lt {r d y B : Int} (hr : r < y) (hd : d < B) (hB : 0 < B) : r * B + d < B * y := by
  have h1 := Int.mul_le_mul_of_nonneg_right (show r + 1 ≤ y by omega) (Int.le_of_lt hB)
  rw [Int.add_mul, Int.one_mul] at h1
  rw [Int.mul_comm B]; omega
theorem bits_pos {y : Int} (hy : 0 < y) : 1 ≤ Builtin.Int.intBits y := by
  have h := lt_two_bits (Int.le_of_lt hy)
  rcases Nat.eq_zero_or_pos (Builtin.Int.intBits y) with e | e
  · rw [e, Int.pow_zero] at h; omega
  · exact e
theorem News.pull56 {h₀ h : Heap} {L : Addr} {a b c d e f : Addr × Obj} {r : List (Addr × Obj)} (N : News h₀ L h (a :: b :: c :: d :: e :: f :: r)) : News h₀ L h ([e, f] ++ (a :: b :: c :: d :: r)) := News.sub N (by
  intro p hp
  simp only [List.cons_append, List.nil_append, List.mem_cons] at hp ⊢
  rcases hp with h | h | h | h | h | h | h <;> simp [h])
theorem News.neD {h₀ h : Heap} {L a b : Addr} {o o' : Obj} {l : List (Addr × Obj)} (N : News h₀ L h l) (h1 : (a, o) ∈ l) (h2 : (b, o') ∈ l) (hd : o.data ≠ o'.data) : @Ne Nat a b := fun e => by
  have e' : a = b := e
  have := (N _ h1).1
  rw [show ((a, o) : Addr × Obj).1 = b from e', (N _ h2).1] at this
  exact hd (congrArg Obj.data (Option.some.inj this)).symm
theorem off_two {q q' : Addr × Obj} {rest : List (Addr × Obj)} (h : ∀ p ∈ rest, p.1 ≠ q.1) (h' : ∀ p ∈ rest, p.1 ≠ q'.1) : ∀ p ∈ rest, p.1 ∉ [q, q'].map (·.1) := fun p hp => by
  simpa using ⟨h p hp, h' p hp⟩
theorem not_two {a : Addr} {q q' : Addr × Obj} (h : a ≠ q.1) (h' : a ≠ q'.1) : a ∉ [q, q'].map (·.1) := by simpa using ⟨h, h'⟩
abbrev pairObj (x y : Int) (t u : Tok) (k : Nat) : Obj := { cls := .type "tuple", data := .seq #[.int x t, .int y u] k }
def RetPS (sub : List (Addr × Obj)) (x y : Int) (v : Value) (l : List (Addr × Obj)) : Prop := ∃ a t u k, v = .ref a ∧ l = (a, pairObj x y t u k) :: sub
theorem EndC.pairS {g h' : Heap} {L' a : Addr} {m' : Str → Option Value} {all sub : List (Addr × Obj)} {s : Shared} {x y x' y' : Int} {t u : Tok} {k : Nat} {tk' : Nat}
    (F : Fr g L' h' m') (N : News g L' h' all) (hm : (a, pairObj x' y' t u k) ∈ all) (hs : ∀ p ∈ sub, p ∈ all) (ex : x' = x) (ey : y' = y) : EndC g (RetPS sub x y) s (.ref a) { s with heap := h', toks := tk' } :=
  .go (news' := (a, pairObj x' y' t u k) :: sub) F N ⟨a, t, u, k, rfl, by rw [ex, ey]⟩ (fun q h => by
    rcases List.mem_cons.mp h with rfl | h
    · exact hm
    · exact hs q h)
/-- what holds between the turns of the division's loop -/
def DivJ (n y : Int) (tn ty : Tok) (lq : Addr) (sub : List (Addr × Obj)) (ds : List Int) (i : Nat) (m₁ : Str → Option Value) (news₁ : List (Addr × Obj)) : Prop :=
  ∃ (r : Int) (tr : Tok) (vq : List Value) (kq : Nat) (qs : List Int), m₁ (Str.ofString "r") = some (.int r tr) ∧ m₁ (Str.ofString "q_digits") = some (.ref lq) ∧ m₁ (Str.ofString "n") = some (.int n tn) ∧ m₁ (Str.ofString "b") = some (.int y ty) ∧
    news₁ = (lq, W.listOf (List.toArray vq) kq) :: sub ∧ IntsAre vq qs ∧ qs.length = i ∧ (∀ q ∈ qs, 0 ≤ q ∧ q < 2 ^ n.toNat) ∧ val (2 ^ n.toNat) qs = val (2 ^ n.toNat) (ds.take i) / y ∧ r = val (2 ^ n.toNat) (ds.take i) % y
theorem DivJ.start {n y : Int} {tn ty tr : Tok} {lq : Addr} {sub : List (Addr × Obj)} {ds : List Int} {m₁ : Str → Option Value} {k : Nat} (e1 : m₁ (Str.ofString "r") = some (.int 0 tr)) (e2 : m₁ (Str.ofString "q_digits") = some (.ref lq)) (e3 : m₁ (Str.ofString "n") = some (.int n tn)) (e4 : m₁ (Str.ofString "b") = some (.int y ty)) :
    DivJ n y tn ty lq sub ds 0 m₁ ((lq, W.listOf (List.toArray []) k) :: sub) := ⟨0, tr, [], k, [], e1, e2, e3, e4, rfl, .nil, rfl, (fun _ h => nomatch h), by simp [val], by simp [val]⟩
theorem DivJ.next {n y : Int} {tn ty tr t : Tok} {lq : Addr} {sub : List (Addr × Obj)} {ds qs : List Int} {i k : Nat} {m₁ : Str → Option Value} {vq : List Value} {r d : Int} (hy : 0 < y) (hBp : (0 : Int) < 2 ^ n.toNat)
    (hiq : IntsAre vq qs) (hlq : qs.length = i) (hqs : ∀ q ∈ qs, 0 ≤ q ∧ q < 2 ^ n.toNat) (hval : val (2 ^ n.toNat) qs = val (2 ^ n.toNat) (ds.take i) / y) (hr : r = val (2 ^ n.toNat) (ds.take i) % y) (hd : ds[i]? = some d) (hdm : 0 ≤ d ∧ d < 2 ^ n.toNat)
    (e1 : m₁ (Str.ofString "r") = some (.int ((r * 2 ^ n.toNat + d) % y) tr)) (e2 : m₁ (Str.ofString "q_digits") = some (.ref lq)) (e3 : m₁ (Str.ofString "n") = some (.int n tn)) (e4 : m₁ (Str.ofString "b") = some (.int y ty)) :
    DivJ n y tn ty lq sub ds (i + 1) m₁ ((lq, W.listOf ((List.toArray vq).push (.int ((r * 2 ^ n.toNat + d) / y) t)) k) :: sub) := by
  have hs : val (2 ^ n.toNat) (ds.take (i + 1)) = val (2 ^ n.toNat) (ds.take i) * 2 ^ n.toNat + d := by
    rw [List.take_add_one, hd, Option.toList_some, val_snoc]
  have st := div_step (P := val (2 ^ n.toNat) (ds.take i)) (B := 2 ^ n.toNat) (d := d) hy
  have hr0 : 0 ≤ r := by rw [hr]; exact Int.emod_nonneg _ (by omega)
  have hr1 : r < y := by rw [hr]; exact Int.emod_lt_of_pos _ hy
  refine ⟨_, tr, vq ++ [.int ((r * 2 ^ n.toNat + d) / y) t], k, qs ++ [(r * 2 ^ n.toNat + d) / y], e1, e2, e3, e4, by simp, hiq.append (.cons _ _ .nil), by simp [hlq], ?_, ?_, ?_⟩
  · intro q hq
    rcases List.mem_append.mp hq with h | h
    · exact hqs q h
    · rw [List.mem_singleton.mp h]
      exact ⟨Int.ediv_nonneg (by have := Int.mul_nonneg hr0 (Int.le_of_lt hBp); omega) (by omega), Int.ediv_lt_of_lt_mul hy (digit_lt hr1 hdm.2 hBp)⟩
  · rw [val_snoc, hval, hs, st.1, hr]
  · rw [hs, st.2, hr]
section
local macro_rules | `(tactic| walk_at "call builtin:list.reverse") => `(tactic| refine Halt.mk ?_)
local macro_rules | `(tactic| walk_at "binaryOp LShift int int") => `(tactic| refine Halt.mk ?_)
local macro_rules | `(tactic| walk_at "pyIter ref") => `(tactic| refine Halt.mk ?_)
local macro_rules | `(tactic| walk_at "call type:reversed") => `(tactic| (k_here; k_dflt (refine krv_reversed (by k_asm) (by k_asm) (by is_list) ?_); intro I' h' F' N' l1; (try k_lt l1); (try k_sweep)))
local macro_rules | `(tactic| walk_at "call ref") => `(tactic| refine Halt.mk ?_)
local macro_rules | `(tactic| walk_at "exec For Name Call cons nil") => `(tactic| refine Halt.mk ?_)
set_option maxHeartbeats 8000000 in
theorem divmod_pos_spec {w : World} {p : Program} {loose : List Str} {mean : ExcName → Option Value} {mg mb : Str → Option Value} {dp un : Nat} {gd : Option (List Code)} {cn : Str} {cs : Scope} {a : Addr} {ccd : Value} {cl : List (Str × Addr)} {outer : List Env} {A₀ : Around} {base h₀ : Heap} {L : Addr} {m : Str → Option Value} {s : Shared} {Q E : Value → Shared → Prop}
  (B : Below A₀ base outer h₀) (F : Fr h₀ L s.heap m) (X : (hd.heap_39 w.params).In h₀) (T : Top p loose mean mg mb h₀) (hk : cs.kind = .function) {rest : List (Addr × Obj)} {cc cd : Addr} {oc od : Obj} (M : Made2 cc oc cd od) (N : News h₀ L s.heap ((subI cc oc ++ subD cd od) ++ rest)) (hdis : ∀ p ∈ rest, p.1 ∉ (subI cc oc ++ subD cd od).map (·.1)) (C1 : CodeHd base 41 37) (C2 : CodeHd base 48 44)
  {x y : Int} {tx ty : Tok} (hx : 0 ≤ x) (hy : 0 < y) (hxb : Builtin.Int.intBits x ≤ 200) (hyb : Builtin.Int.intBits y ≤ 200)
  (hd : dp + 400 < recursionLimit)
  (ret : ∀ a t u k h' tk', Fr h₀ L h' m → News h₀ L h' ((a, pairObj (x / y) (x % y) t u k) :: (subI cc oc ++ subD cd od) ++ rest) → (a ∈ (subI cc oc ++ subD cd od).map (·.1) ∨ s.heap.get? a = none) → Q (.ref a) { s with heap := h', toks := tk' }) :
  wpAny (model PySem.Challenge.rw_qh0022_01.row.prog w) (ktrTop dp un gd cn cs L a ccd cl outer) (call (.ref 56) [.int x tx, .int y ty]) Q E s := by
  refine' enterPK (sub := subI cc oc ++ subD cd od) (rest := rest) (RetPS (subI cc oc ++ subD cd od) (x / y) (x % y)) ?k1 ?k2 ?k3 ?k4 ?k5 ?kA ?kF ?kK ?kD ?k6 ?k7 ?k8 ?k9 ?kB ?kR ?_ ?c2 ?c3 ?c4 ?c5
  case k1 => exact B
  case k2 => exact F
  case k3 => exact X
  case k4 => exact N
  case k5 => exact T
  case kA => exact rfl
  case kF => exact rfl
  case kK => exact hk
  case k6 => k_is
  case k7 => k_is
  case k8 => show dp < _; omega
  case k9 => first | exact BindsTo.of_eq rfl | exact binds_K (by k_in) rfl (by k_is) rfl rfl rfl
  case kB => exact locs rfl
  case c5 => decide
  case c2 => exact rfl
  case c3 => exact rfl
  case c4 => exact rfl
  case kD => exact hdis
  case kR => 
    rintro r news' h' tk' F' N' hf' ⟨a, t, u, k, rfl, rfl⟩
    exact ret a t u k h' tk' F' N' (hf' _ (.head _))
  intro g' L' h' F' N' B' X' T' l1 hg'
  clear hg' ret B F X N T
  simp only [subI, subD, List.cons_append, List.nil_append] at N' l1
  (try k_lt l1)
  obtain ⟨⟨vsi, ti, hoc, hvc⟩, ⟨vsd, td, hod, hvd⟩, n1, n2, n3, n4, n5⟩ := M
  have hB : 1 ≤ Builtin.Int.intBits y := bits_pos hy
  k_steps
  refine Halt.out ?_
  rename Fr _ _ _ _ => Fx
  rename News _ _ _ _ => Nx
  refine int2digits_H B' Fx X' T' rfl hoc hvc (rest := subD cd od) Nx (off_two (by k_all) (by k_all)) C1 hx (by omega) hxb ?_ ?_
  · show dp + 1 + 300 < _; omega
  intro l1' vs1 k1 h1x tk1 F1 N1 hl1 hi1
  simp only [subD, List.cons_append, List.nil_append] at N1
  clear Fx Nx
  have hk1 : @Ne Nat l1' 44 := News.neD N1 (by k_mem) (by k_mem) (by intro h; cases h)
  have hk2 : @Ne Nat l1' cd := News.neD N1 (by k_mem) (by k_mem) (by rw [hod]; intro h; cases h)
  k_steps
  refine Halt.out ?_
  rename Fr _ _ _ _ => Fx
  rename News _ _ _ _ => Nx
  refine For_invV g' rfl rfl ?_
  k_steps
  refine Halt.out ?_
  rename Fr _ _ _ _ => Fx
  rename News _ _ _ _ => Nx
  have hlen1 := hi1.length
  rw [List.length_reverse, bdig_length] at hlen1
  refine iter_rev (DivJ _ y _ _ _ _ (bdig (2 ^ Int.toNat (Builtin.Int.intBits y)) (nDigs x (Builtin.Int.intBits y)) x)) rfl Fx (News.swap23 Nx) (by k_ne) (by k_all) (DivJ.start rfl rfl rfl rfl) ?turn ?done
  case turn =>
    clear Fx Nx
    rintro i v m₁ news₁ oI h tk hv ⟨r, tr, vq, kq, qs, e1, e2, e3, e4, rfl, hiq, hlq, hqs, hval, hr⟩ hne F N
    obtain ⟨d, tdg, rfl, hd'⟩ := IntsAre.at (IntsAre.reverse hi1) i v hv
    rw [List.reverse_reverse] at hd'
    replace F := Fr.knowL4 F e1 e2 e3 e4
    have hBp := two_pow_pos (Int.toNat (Builtin.Int.intBits y))
    have eB : Int.toNat (Builtin.Int.intBits y : Int) = Builtin.Int.intBits y := Int.toNat_natCast _
    have hyB : y < 2 ^ Int.toNat (Builtin.Int.intBits y : Int) := by rw [eB]; exact lt_two_bits (Int.le_of_lt hy)
    have hr0 : 0 ≤ r := by rw [hr]; exact Int.emod_nonneg _ (by omega)
    have hr1 : r < y := by rw [hr]; exact Int.emod_lt_of_pos _ hy
    have hdm := bdig_mem hBp _ _ _ (List.mem_of_getElem? hd')
    have hil : i < nDigs x (Builtin.Int.intBits y) := by
      have := (List.getElem?_eq_some_iff.mp hd').1
      rwa [bdig_length] at this
    have hnd := nDigs_le (x := x) (n := (Builtin.Int.intBits y : Int)) (by omega) hxb
    have hx0 : 0 ≤ r * 2 ^ Int.toNat (Builtin.Int.intBits y : Int) + d := by
      have := Int.mul_nonneg hr0 (Int.le_of_lt hBp); omega
    have hx1 := digit_lt hr1 hdm.2 hBp
    have hx2 : Builtin.Int.intBits (r * 2 ^ Int.toNat (Builtin.Int.intBits y : Int) + d) ≤ 400 := bits_of_lt hx0 (Int.lt_of_lt_of_le hx1 (by
      have h1 := Int.mul_le_mul_of_nonneg_left (Int.le_of_lt hyB) (Int.le_of_lt hBp)
      refine Int.le_trans h1 ?_
      rw [← Int.pow_add, eB]
      exact pow_le (by decide) (by omega)))
    have hvq : vq.length ≤ 200 := by rw [hiq.length, hlq]; omega
    have hfit : (Builtin.Int.intBits r : Int) + Builtin.Int.intBits y ≤ 2 ^ 27 := by
      have := bits_of_lt hr0 (Int.lt_trans hr1 hyB)
      have e27 : (2 : Int) ^ 27 = 134217728 := by decide
      rw [e27]; omega
    k_steps
    refine Halt.out (lshift_int (by omega) hfit ?_)
    k_steps
    refine Halt.out ?_
    rename Fr _ _ _ _ => Fx
    rename News _ _ _ _ => Nx
    refine div2n1n_spec B' Fx X' T' rfl Nx hx0 hy (by omega) (by omega) hyb (by show dp + 1 + 3 < _; omega) ?_
    intro at1 t1 u1 kt1 h1x tk1 F1 N1 hnone
    have hnq := ne_of_none hnone (News.get Nx (.tail _ (.tail _ (.head _))))
    clear Fx Nx
    k_steps
    rename Fr _ _ _ _ => Fx
    rename News _ _ _ _ => Nx
    exact TurnEnd.go Fx Nx (DivJ.next hy hBp hiq hlq hqs hval hr hd' hdm rfl rfl rfl rfl) (fun _ h => List.mem_cons_of_mem _ h) (by k_all)
  case done =>
    clear Fx Nx
    rintro m₁ news₁ h tk ⟨r, tr, vq, kq, qs, e1, e2, e3, e4, rfl, hiq, hlq, hqs, hval, hr⟩ F N
    replace F := Fr.know3 F e1 e2 e3
    have hBp := two_pow_pos (Int.toNat (Builtin.Int.intBits y))
    have hnd := nDigs_le (x := x) (n := (Builtin.Int.intBits y : Int)) (by omega) hxb
    have hvq : vq.length ≤ 200 := by rw [hiq.length, hlq]; omega
    have hfit := fits_digs (n := (Builtin.Int.intBits y : Int)) hx (by omega)
    rw [hlen1, List.take_of_length_le (by rw [bdig_length]; exact Nat.le_refl _), val_bdig_of_lt hBp hx hfit] at hval hr
    k_steps
    refine Halt.out ?_
    dsimp only
    refine' kl_reverse (l := vq.reverse) F N rfl ?U ?z ?_
    case U => k_upd
    case z => (show vq.length ≤ _; rw [sizeLine_eq]; omega)
    intro h2x F2 N2
    clear F N
    k_steps
    refine Halt.out ?_
    rename Fr _ _ _ _ => Fx
    rename News _ _ _ _ => Nx
    refine' digits2int_H B' Fx X' T' rfl hod hvd (News.pull56 Nx) (off_two (by k_all) (by k_all)) C2 ⟨_, News.get Nx (by k_mem), rfl, _, rfl⟩ (not_two (by k_ne) (by k_ne)) (IntsAre.reverse hiq) ?_ ?_ ?_ ?_ ?_
    · rw [List.length_reverse, ← hiq.length]; exact hvq
    · omega
    · intro z hz; exact hqs z (List.mem_reverse.mp hz)
    · show dp + 1 + 300 < _; omega
    intro t3 h3x tk3 F3 N3
    rw [List.reverse_reverse, hval]
    clear Fx Nx
    simp only [List.cons_append, List.nil_append] at N3
    k_steps
    rename Fr _ _ _ _ => Fx
    rename News _ _ _ _ => Nx
    refine EndC.pairS Fx Nx (.head _) ?_ rfl hr
    intro p hp
    simp only [subI, subD, List.cons_append, List.nil_append, List.mem_cons, List.not_mem_nil, or_false] at hp ⊢
    rcases hp with h | h | h | h <;> simp [h]
end
end Mine
/-! Idm22 -/
namespace Mine
open PySem PySem.W PySem.Spec PySem.Calls PyProof.Rows
section
local macro_rules | `(tactic| walk_at "call ref") => `(tactic| refine Halt.mk ?_)
set_option maxHeartbeats 8000000 in
theorem int_divmod_spec {w : World} {p : Program} {loose : List Str} {mean : ExcName → Option Value} {mg mb : Str → Option Value} {dp un : Nat} {gd : Option (List Code)} {cn : Str} {cs : Scope} {a : Addr} {ccd : Value} {cl : List (Str × Addr)} {outer : List Env} {A₀ : Around} {base h₀ : Heap} {L : Addr} {m : Str → Option Value} {s : Shared} {Q E : Value → Shared → Prop}
  (B : Below A₀ base outer h₀) (F : Fr h₀ L s.heap m) (X : (hd.heap_39 w.params).In h₀) (T : Top p loose mean mg mb h₀) (hk : cs.kind = .function) {rest : List (Addr × Obj)} {cc cd : Addr} {oc od : Obj} (M : Made2 cc oc cd od) (N : News h₀ L s.heap ((subI cc oc ++ subD cd od) ++ rest)) (hdis : ∀ p ∈ rest, p.1 ∉ (subI cc oc ++ subD cd od).map (·.1)) (C1 : CodeHd base 41 37) (C2 : CodeHd base 48 44)
  {x y : Int} {tx ty : Tok} (hx : 0 ≤ x) (hy : 0 < y) (hxb : Builtin.Int.intBits x ≤ 200) (hyb : Builtin.Int.intBits y ≤ 200)
  (hd : dp + 500 < recursionLimit)
  (ret : ∀ a t u k h' tk', Fr h₀ L h' m → News h₀ L h' ((a, pairObj (x / y) (x % y) t u k) :: (subI cc oc ++ subD cd od) ++ rest) → (a ∈ (subI cc oc ++ subD cd od).map (·.1) ∨ s.heap.get? a = none) → Q (.ref a) { s with heap := h', toks := tk' }) :
  wpAny (model PySem.Challenge.rw_qh0022_01.row.prog w) (ktrTop dp un gd cn cs L a ccd cl outer) (call (.ref 63) [.int x tx, .int y ty]) Q E s := by
  refine' enterPK (sub := subI cc oc ++ subD cd od) (rest := rest) (RetPS (subI cc oc ++ subD cd od) (x / y) (x % y)) ?k1 ?k2 ?k3 ?k4 ?k5 ?kA ?kF ?kK ?kD ?k6 ?k7 ?k8 ?k9 ?kB ?kR ?_ ?c2 ?c3 ?c4 ?c5
  case k1 => exact B
  case k2 => exact F
  case k3 => exact X
  case k4 => exact N
  case k5 => exact T
  case kA => exact rfl
  case kF => exact rfl
  case kK => exact hk
  case k6 => k_is
  case k7 => k_is
  case k8 => show dp < _; omega
  case k9 => first | exact BindsTo.of_eq rfl | exact binds_K (by k_in) rfl (by k_is) rfl rfl rfl
  case kB => exact locs rfl
  case c5 => decide
  case c2 => exact rfl
  case c3 => exact rfl
  case c4 => exact rfl
  case kD => exact hdis
  case kR => 
    rintro r news' h' tk' F' N' hf' ⟨a, t, u, k, rfl, rfl⟩
    exact ret a t u k h' tk' F' N' (hf' _ (.head _))
  intro g' L' h' F' N' B' X' T' l1 hg'
  clear hg' ret B F X N T
  k_steps
  · exfalso; omega
  refine Halt.out ?_
  rename Fr _ _ _ _ => Fx
  rename News _ _ _ _ => Nx
  refine divmod_pos_spec B' Fx X' T' rfl (rest := []) M (by rw [List.append_nil]; exact Nx) (fun _ h => nomatch h) C1 C2 hx hy hxb hyb (by show dp + 1 + 400 < _; omega) ?_
  intro a t u k h1x tk1 F1 N1 hn
  refine EndC.pairS F1 N1 (.head _) ?_ rfl rfl
  intro p hp
  rw [List.append_nil]
  exact .tail _ hp
end
end Mine
/-! LwB22 -/
namespace Mine
open PySem PySem.W PySem.Spec PySem.Calls PyProof.Rows
theorem val_rev8 (ds : List Int) : val (2 ^ Int.toNat 8) ds.reverse.reverse = val 256 ds := by rw [List.reverse_reverse]; rfl
theorem notin1 {l P : Addr} {o : Obj} (h : @Ne Nat l P) : l ∉ ([(P, o)] : List (Addr × Obj)).map (·.1) := by
  intro hm
  exact h (List.mem_singleton.mp hm)
theorem News.neT {h₀ h : Heap} {L P c : Addr} {oc : Obj} {ps vsc : Array Value} {q : Str} {t : Tok} {l : List (Addr × Obj)} (N : News h₀ L h l) (h1 : (c, oc) ∈ l) (h2 : (P, tabObj ps) ∈ l) (hd : oc.data = .fields vsc) (hv : vsc[1]? = some (.str q t)) (hp : ps[1]? ≠ some (.str q t)) : @Ne Nat c P :=
  News.neD N h1 h2 (by
    rw [hd]
    intro e
    cases e
    exact hp hv)
theorem fresh1 {h₀ h' : Heap} {L P c : Addr} {o1 o2 oc : Obj} {old rest : List (Addr × Obj)} {a b : Int} {x : Value} {vsc : Array Value} {q : Str} {t : Tok} {sh : Heap} (N : News h₀ L sh old) (N' : News h₀ L h' ([(P, tabObj #[rawInt a, rawInt b, x]), (c, oc)] ++ rest)) (hd : oc.data = .fields vsc) (hv : vsc[1]? = some (.str q t))
    (hf : ∀ p ∈ [(P, o1), (c, o2)], p.1 ∈ ([(P, tabObj #[])] : List (Addr × Obj)).map (·.1) ∨ sh.get? p.1 = none) : AllNe c old := by
  have hn := News.neT N' (List.mem_append_left _ (List.mem_cons_of_mem _ (List.mem_singleton_self _))) (List.mem_append_left _ (List.mem_cons_self ..)) hd hv (by intro e; cases e)
  exact News.allNe N ((hf (c, o2) (List.mem_cons_of_mem _ (List.mem_singleton_self _))).resolve_left (notin1 hn))
/-- the state after the first test: the tables of _digits2int and _law_folded are made -/
def StB (L : Addr) (o1 o2 o3 o4 o5 : Obj) (ld : Addr) (od : Obj) (m' : Str → Option Value) (news' : List (Addr × Obj)) : Prop :=
  ∃ (c2 c3 : Addr) (oc2 oc3 : Obj) (vs2 vs3 : Array Value) (tq2 tq3 : Tok), m' (Str.ofString "drawn") = some (.ref ld) ∧ oc2.data = .fields vs2 ∧ vs2[1]? = some (.str (Str.ofString "_digits2int.<locals>.inner") tq2) ∧ oc3.data = .fields vs3 ∧ vs3[1]? = some (.str (Str.ofString "_law_folded.<locals>.<lambda>") tq3) ∧
    Sep c2 [L + 1 + 1 + 1 + 1 + 1, L + 1 + 1 + 1 + 1, L + 1 + 1 + 1, L + 1 + 1, L + 1, 181, 162, 44, 37, ld] ∧ Sep c3 [L + 1 + 1 + 1 + 1 + 1, L + 1 + 1 + 1 + 1, L + 1 + 1 + 1, L + 1 + 1, L + 1, 181, 162, 44, 37, ld, c2] ∧
    news' = [(L + 1 + 1 + 1 + 1 + 1, o5), (L + 1 + 1 + 1 + 1, o4), (L + 1 + 1 + 1, o3), (L + 1 + 1, o2), (L + 1, o1), (181, tabObj #[]), (162, tabObj #[rawInt 243, rawInt 18, .ref c3]), (c3, oc3), (44, tabObj #[rawInt 50, rawInt 4, .ref c2]), (c2, oc2), (37, tabObj #[]), (ld, od)]
theorem StB.mk' {L : Addr} {o1 o2 o3 o4 o5 : Obj} {ld : Addr} {od : Obj} {m' : Str → Option Value} {c2 c3 : Addr} {oc2 oc3 : Obj} {vs2 vs3 : Array Value} {tq2 tq3 : Tok} (e : m' (Str.ofString "drawn") = some (.ref ld)) (h1 : oc2.data = .fields vs2) (h2 : vs2[1]? = some (.str (Str.ofString "_digits2int.<locals>.inner") tq2)) (h3 : oc3.data = .fields vs3) (h4 : vs3[1]? = some (.str (Str.ofString "_law_folded.<locals>.<lambda>") tq3))
    (h5 : Sep c2 [L + 1 + 1 + 1 + 1 + 1, L + 1 + 1 + 1 + 1, L + 1 + 1 + 1, L + 1 + 1, L + 1, 181, 162, 44, 37, ld]) (h6 : Sep c3 [L + 1 + 1 + 1 + 1 + 1, L + 1 + 1 + 1 + 1, L + 1 + 1 + 1, L + 1 + 1, L + 1, 181, 162, 44, 37, ld, c2]) :
    StB L o1 o2 o3 o4 o5 ld od m' [(L + 1 + 1 + 1 + 1 + 1, o5), (L + 1 + 1 + 1 + 1, o4), (L + 1 + 1 + 1, o3), (L + 1 + 1, o2), (L + 1, o1), (181, tabObj #[]), (162, tabObj #[rawInt 243, rawInt 18, .ref c3]), (c3, oc3), (44, tabObj #[rawInt 50, rawInt 4, .ref c2]), (c2, oc2), (37, tabObj #[]), (ld, od)] :=
  ⟨c2, c3, oc2, oc3, vs2, vs3, tq2, tq3, e, h1, h2, h3, h4, h5, h6, rfl⟩
section
local macro_rules | `(tactic| walk_at "call ref") => `(tactic| refine Halt.mk ?_)
set_option maxHeartbeats 8000000 in
theorem lawB {w : World} {p : Program} {loose : List Str} {mean : ExcName → Option Value} {mg mb : Str → Option Value} {base h₀ : Heap} {L : Addr} {m : Str → Option Value} {s : Shared}
  {name qual : Str} {params : Arguments} {body : List Stmt} {scope : Scope} {dV kV doc pm cdv ct oc : Value} {an od : Option Addr} {osl : Array (Option Value)} (hb : (hd.heap_39 w.params).lookup 191 = some ⟨oc, od, .func (fnOf name qual params body scope dV kV doc pm an cdv ct), osl⟩) {fa : Addr} {cdw : Value}
  (B : Below callerA base [] h₀) (F : Fr h₀ L s.heap m) (X : (hd.heap_39 w.params).In h₀) (T : Top p loose mean mg mb h₀) (hlt : @LT.lt Nat _ 181 L)
  (C1 : CodeHd base 41 37) (C2 : CodeHd base 48 44) (C3 : CodeHd base 166 162) (C4 : CodeHd base 185 181)
  {o1 o2 o3 o4 o5 : Obj} {ds : List Int} {ld : Addr} {vd : List Value} {kd : Nat} {t2 : Tok} (d2 : o2.data = .cell (some (.int (val 256 ds) t2)))
  (N : News h₀ L s.heap [(L + 1 + 1 + 1 + 1 + 1, o5), (L + 1 + 1 + 1 + 1, o4), (L + 1 + 1 + 1, o3), (L + 1 + 1, o2), (L + 1, o1), (181, tabObj #[]), (162, tabObj #[]), (44, tabObj #[]), (37, tabObj #[]), (ld, W.listOf (List.toArray vd) kd)])
  (hsep : Sep ld [L + 1 + 1 + 1 + 1 + 1, L + 1 + 1 + 1 + 1, L + 1 + 1 + 1, L + 1 + 1, L + 1, 181, 162, 44, 37])
  (hi : IntsAre vd ds) (hlen : ds.length ≤ 15) (hdr : ∀ x ∈ ds, 0 ≤ x ∧ x < 256) (hm : m (Str.ofString "drawn") = some (.ref ld)) :
  wpAny (model PySem.Challenge.rw_qh0022_01.row.prog w) (callerA.deeper (envOfC qual scope L fa cdw)) (execs ((body.drop 4).take 1) (envOfC qual scope L fa cdw)) (StageE h₀ L (StB L o1 o2 o3 o4 o5 ld (W.listOf (List.toArray vd) kd)) s) (fun _ _ => False) s := by
  refine' lookup_det (P := fun qual scope body => wpAny (model PySem.Challenge.rw_qh0022_01.row.prog w) (callerA.deeper (envOfC qual scope L fa cdw)) (execs ((body.drop 4).take 1) (envOfC qual scope L fa cdw)) _ _ s) hb ?k6 ?_
  case k6 => k_is
  clear hb
  dsimp only [List.drop, List.take]
  replace F := Fr.know1 F hm
  clear hm
  simp only [Sep] at hsep
  k_steps
  refine Halt.out ?_
  rename Fr _ _ _ _ => Fx
  rename News _ _ _ _ => Nx
  rename IntsAre _ ds.reverse => hir
  have Ny : News h₀ L _ ([(44, tabObj #[])] ++ [(L + 1 + 1 + 1 + 1 + 1, o5), (L + 1 + 1 + 1 + 1, o4), (L + 1 + 1 + 1, o3), (L + 1 + 1, o2), (L + 1, o1), (181, tabObj #[]), (162, tabObj #[]), (37, tabObj #[]), (ld, W.listOf (List.toArray vd) kd)]) := News.sub Nx (by k_allIn)
  refine digits2int_F B Fx X T rfl Ny (off_one (by k_all)) C2 (News.isList Nx (by k_mem)) (notin1 (by k_ne)) hir (by rw [List.length_reverse]; omega) (by decide) (fun x hx => hdr x (List.mem_reverse.mp hx)) (by decide +kernel) ?_
  intro ta n1 h1 tk1 F1 N1 hf1 hT1
  obtain ⟨c2, oc2, vs2, tq2, rfl, hoc2, hv2⟩ := hT1
  rw [val_rev8]
  have hc2 := fresh1 Ny N1 hoc2 hv2 hf1
  simp only [AllNe, List.cons_append, List.nil_append] at hc2
  simp only [List.cons_append, List.nil_append] at N1
  clear Fx Nx Ny hf1
  k_steps
  · exact absurd rfl (by assumption)
  refine Halt.out ?_
  rename Fr _ _ _ _ => Fx
  rename News _ _ _ _ => Nx
  have Ny : News h₀ L _ ([(162, tabObj #[])] ++ [(L + 1 + 1 + 1 + 1 + 1, o5), (L + 1 + 1 + 1 + 1, o4), (L + 1 + 1 + 1, o3), (L + 1 + 1, o2), (L + 1, o1), (181, tabObj #[]), (44, tabObj #[rawInt 50, rawInt 4, .ref c2]), (c2, oc2), (37, tabObj #[]), (ld, W.listOf (List.toArray vd) kd)]) := News.sub Nx (by k_allIn)
  refine law_folded_F B Fx X T rfl Ny (off_one (by k_all)) C3 (News.isList Nx (by k_mem)) (notin1 (by k_ne)) hi (by omega) (by decide) (by decide +kernel) ?_
  intro tb n2 h2 tk2 F2 N2 hf2 hT2
  obtain ⟨c3, oc3, vs3, tq3, rfl, hoc3, hv3⟩ := hT2
  have hc3 := fresh1 Ny N2 hoc3 hv3 hf2
  simp only [AllNe, List.cons_append, List.nil_append] at hc3
  simp only [List.cons_append, List.nil_append] at N2
  clear Fx Nx Ny hf2
  k_steps
  · exact absurd rfl (by assumption)
  rename Fr _ _ _ _ => Fx
  rename News _ _ _ _ => Nx
  refine StageE.go Fx Nx (StB.mk' (c2 := c2) (c3 := c3) rfl hoc2 hv2 hoc3 hv3 (by simp only [Sep]; ((repeat' (first | exact True.intro | refine And.intro ?_ ?_)) <;> omega)) (by simp only [Sep]; ((repeat' (first | exact True.intro | refine And.intro ?_ ?_)) <;> omega))) (by k_allIn)
end
end Mine
/-! Pad22 -/
namespace Mine
open PySem PySem.W PySem.Spec PySem.Calls PyProof.Rows
theorem flatten_zeros (k : Nat) : (List.replicate k [(0 : Int)]).flatten = List.replicate k 0 := by
  induction k with
  | zero => rfl
  | succ k ih => rw [List.replicate_succ, List.flatten_cons, ih, List.replicate_succ]; rfl
set_option maxHeartbeats 8000000 in
theorem law_padded_spec {w : World} {p : Program} {loose : List Str} {mean : ExcName → Option Value} {mg mb : Str → Option Value} {dp un : Nat} {gd : Option (List Code)} {cn : Str} {cs : Scope} {a : Addr} {ccd : Value} {cl : List (Str × Addr)} {outer : List Env} {A₀ : Around} {base h₀ : Heap} {L : Addr} {m : Str → Option Value} {s : Shared} {Q E : Value → Shared → Prop}
  (B : Below A₀ base outer h₀) (F : Fr h₀ L s.heap m) (X : (hd.heap_39 w.params).In h₀) (T : Top p loose mean mg mb h₀) (hk : cs.kind = .function) {news : List (Addr × Obj)} (N : News h₀ L s.heap news)
  {l : Addr} {vs : List Value} {ns : List Int} {z : Int} {tz : Tok} (hl : s.heap.IsList l vs.toArray) (hi : IntsAre vs ns) (hlen : ns.length ≤ 200) (hz : z ≤ 200) (hz0 : (ns.length : Int) ≤ z)
  (hd : dp + 3 < recursionLimit)
  (ret : ∀ l' vs' k' h' tk', Fr h₀ L h' m → News h₀ L h' ((l', W.listOf (List.toArray vs') k') :: news) → s.heap.get? l' = none → IntsAre vs' (List.replicate (z.toNat - ns.length) 0 ++ ns.reverse) → Q (.ref l') { s with heap := h', toks := tk' }) :
  wpAny (model PySem.Challenge.rw_qh0022_01.row.prog w) (ktrTop dp un gd cn cs L a ccd cl outer) (call (.ref 179) [.ref l, .int z tz]) Q E s := by
  refine' enterPK (sub := []) (rest := news) (RetL (List.replicate (z.toNat - ns.length) 0 ++ ns.reverse)) ?k1 ?k2 ?k3 ?k4 ?k5 ?kA ?kF ?kK ?kD ?k6 ?k7 ?k8 ?k9 ?kB ?kR ?_ ?c2 ?c3 ?c4 ?c5
  case k1 => exact B
  case k2 => exact F
  case k3 => exact X
  case k4 => exact N
  case k5 => exact T
  case kA => exact rfl
  case kF => exact rfl
  case kK => exact hk
  case k6 => k_is
  case k7 => k_is
  case k8 => show dp < _; omega
  case k9 => first | exact BindsTo.of_eq rfl | exact binds_K (by k_in) rfl (by k_is) rfl rfl rfl
  case kB => exact locs rfl
  case c5 => decide
  case c2 => exact rfl
  case c3 => exact rfl
  case c4 => exact rfl
  case kD => intro p hp; simp
  case kR => 
    rintro r news' h' tk' F' N' hf' ⟨l', vs', k', rfl, rfl, hi'⟩
    exact ret l' vs' k' h' tk' F' N' (by simpa using hf' (l', W.listOf (List.toArray vs') k') (by simp)) hi'
  intro g' L' h' F' N' B' X' T' l1 hg'
  have hl' : g'.IsList l vs.toArray := by
    obtain ⟨o, ho, r⟩ := hl
    exact ⟨o, hg' _ _ ho (by simp), r⟩
  clear hg' ret B F X N T hl
  k_steps
  refine EndC.list (by assumption) (by assumption) (by k_mem) (by assumption) ?_
  rw [List.reverse_append, flatten_zeros, List.reverse_replicate]
  congr 2
  omega
end Mine
/-! LwC22 -/
namespace Mine
open PySem PySem.W PySem.Spec PySem.Calls PyProof.Rows
theorem pad64 {V : Int} {kk : Nat} (h0 : 0 ≤ V) (h : V < 64 ^ (4 * kk)) : nDigs V 6 ≤ 4 * kk ∧ List.replicate ((4 * (kk : Int)).toNat - (bdig (2 ^ Int.toNat 6) (nDigs V 6) V).reverse.length) 0 ++ (bdig (2 ^ Int.toNat 6) (nDigs V 6) V).reverse.reverse = bdig 64 (4 * kk) V := by
  have hf := fits_digs (x := V) (n := 6) h0 (by decide)
  have hn : nDigs V 6 ≤ 4 * kk := by
    have h1 : Builtin.Int.intBits V ≤ 24 * kk := intBits_le_iff.mpr (by
      have e : (64 : Int) ^ (4 * kk) = ((2 ^ (24 * kk) : Nat) : Int) := by
        rw [show (64 : Int) = 2 ^ 6 from rfl, ← Int.pow_mul, show 6 * (4 * kk) = 24 * kk by omega]
        push_cast; rfl
      rw [e] at h
      omega)
    unfold nDigs
    rw [Int.fdiv_eq_ediv_of_nonneg _ (by decide)]
    omega
  refine ⟨hn, ?_⟩
  rw [List.reverse_reverse, List.length_reverse, bdig_length, show (4 * (kk : Int)).toNat = 4 * kk by omega]
  have := bdig_pad (B := 64) (by decide) (4 * kk - nDigs V 6) (nDigs V 6) h0 hf
  rw [show 4 * kk - nDigs V 6 + nDigs V 6 = 4 * kk by omega] at this
  exact this.symm
theorem Sep.of {l : Nat} {xs : List Nat} (h : Sep l xs) : ∀ {ys : List Nat}, (∀ y ∈ ys, y ∈ xs) → Sep l ys
  | [], _ => True.intro
  | _ :: _, hs => ⟨Sep.ne h (hs _ (List.mem_cons_self ..)), Sep.of h fun y hy => hs y (List.mem_cons_of_mem _ hy)⟩
def StC (L : Addr) (o1 o2 o3 o5 : Obj) (ld : Addr) (od' : Obj) (c2 c3 : Addr) (oc2 oc3 : Obj) (vals : List Int) (m' : Str → Option Value) (news' : List (Addr × Obj)) : Prop :=
  ∃ (lv c1 : Addr) (o4 ov oc1 : Obj) (vv : List Value) (kv : Nat) (vs1 : Array Value) (tq1 : Tok), m' (Str.ofString "drawn") = some (.ref ld) ∧ ov = W.listOf (List.toArray vv) kv ∧ IntsAre vv vals ∧ o4.data = .cell (some (.ref lv)) ∧ oc1.data = .fields vs1 ∧ vs1[1]? = some (.str (Str.ofString "_int2digits.<locals>.inner") tq1) ∧
    Sep c1 [L + 1 + 1 + 1 + 1 + 1, L + 1 + 1 + 1 + 1, L + 1 + 1 + 1, L + 1 + 1, L + 1, 181, 162, 44, 37, ld, c2, c3] ∧ Sep lv [L + 1 + 1 + 1 + 1 + 1, L + 1 + 1 + 1 + 1, L + 1 + 1 + 1, L + 1 + 1, L + 1, 181, 162, 44, 37, ld, c2, c3, c1] ∧ news' = [(L + 1 + 1 + 1 + 1 + 1, o5), (L + 1 + 1 + 1 + 1, o4), (L + 1 + 1 + 1, o3), (L + 1 + 1, o2), (L + 1, o1), (181, tabObj #[]), (162, tabObj #[rawInt 243, rawInt 18, .ref c3]), (c3, oc3), (44, tabObj #[rawInt 50, rawInt 4, .ref c2]), (c2, oc2), (37, tabObj #[rawInt 35, rawInt 4, .ref c1]), (c1, oc1), (ld, od'), (lv, ov)]
theorem StC.mk' {L : Addr} {o1 o2 o3 o4 o5 : Obj} {ld : Addr} {od' : Obj} {c2 c3 : Addr} {oc2 oc3 : Obj} {vals : List Int} {m' : Str → Option Value} {lv c1 : Addr} {oc1 : Obj} {vv : List Value} {kv : Nat} {vs1 : Array Value} {tq1 : Tok} {ov : Obj} (hov : ov = W.listOf (List.toArray vv) kv)
    (e : m' (Str.ofString "drawn") = some (.ref ld)) (hi : IntsAre vv vals) (d4 : o4.data = .cell (some (.ref lv))) (h1 : oc1.data = .fields vs1) (h2 : vs1[1]? = some (.str (Str.ofString "_int2digits.<locals>.inner") tq1)) (s1 : Sep c1 [L + 1 + 1 + 1 + 1 + 1, L + 1 + 1 + 1 + 1, L + 1 + 1 + 1, L + 1 + 1, L + 1, 181, 162, 44, 37, ld, c2, c3]) (s2 : Sep lv [L + 1 + 1 + 1 + 1 + 1, L + 1 + 1 + 1 + 1, L + 1 + 1 + 1, L + 1 + 1, L + 1, 181, 162, 44, 37, ld, c2, c3, c1]) :
    StC L o1 o2 o3 o5 ld od' c2 c3 oc2 oc3 vals m' [(L + 1 + 1 + 1 + 1 + 1, o5), (L + 1 + 1 + 1 + 1, o4), (L + 1 + 1 + 1, o3), (L + 1 + 1, o2), (L + 1, o1), (181, tabObj #[]), (162, tabObj #[rawInt 243, rawInt 18, .ref c3]), (c3, oc3), (44, tabObj #[rawInt 50, rawInt 4, .ref c2]), (c2, oc2), (37, tabObj #[rawInt 35, rawInt 4, .ref c1]), (c1, oc1), (ld, od'), (lv, ov)] := ⟨lv, c1, o4, ov, oc1, vv, kv, vs1, tq1, e, hov, hi, d4, h1, h2, s1, s2, rfl⟩
section
local macro_rules | `(tactic| walk_at "call ref") => `(tactic| refine Halt.mk ?_)
local macro_rules | `(tactic| k_ne) => `(tactic| (refine neN ?_; (try dsimp only); first | omega | (refine Sep.ne (by assumption) ?_; (repeat (first | exact List.Mem.head _ | refine List.Mem.tail _ ?_)); done) | (refine Sep.ne' (by assumption) ?_; (repeat (first | exact List.Mem.head _ | refine List.Mem.tail _ ?_)); done)))
set_option maxHeartbeats 8000000 in
theorem lawC {w : World} {p : Program} {loose : List Str} {mean : ExcName → Option Value} {mg mb : Str → Option Value} {base h₀ : Heap} {L : Addr} {m : Str → Option Value} {s : Shared}
  {name qual : Str} {params : Arguments} {body : List Stmt} {scope : Scope} {dV kV doc pm cdv ct oc : Value} {an od : Option Addr} {osl : Array (Option Value)} (hb : (hd.heap_39 w.params).lookup 191 = some ⟨oc, od, .func (fnOf name qual params body scope dV kV doc pm an cdv ct), osl⟩) {fa : Addr} {cdw : Value}
  (B : Below callerA base [] h₀) (F : Fr h₀ L s.heap m) (X : (hd.heap_39 w.params).In h₀) (T : Top p loose mean mg mb h₀) (hlt : @LT.lt Nat _ 181 L)
  (C1 : CodeHd base 41 37) (C2 : CodeHd base 48 44) (C3 : CodeHd base 166 162) (C4 : CodeHd base 185 181)
  {o1 o2 o3 o4 o5 : Obj} {V : Int} {kk : Nat} {ld : Addr} {od' : Obj} {c2 c3 : Addr} {oc2 oc3 : Obj} {t1 t2 t3 : Tok} (d1 : o1.data = .cell (some (.str signsS t1))) (d2 : o2.data = .cell (some (.int V t2))) (d3 : o3.data = .cell (some (.int (4 * (kk : Int)) t3))) (d4 : o4.data = .cell none)
  (N : News h₀ L s.heap [(L + 1 + 1 + 1 + 1 + 1, o5), (L + 1 + 1 + 1 + 1, o4), (L + 1 + 1 + 1, o3), (L + 1 + 1, o2), (L + 1, o1), (181, tabObj #[]), (162, tabObj #[rawInt 243, rawInt 18, .ref c3]), (c3, oc3), (44, tabObj #[rawInt 50, rawInt 4, .ref c2]), (c2, oc2), (37, tabObj #[]), (ld, od')])
  (hsep : Sep ld [L + 1 + 1 + 1 + 1 + 1, L + 1 + 1 + 1 + 1, L + 1 + 1 + 1, L + 1 + 1, L + 1, 181, 162, 44, 37])
  (hs2 : Sep c2 [L + 1 + 1 + 1 + 1 + 1, L + 1 + 1 + 1 + 1, L + 1 + 1 + 1, L + 1 + 1, L + 1, 181, 162, 44, 37, ld]) (hs3 : Sep c3 [L + 1 + 1 + 1 + 1 + 1, L + 1 + 1 + 1 + 1, L + 1 + 1 + 1, L + 1 + 1, L + 1, 181, 162, 44, 37, ld, c2])
  (hV0 : 0 ≤ V) (hV : V < 64 ^ (4 * kk)) (hVb : Builtin.Int.intBits V ≤ 200) (hkk : kk ≤ 5)
  (hm : m (Str.ofString "drawn") = some (.ref ld)) :
  wpAny (model PySem.Challenge.rw_qh0022_01.row.prog w) (callerA.deeper (envOfC qual scope L fa cdw)) (execs ((body.drop 5).take 1) (envOfC qual scope L fa cdw)) (StageE h₀ L (StC L o1 o2 o3 o5 ld od' c2 c3 oc2 oc3 (bdig 64 (4 * kk) V)) s) (fun _ _ => False) s := by
  refine' lookup_det (P := fun qual scope body => wpAny (model PySem.Challenge.rw_qh0022_01.row.prog w) (callerA.deeper (envOfC qual scope L fa cdw)) (execs ((body.drop 5).take 1) (envOfC qual scope L fa cdw)) _ _ s) hb ?k6 ?_
  case k6 => k_is
  clear hb
  dsimp only [List.drop, List.take]
  obtain ⟨hp0, gn0, dr0, tk0, os0⟩ := s
  dsimp only at F N
  replace F := Fr.know1 F hm
  clear hm
  k_steps
  refine Halt.out ?_
  rename Fr _ _ _ _ => Fx
  rename News _ _ _ _ => Nx
  have Ny : News h₀ L _ ([(37, tabObj #[])] ++ [(L + 1 + 1 + 1 + 1 + 1, o5), (L + 1 + 1 + 1 + 1, o4), (L + 1 + 1 + 1, o3), (L + 1 + 1, o2), (L + 1, o1), (181, tabObj #[]), (162, tabObj #[rawInt 243, rawInt 18, .ref c3]), (c3, oc3), (44, tabObj #[rawInt 50, rawInt 4, .ref c2]), (c2, oc2), (ld, od')]) := News.sub Nx (by k_allIn)
  refine int2digits_F B Fx X T rfl Ny (off_one (by k_all)) C1 hV0 (by decide) hVb (by decide +kernel) ?_
  intro la va ka r1 h1 tk1 F1 N1 hf1 hT1 hia
  obtain ⟨c1, oc1, vs1, tq1, rfl, hoc1, hv1⟩ := hT1
  have Nz : News h₀ L h1 ([(37, tabObj #[rawInt 35, rawInt 4, .ref c1]), (c1, oc1)] ++ [(ld, od')]) := News.sub N1 (by k_allIn)
  have hc1 : AllNe c1 _ := News.allNe Ny ((hf1 (c1, oc1) (by k_mem)).resolve_left (notin1 (News.neT Nz (by k_mem) (by k_mem) hoc1 hv1 (by intro e; cases e))))
  replace hc1 := AllNe.sep hc1
  simp only [List.map, List.cons_append, List.nil_append] at hc1
  simp only [List.cons_append, List.nil_append] at N1
  have hla : AllNe la _ := News.allNe Ny ((hf1 (la, W.listOf (List.toArray va) ka) (by k_mem)).resolve_left (notin1 (News.neD N1 (o := W.listOf (List.toArray va) ka) (o' := tabObj #[rawInt 35, rawInt 4, .ref c1]) (by k_mem) (by k_mem) (by intro e; cases e))))
  replace hla := AllNe.sep hla
  simp only [List.map, List.cons_append, List.nil_append] at hla
  clear Fx Nx Ny Nz hf1
  k_steps
  refine Halt.out ?_
  rename Fr _ _ _ _ => Fx
  rename News _ _ _ _ => Nx
  obtain ⟨hnd, hpad⟩ := pad64 hV0 hV
  have Ny : News h₀ L _ [(L + 1 + 1 + 1 + 1 + 1, o5), (L + 1 + 1 + 1 + 1, o4), (L + 1 + 1 + 1, o3), (L + 1 + 1, o2), (L + 1, o1), (181, tabObj #[]), (162, tabObj #[rawInt 243, rawInt 18, .ref c3]), (c3, oc3), (44, tabObj #[rawInt 50, rawInt 4, .ref c2]), (c2, oc2), (37, tabObj #[rawInt 35, rawInt 4, .ref c1]), (c1, oc1), (ld, od')] := News.sub Nx (by k_allIn)
  refine law_padded_spec B Fx X T rfl Ny (News.isList Nx (by k_mem)) hia (by rw [List.length_reverse, bdig_length]; omega) (by omega) (by rw [List.length_reverse, bdig_length]; omega) (by decide +kernel) ?_
  intro lv vv kv h2 tk2 F2 N2 hlv hiv
  rw [hpad] at hiv
  have hnv := News.allNe Ny hlv
  replace hnv := AllNe.sep hnv
  simp only [List.map] at hnv
  clear Fx Nx Ny hlv hia hpad hla
  have hvl : (bdig 64 (4 * kk) V).length ≤ 20 := by rw [bdig_length]; omega
  have hvr := fun x hx => bdig_mem (B := 64) (by decide) (4 * kk) V x hx
  generalize bdig 64 (4 * kk) V = vals at hiv hvl hvr
  k_steps
  rename Fr _ _ _ _ => Fx
  rename News _ _ _ _ => Nx
  exact StageE.go Fx Nx (StC.mk' rfl rfl hiv (by assumption) hoc1 hv1 (Sep.of hc1 (by k_allIn)) (Sep.of hnv (by k_allIn))) (by k_allIn)
end
end Mine
/-! Enc22 -/
namespace Mine
open PySem PySem.W PySem.Spec PySem.Calls PyProof.Rows
theorem all1 {x : Addr × Obj} {I : Addr} (h : @Ne Nat x.1 I) : ∀ p ∈ [x], p.1 ≠ I := fun p hp => by
  cases List.mem_singleton.mp hp
  exact h
def b64u : List UInt8 := "ABCDEFGHIJKLMNOPQRSTUVWXYZabcdefghijklmnopqrstuvwxyz0123456789+/".toList.map fun c => c.toNat.toUInt8
def sgn (v : Int) : Int := ((b64u.getD v.toNat 0).toNat : Int)
theorem b64u_length : b64u.length = 64 := by decide +kernel
theorem item_B64 {prog : Program} {w : World} {A : Around} {E : Value → Shared → Prop} {s : Shared} {Q : Value → Shared → Prop} {value slice : Expr} {x : List UInt8} {t ui : Tok} {i : Int} (hx : x = b64u) (h0 : 0 ≤ i) (h1 : i < 64) (h : Q (.int (sgn i) s.toks) { s with toks := s.toks + 1 })
    (hs : subscripted slice false (.bytes x.toArray t) (.int i ui) = operate [.bytes x.toArray t, .int i ui] (getItem (.bytes x.toArray t) (.int i ui)) := by with_unfolding_all rfl) (ht : ∀ r, letTemporaryGo value (.bytes x.toArray t) r = pure () := by intro _; with_unfolding_all rfl) :
    wpAny (model prog w) A (subscriptTail value slice (.bytes x.toArray t) (.int i ui)) Q E s := by
  subst hx
  exact KBy.item_N (by rw [b64u_length]; decide) h0 (by rw [b64u_length]; exact h1) h hs ht
theorem and63 (x : Int) : 0 ≤ Builtin.bitAnd x 63 ∧ Builtin.bitAnd x 63 < 64 := by
  rw [bitAnd_m6]; omega
def EncJ (os : List Int) (i : Nat) (m₁ : Str → Option Value) (news₁ : List (Addr × Obj)) : Prop :=
  ∃ (lo : Addr) (lb : Int) (c : Nat) (t1 t2 : Tok) (vo : List Value) (ko : Nat), m₁ (Str.ofString "out") = some (.ref lo) ∧ m₁ (Str.ofString "leftbits") = some (.int lb t1) ∧ m₁ (Str.ofString "leftchar") = some (.int (val 256 (os.take i) % 65536) t2) ∧ m₁ (Str.ofString "newline") = some (.bool false) ∧
    news₁ = [(lo, W.listOf (List.toArray vo) ko)] ∧ IntsAre vo ((bdig 64 c (val 256 (os.take i) / 2 ^ lb.toNat)).map sgn) ∧ (lb = 0 ∨ lb = 2 ∨ lb = 4) ∧ 6 * (c : Int) + lb = 8 * i
theorem EncJ.start {os : List Int} {m₁ : Str → Option Value} {lo : Addr} {t1 t2 : Tok} {k : Nat} (e1 : m₁ (Str.ofString "out") = some (.ref lo)) (e2 : m₁ (Str.ofString "leftbits") = some (.int 0 t1)) (e3 : m₁ (Str.ofString "leftchar") = some (.int 0 t2)) (e4 : m₁ (Str.ofString "newline") = some (.bool false)) :
    EncJ os 0 m₁ [(lo, W.listOf (List.toArray []) k)] := ⟨lo, 0, 0, t1, t2, [], k, e1, e2, by simpa [val] using e3, e4, rfl, .nil, .inl rfl, by simp⟩
def newch (P n : Int) : Int := Builtin.bitAnd (Builtin.bitOr (P % 65536 * 2 ^ Int.toNat 8) n) 65535
theorem newch_eq {P n : Int} (hn : 0 ≤ n ∧ n < 256) : newch P n = (P * 256 + n) % 65536 := by
  have h := or_low (a := P % 65536) (b := n) (by omega) hn.1 8 (by simpa using hn.2)
  rw [newch, bitAnd_m16]
  show Builtin.bitOr (P % 65536 * 2 ^ 8) n % 65536 = _
  rw [h]
  omega
theorem val_take_succ {B n : Int} {os : List Int} {i : Nat} (hn : os[i]? = some n) : val B (os.take (i + 1)) = val B (os.take i) * B + n := by
  rw [List.take_add_one, hn, Option.toList_some, val_snoc]
theorem EncJ.next0 {os : List Int} {i c k : Nat} {n : Int} {m₁ : Str → Option Value} {lo : Addr} {t1 t2 u0 : Tok} {vo : List Value} (hn : os[i]? = some n) (hnm : 0 ≤ n ∧ n < 256)
    (hio : IntsAre vo ((bdig 64 c (val 256 (os.take i) / 2 ^ (0 : Int).toNat)).map sgn)) (hcb : 6 * (c : Int) + 0 = 8 * i)
    (e1 : m₁ (Str.ofString "out") = some (.ref lo)) (e2 : m₁ (Str.ofString "leftbits") = some (.int (0 + 8 - 6) t1)) (e3 : m₁ (Str.ofString "leftchar") = some (.int (newch (val 256 (os.take i)) n) t2)) (e4 : m₁ (Str.ofString "newline") = some (.bool false)) :
    EncJ os (i + 1) m₁ [(lo, W.listOf ((List.toArray vo).push (.int (sgn (Builtin.bitAnd ((newch (val 256 (os.take i)) n).fdiv (2 ^ (0 + 8 - 6 : Int).toNat)) 63)) u0)) k)] := by
  simp only [List.push_toArray]
  have hv := val_take_succ (B := 256) hn
  have hc := newch_eq (P := val 256 (os.take i)) hnm
  have ed : bdig 64 (c + 1) (val 256 (os.take (i + 1)) / 2 ^ (2 : Int).toNat) = bdig 64 c (val 256 (os.take i) / 2 ^ (0 : Int).toNat) ++ [Builtin.bitAnd ((newch (val 256 (os.take i)) n).fdiv (2 ^ (0 + 8 - 6 : Int).toNat)) 63] := by
    rw [bdig, hc, hv, bitAnd_m6, Int.fdiv_eq_ediv_of_nonneg _ (by decide)]
    generalize val 256 (os.take i) = P at *
    show bdig 64 c ((P * 256 + n) / 4 / 64) ++ [(P * 256 + n) / 4 % 64] = bdig 64 c (P / 1) ++ [(P * 256 + n) % 65536 / 4 % 64]
    rw [show (P * 256 + n) / 4 / 64 = P / 1 by omega, show (P * 256 + n) / 4 % 64 = (P * 256 + n) % 65536 / 4 % 64 by omega]
  refine ⟨lo, 2, c + 1, t1, t2, _, k, e1, e2, by rw [hv, ← hc]; exact e3, e4, rfl, ?_, .inr (.inl rfl), by push_cast; omega⟩
  rw [ed, List.map_append]
  exact hio.append (.cons _ _ .nil)
theorem EncJ.next2 {os : List Int} {i c k : Nat} {n : Int} {m₁ : Str → Option Value} {lo : Addr} {t1 t2 u0 : Tok} {vo : List Value} (hn : os[i]? = some n) (hnm : 0 ≤ n ∧ n < 256)
    (hio : IntsAre vo ((bdig 64 c (val 256 (os.take i) / 2 ^ (2 : Int).toNat)).map sgn)) (hcb : 6 * (c : Int) + 2 = 8 * i)
    (e1 : m₁ (Str.ofString "out") = some (.ref lo)) (e2 : m₁ (Str.ofString "leftbits") = some (.int (2 + 8 - 6) t1)) (e3 : m₁ (Str.ofString "leftchar") = some (.int (newch (val 256 (os.take i)) n) t2)) (e4 : m₁ (Str.ofString "newline") = some (.bool false)) :
    EncJ os (i + 1) m₁ [(lo, W.listOf ((List.toArray vo).push (.int (sgn (Builtin.bitAnd ((newch (val 256 (os.take i)) n).fdiv (2 ^ (2 + 8 - 6 : Int).toNat)) 63)) u0)) k)] := by
  simp only [List.push_toArray]
  have hv := val_take_succ (B := 256) hn
  have hc := newch_eq (P := val 256 (os.take i)) hnm
  have ed : bdig 64 (c + 1) (val 256 (os.take (i + 1)) / 2 ^ (4 : Int).toNat) = bdig 64 c (val 256 (os.take i) / 2 ^ (2 : Int).toNat) ++ [Builtin.bitAnd ((newch (val 256 (os.take i)) n).fdiv (2 ^ (2 + 8 - 6 : Int).toNat)) 63] := by
    rw [bdig, hc, hv, bitAnd_m6, Int.fdiv_eq_ediv_of_nonneg _ (by decide)]
    generalize val 256 (os.take i) = P at *
    show bdig 64 c ((P * 256 + n) / 16 / 64) ++ [(P * 256 + n) / 16 % 64] = bdig 64 c (P / 4) ++ [(P * 256 + n) % 65536 / 16 % 64]
    rw [show (P * 256 + n) / 16 / 64 = P / 4 by omega, show (P * 256 + n) / 16 % 64 = (P * 256 + n) % 65536 / 16 % 64 by omega]
  refine ⟨lo, 4, c + 1, t1, t2, _, k, e1, e2, by rw [hv, ← hc]; exact e3, e4, rfl, ?_, .inr (.inr rfl), by push_cast; omega⟩
  rw [ed, List.map_append]
  exact hio.append (.cons _ _ .nil)
theorem EncJ.next4 {os : List Int} {i c k : Nat} {n : Int} {m₁ : Str → Option Value} {lo : Addr} {t1 t2 u0 u1 : Tok} {vo : List Value} (hn : os[i]? = some n) (hnm : 0 ≤ n ∧ n < 256)
    (hio : IntsAre vo ((bdig 64 c (val 256 (os.take i) / 2 ^ (4 : Int).toNat)).map sgn)) (hcb : 6 * (c : Int) + 4 = 8 * i)
    (e1 : m₁ (Str.ofString "out") = some (.ref lo)) (e2 : m₁ (Str.ofString "leftbits") = some (.int (4 + 8 - 6 - 6) t1)) (e3 : m₁ (Str.ofString "leftchar") = some (.int (newch (val 256 (os.take i)) n) t2)) (e4 : m₁ (Str.ofString "newline") = some (.bool false)) :
    EncJ os (i + 1) m₁ [(lo, W.listOf (((List.toArray vo).push (.int (sgn (Builtin.bitAnd ((newch (val 256 (os.take i)) n).fdiv (2 ^ (4 + 8 - 6 : Int).toNat)) 63)) u0)).push (.int (sgn (Builtin.bitAnd ((newch (val 256 (os.take i)) n).fdiv (2 ^ (4 + 8 - 6 - 6 : Int).toNat)) 63)) u1)) k)] := by
  simp only [List.push_toArray]
  have hv := val_take_succ (B := 256) hn
  have hc := newch_eq (P := val 256 (os.take i)) hnm
  have ed : bdig 64 (c + 1 + 1) (val 256 (os.take (i + 1)) / 2 ^ (0 : Int).toNat) = bdig 64 c (val 256 (os.take i) / 2 ^ (4 : Int).toNat) ++ [Builtin.bitAnd ((newch (val 256 (os.take i)) n).fdiv (2 ^ (4 + 8 - 6 : Int).toNat)) 63] ++ [Builtin.bitAnd ((newch (val 256 (os.take i)) n).fdiv (2 ^ (4 + 8 - 6 - 6 : Int).toNat)) 63] := by
    rw [bdig, bdig, hc, hv, bitAnd_m6, bitAnd_m6, Int.fdiv_eq_ediv_of_nonneg _ (by decide), Int.fdiv_eq_ediv_of_nonneg _ (by decide)]
    generalize val 256 (os.take i) = P at *
    show bdig 64 c ((P * 256 + n) / 1 / 64 / 64) ++ [(P * 256 + n) / 1 / 64 % 64] ++ [(P * 256 + n) / 1 % 64] = bdig 64 c (P / 16) ++ [(P * 256 + n) % 65536 / 64 % 64] ++ [(P * 256 + n) % 65536 / 1 % 64]
    rw [show (P * 256 + n) / 1 / 64 / 64 = P / 16 by omega, show (P * 256 + n) / 1 / 64 % 64 = (P * 256 + n) % 65536 / 64 % 64 by omega, show (P * 256 + n) / 1 % 64 = (P * 256 + n) % 65536 / 1 % 64 by omega]
  refine ⟨lo, 0, c + 1 + 1, t1, t2, _, k, e1, e2, by rw [hv, ← hc]; exact e3, e4, rfl, ?_, .inl rfl, by push_cast; omega⟩
  rw [ed, List.map_append, List.map_append]
  exact (hio.append (.cons _ _ .nil)).append (.cons _ _ .nil)
theorem sgn_range (v : Int) : 0 ≤ sgn v ∧ sgn v < 256 := by
  have := (b64u.getD v.toNat 0).toNat_lt
  rw [sgn]; omega
theorem Fr.grow {h₀ h h' : Heap} {L : Addr} {m : Str → Option Value} (F : Fr h₀ L h m) (hk : ∀ b o, h.get? b = some o → h'.get? b = some o) : Fr h₀ L h' m := ⟨F.ns.keeps hk, fun b o e => hk b o (F.keep b o e), F.above⟩
section
local macro_rules | `(tactic| walk_at "call ref") => `(tactic| ((with_reducible show wpAny _ _ (call (Value.ref 128) _ _) _ _ _); refine Halt.mk ?_))
local macro_rules | `(tactic| walk_at "call type:bytes") => `(tactic| refine Halt.mk ?_)
local macro_rules | `(tactic| walk_at "subscriptTail") => `(tactic| ((with_reducible show wpAny _ _ (subscriptTail _ _ (Value.bytes _ _) (Value.int _ _)) _ _ _); (refine item_B64 (by decide +kernel) (and63 _).1 (and63 _).2 ?_)))
local macro_rules | `(tactic| walk_at "call type:type") => `(tactic| ((with_reducible show wpAny _ _ (call (Value.type "type") [Value.bytes _ _]) _ _ _); refine call_type_of (typeIs_bytes _ _ _) (by decide) ?_))
local macro_rules | `(tactic| k_room) => `(tactic| ((try simp only [depth_in1, depth_deeper]); (try dsimp only [ktrTop]); omega))
local macro_rules | `(tactic| walk_at "exec For Name Name cons nil") => `(tactic| refine Halt.mk ?_)
set_option maxHeartbeats 8000000 in
theorem b2a_spec {w : World} {p : Program} {loose : List Str} {mean : ExcName → Option Value} {mg mb : Str → Option Value} {dp un : Nat} {gd : Option (List Code)} {cn : Str} {cs : Scope} {a : Addr} {ccd : Value} {cl : List (Str × Addr)} {outer : List Env} {A₀ : Around} {base h₀ : Heap} {L : Addr} {m : Str → Option Value} {s : Shared} {Q E : Value → Shared → Prop}
  (B : Below A₀ base outer h₀) (F : Fr h₀ L s.heap m) (X : (hd.heap_39 w.params).In h₀) (T : Top p loose mean mg mb h₀) (hk : cs.kind = .function) {news : List (Addr × Obj)} (N : News h₀ L s.heap news)
  {bs : Array UInt8} {tb : Tok} (hlen : bs.size ≤ 100) {kk : Nat} (hkk : bs.size = 3 * kk)
  (hd : dp + 10 < recursionLimit)
  (ret : ∀ t h' tk', Fr h₀ L h' m → News h₀ L h' news → Q (.bytes (byteArr ((bdig 64 (4 * kk) (val 256 (KBw.bInts bs))).map sgn)) t) { s with heap := h', toks := tk' }) :
  wpAny (model PySem.Challenge.rw_qh0022_01.row.prog w) (ktrTop dp un gd cn cs L a ccd cl outer) (call (.ref 128) [.bytes bs tb] [(Str.ofString "newline", .bool false)]) Q E s := by
  refine' enterPK (sub := []) (rest := news) (fun v l => ∃ t, v = .bytes (byteArr ((bdig 64 (4 * kk) (val 256 (KBw.bInts bs))).map sgn)) t ∧ l = []) ?k1 ?k2 ?k3 ?k4 ?k5 ?kA ?kF ?kK ?kD ?k6 ?k7 ?k8 ?k9 ?kB ?kR ?_ ?c2 ?c3 ?c4 ?c5
  case k1 => exact B
  case k2 => exact F
  case k3 => exact X
  case k4 => exact N
  case k5 => exact T
  case kA => exact rfl
  case kF => exact rfl
  case kK => exact hk
  case k6 => k_is
  case k7 => k_is
  case k8 => show dp < _; omega
  case k9 => first | exact BindsTo.of_eq rfl | exact binds_K (by k_in) rfl (by k_is) rfl rfl rfl
  case kB => exact locs rfl
  case c5 => decide
  case c2 => exact rfl
  case c3 => exact rfl
  case c4 => exact rfl
  case kD => intro p hp; simp
  case kR => 
    rintro r news' h' tk' F' N' - ⟨t, rfl, rfl⟩
    exact ret t h' tk' F' N'
  intro g' L' h' F' N' B' X' T' l1 hg'
  clear hg' ret B F X N T
  k_steps
  refine Halt.out ?_
  rename Fr _ _ _ _ => Fx
  rename News _ _ _ _ => Nx
  refine For_invV g' rfl rfl ?_
  refine ld Fx rfl ?_
  refine iter_bytes (EncJ (KBw.bInts bs)) rfl Fx Nx (EncJ.start rfl rfl rfl rfl) ?turn ?done
  case turn =>
    clear Fx Nx
    rintro i n u m₁ news₁ I oI h tk hn ⟨lo, lb, c, t1, t2, vo, ko, e1, e2, e3, e4, rfl, hio, hlb, hcb⟩ hne F N
    have hnm := KBw.ints_in (List.mem_of_getElem? hn)
    have hlI : @Ne Nat lo I := hne _ (List.mem_singleton_self _)
    have hil : i < bs.size := by
      have := (List.getElem?_eq_some_iff.mp hn).1
      rwa [KBw.ints_length] at this
    have hvo : vo.length ≤ 200 := by
      rw [hio.length, List.length_map, bdig_length]; omega
    rcases hlb with rfl | rfl | rfl
    all_goals
      replace F := Fr.knowL3 F e1 e2 e3
      k_steps
    all_goals (rename Fr _ _ _ _ => Fx; rename News _ _ _ _ => Nx)
    · exact TurnEnd.go Fx Nx (EncJ.next0 hn hnm hio hcb rfl rfl rfl e4) (fun _ h => h) (all1 hlI)
    · exact TurnEnd.go Fx Nx (EncJ.next2 hn hnm hio hcb rfl rfl rfl e4) (fun _ h => h) (all1 hlI)
    · exact TurnEnd.go Fx Nx (EncJ.next4 hn hnm hio hcb rfl rfl rfl e4) (fun _ h => h) (all1 hlI)
  case done =>
    clear Fx Nx
    rintro m₁ news₁ h tk ⟨lo, lb, c, t1, t2, vo, ko, e1, e2, e3, e4, rfl, hio, hlb, hcb⟩ F N
    have hlb0 : lb = 0 := by omega
    subst hlb0
    have hc : c = 4 * kk := by omega
    subst hc
    rw [List.take_of_length_le (by rw [KBw.ints_length]; exact Nat.le_refl _)] at hio
    replace hio : IntsAre vo ((bdig 64 (4 * kk) (val 256 (KBw.bInts bs))).map sgn) := by
      have : val 256 (KBw.bInts bs) / 2 ^ (0 : Int).toNat = val 256 (KBw.bInts bs) := Int.ediv_one _
      rwa [this] at hio
    replace F := Fr.know4 F e1 e2 e3 e4
    k_steps
    refine Halt.out ?_
    have hvo : vo.length = 4 * kk := by rw [hio.length, List.length_map, bdig_length]
    refine call_bytes_ints ⟨_, News.get N (.head _), rfl, _, rfl⟩ hio ?_ (by rw [sizeLine_eq]; omega) rfl ?_
    · intro z hz
      obtain ⟨v, -, rfl⟩ := List.mem_map.mp hz
      exact sgn_range v
    · intro h1x t3 k3 hk3
      exact EndC.go (Fr.grow F hk3) (News.nil) ⟨t3, rfl, rfl⟩ (fun _ h => h)
set_option maxHeartbeats 8000000 in
theorem b64encode_spec {w : World} {p : Program} {loose : List Str} {mean : ExcName → Option Value} {mg mb : Str → Option Value} {dp un : Nat} {gd : Option (List Code)} {cn : Str} {cs : Scope} {a : Addr} {ccd : Value} {cl : List (Str × Addr)} {outer : List Env} {A₀ : Around} {base h₀ : Heap} {L : Addr} {m : Str → Option Value} {s : Shared} {Q E : Value → Shared → Prop}
  (B : Below A₀ base outer h₀) (F : Fr h₀ L s.heap m) (X : (hd.heap_39 w.params).In h₀) (T : Top p loose mean mg mb h₀) (hk : cs.kind = .function) {news : List (Addr × Obj)} (N : News h₀ L s.heap news)
  {bs : Array UInt8} {tb : Tok} (hlen : bs.size ≤ 100) {kk : Nat} (hkk : bs.size = 3 * kk)
  (hd : dp + 20 < recursionLimit)
  (ret : ∀ t h' tk', Fr h₀ L h' m → News h₀ L h' news → Q (.bytes (byteArr ((bdig 64 (4 * kk) (val 256 (KBw.bInts bs))).map sgn)) t) { s with heap := h', toks := tk' }) :
  wpAny (model PySem.Challenge.rw_qh0022_01.row.prog w) (ktrTop dp un gd cn cs L a ccd cl outer) (call (.ref 136) [.bytes bs tb]) Q E s := by
  refine' enterPK (sub := []) (rest := news) (fun v l => ∃ t, v = .bytes (byteArr ((bdig 64 (4 * kk) (val 256 (KBw.bInts bs))).map sgn)) t ∧ l = []) ?k1 ?k2 ?k3 ?k4 ?k5 ?kA ?kF ?kK ?kD ?k6 ?k7 ?k8 ?k9 ?kB ?kR ?_ ?c2 ?c3 ?c4 ?c5
  case k1 => exact B
  case k2 => exact F
  case k3 => exact X
  case k4 => exact N
  case k5 => exact T
  case kA => exact rfl
  case kF => exact rfl
  case kK => exact hk
  case k6 => k_is
  case k7 => k_is
  case k8 => show dp < _; omega
  case k9 => first | exact BindsTo.of_eq rfl | exact binds_K (by k_in) rfl (by k_is) rfl rfl rfl
  case kB => exact locs rfl
  case c5 => decide
  case c2 => exact rfl
  case c3 => exact rfl
  case c4 => exact rfl
  case kD => intro p hp; simp
  case kR => 
    rintro r news' h' tk' F' N' - ⟨t, rfl, rfl⟩
    exact ret t h' tk' F' N'
  intro g' L' h' F' N' B' X' T' l1 hg'
  clear hg' ret B F X N T
  k_steps
  refine Halt.out ?_
  rename Fr _ _ _ _ => Fx
  rename News _ _ _ _ => Nx
  refine b2a_spec B' Fx X' T' rfl Nx hlen hkk (by show dp + 1 + 10 < _; omega) ?_
  intro t1 h1x tk1 F1 N1
  clear Fx Nx
  k_steps
  exact EndC.go (by assumption) (by assumption) ⟨t1, rfl, rfl⟩ (fun _ h => h)
end
end Mine
/-! Estr22 -/
namespace Mine
open PySem PySem.W PySem.Spec PySem.Calls PyProof.Rows
open Builtin
theorem gm_encode {M : Model} {A : Around} {E : Value → Shared → Prop} {s : Shared} {x : PySem.Str} {t : Tok} {pl : Sem Bool} {Q : Value × List Value → Shared → Prop} (h : Q (.builtin "str.encode", [.str x t]) s) : wpAny M A (getMethod (.str x t) "encode" pl) Q E s := by
  with_reducible exact GM.of (.str x t) (typeIs_str _ _ _) F.slot_str_encode F.type_str_encode GM.noRef h
theorem road_ascii (id : String) (self : Value) (x : PySem.Str) : _codecs.encodeRoad id self x (PySem.Str.ofString "ascii") none = (do mkBytes (← _codecs.encodeNarrow id _codecs.asciiCodec none self x)) := by kernel_rfl
theorem encode_is (x : PySem.Str) (t u : Tok) : «str.encode» ⟨[.str x t, .str (PySem.Str.ofString "ascii") u], []⟩ = (do ret (← _codecs.encodeRoad "str.encode" (.str x t) x (PySem.Str.ofString "ascii") none)) := by kernel_rfl
theorem narrow_ascii {M : Model} {A : Around} {E : Value → Shared → Prop} {s : Shared} {id : String} {self : Value} {x : PySem.Str} {Q : Array UInt8 → Shared → Prop} (hx : ∀ c ∈ x.cps, c < 128) (hs : x.cps.size ≤ 1000)
    (h : Q (x.cps.map Nat.toUInt8) s) : wpAny M A (_codecs.encodeNarrow id _codecs.asciiCodec none self x) Q E s := by
  unfold _codecs.encodeNarrow
  simp only [KPc.range_list]
  refine wpAny_bind ?_
  refine wpAny_mono (wpAny_forIn_list _ (fun l b s' => s' = s ∧ ((b.1 = 0 ∧ b.2.1 = #[] ∧ l.length = x.cps.size) ∨ (b.1 = x.cps.size ∧ b.2.1 = x.cps.map Nat.toUInt8))) (fun b s' => s' = s ∧ b.2.1 = x.cps.map Nat.toUInt8) ?turn ?fin _ _ ⟨rfl, .inl ⟨rfl, rfl, ?len⟩⟩) ?_ (fun _ _ e => e)
  case len => simp [PySem.Str.length]
  case fin =>
    rintro ⟨i, out, st⟩ s' ⟨rfl, ⟨h1, h2, h3⟩ | ⟨h1, h2⟩⟩
    · refine ⟨rfl, ?_⟩
      rw [h2]
      have : x.cps = #[] := Array.eq_empty_of_size_eq_zero h3.symm
      rw [this]; simp
    · exact ⟨rfl, h2⟩
  case turn =>
    rintro k rest ⟨i, out, st⟩ s' ⟨rfl, ⟨h1, h2, h3⟩ | ⟨h1, h2⟩⟩
    · simp only at h1 h2
      subst h1; subst h2
      have hp : 0 < x.cps.size := by rw [← h3]; exact Nat.succ_pos _
      have e0 : x.cps[0]? = some x.cps[0] := Array.getElem?_eq_getElem hp
      have hb : _codecs.asciiCodec.bad x.cps[0] = false := by
        have := hx _ (Array.getElem_mem hp)
        show decide (x.cps[0] ≥ 128) = false
        exact decide_eq_false (by omega)
      have hf : (x.cps.extract 0 x.cps.size).findIdx? _codecs.asciiCodec.bad = none := by
        rw [Array.extract_size]
        rw [Array.findIdx?_eq_none_iff]
        intro c hc
        have := hx _ hc
        exact decide_eq_false (by omega)
      simp only [e0, hb, hf]
      rw [if_neg (by decide)]
      refine wpAny_pure ⟨rfl, .inr ⟨?_, ?_⟩⟩
      · simp
      · simp
        show (Array.map (fun x2 => #[Nat.toUInt8 x2]) x.cps).flatten = _
        apply Array.ext'
        rw [Array.toList_flatten, Array.toList_map, Array.toList_map, List.map_map]
        generalize x.cps.toList = l
        induction l with
        | nil => rfl
        | cons a l ih => simp only [List.map_cons, List.flatten_cons, ih]; rfl
    · simp only at h1 h2
      subst h1; subst h2
      have e0 : x.cps[x.cps.size]? = none := by simp
      simp only [e0]
      rw [if_neg (by rw [Array.size_map, sizeLine_eq]; omega)]
      exact wpAny_pure ⟨rfl, rfl⟩
  rintro ⟨i, out, st⟩ s' ⟨rfl, h2⟩
  simp only at h2 ⊢
  rw [h2]
  exact wpAny_pure h
theorem meets_encode {x : PySem.Str} {t u : Tok} (hx : ∀ c ∈ x.cps, c < 128) (hs : x.cps.size ≤ 1000) :
    Meets («str.encode» ⟨[.str x t, .str (PySem.Str.ofString "ascii") u], []⟩) (fun _ R s => ∀ t' k, R (.ok (.ret (.bytes (x.cps.map Nat.toUInt8) t'))) { s with toks := k }) := by
  refine .of_wp fun prog w A R s h => ?_
  rw [encode_is, road_ascii]
  refine wpAny_bind (wpAny_bind (narrow_ascii hx hs ?_))
  exact wpAny_mkBytes (wpAny_pure ⟨_, rfl, h _ _⟩) (by rw [Array.size_map, sizeLine_eq]; omega)
theorem call_encode {prog : Program} {w : World} {A : Around} {E : Value → Shared → Prop} {s : Shared} {x : PySem.Str} {t u : Tok} {Q : Value → Shared → Prop} (hx : ∀ c ∈ x.cps, c < 128) (hs : x.cps.size ≤ 1000) (h : ∀ t' k, Q (.bytes (x.cps.map Nat.toUInt8) t') { s with toks := k }) :
    wpAny (model prog w) A (call (.builtin "str.encode") [.str x t, .str (PySem.Str.ofString "ascii") u]) Q E s :=
  call_meets F.slot_str_encode (typeIs_str _ _ _) F.entry_str_encode (F.args_str_encode_2 _ _) (meets_encode hx hs) h
end Mine
/-! LwD22 -/
namespace Mine
open PySem PySem.W PySem.Spec PySem.Calls PyProof.Rows
def chS (v : Int) : Str := ⟨#[(sgn v).toNat]⟩
theorem signs_at : ∀ k : Nat, k < 64 → (Txt.charAt signsS (k : Int)).isSome = true ∧ Txt.item signsS (k : Int) = chS (k : Int) := by decide +kernel
theorem item_S {prog : Program} {w : World} {A : Around} {E : Value → Shared → Prop} {s : Shared} {Q : Value → Shared → Prop} {value slice : Expr} {x : Str} {t ui : Tok} {i : Int} (hx : x = signsS) (h0 : 0 ≤ i) (h1 : i < 64) (h : Q (.str (chS i) s.toks) { s with toks := s.toks + 1 })
    (hs : ∀ x : Str, subscripted slice false (.str x t) (.int i ui) = operate [.str x t, .int i ui] (getItem (.str x t) (.int i ui)) := by intro _; with_unfolding_all rfl) (ht : ∀ (x : Str) r, letTemporaryGo value (.str x t) r = pure () := by intro _ _; with_unfolding_all rfl) :
    wpAny (model prog w) A (subscriptTail value slice (.str x t) (.int i ui)) Q E s := by
  subst hx
  obtain ⟨k, rfl⟩ := Int.eq_ofNat_of_zero_le h0
  obtain ⟨e1, e2⟩ := signs_at k (by omega)
  refine tail_of_ItemOn (SB.item (by unfold fitsSsize; simp; omega) e1 ?_) (hs _) (ht _)
  rw [e2]
  exact h
theorem join_ch : ∀ vs : List Int, ((Txt.join (Str.ofString "") (vs.map chS)).cps.toList.map fun c : Nat => (c : Int)) = vs.map sgn := by
  intro vs
  rw [show Txt.join (Str.ofString "") (vs.map chS) = Str.join (Str.ofString "") (vs.map chS) from StrLaws.glued_eq_join _ _]
  have h1 : ∀ v : Int, ((chS v).cps.toList.map fun c : Nat => (c : Int)) = [sgn v] := by
    intro v
    show [((sgn v).toNat : Int)] = [sgn v]
    rw [Int.toNat_of_nonneg (by unfold sgn; omega)]
  induction vs with
  | nil => rfl
  | cons v r ih =>
    cases r with
    | nil => exact h1 v
    | cons a r =>
      show ((chS v ++ Str.ofString "" ++ Str.join (Str.ofString "") ((a :: r).map chS)).cps.toList.map fun c : Nat => (c : Int)) = _
      rw [Str.cps_append, Str.cps_append, Array.toList_append, Array.toList_append, List.map_append, List.map_append, ih, h1]
      rfl
def StD (vals : List Int) (ld : Addr) (led : List (Addr × Obj)) (m' : Str → Option Value) (news' : List (Addr × Obj)) : Prop :=
  ∃ (told : Str) (t : Tok), m' (Str.ofString "drawn") = some (.ref ld) ∧ m' (Str.ofString "told") = some (.str told t) ∧ (told.cps.toList.map fun c : Nat => (c : Int)) = vals.map sgn ∧ news' = led
section
local macro_rules | `(tactic| walk_at "call ref") => `(tactic| refine Halt.mk ?_)
local macro_rules | `(tactic| k_ne) => `(tactic| (refine neN ?_; (try dsimp only); first | omega | (refine Sep.ne (by assumption) ?_; (repeat (first | exact List.Mem.head _ | refine List.Mem.tail _ ?_)); done) | (refine Sep.ne' (by assumption) ?_; (repeat (first | exact List.Mem.head _ | refine List.Mem.tail _ ?_)); done)))
local macro_rules | `(tactic| walk_at "CompSrc") => `(tactic| refine Halt.mk ?_)
local macro_rules | `(tactic| walk_at "call builtin:str.join") => `(tactic| refine Halt.mk ?_)
set_option maxHeartbeats 8000000 in
theorem lawD {w : World} {p : Program} {loose : List Str} {mean : ExcName → Option Value} {mg mb : Str → Option Value} {base h₀ : Heap} {L : Addr} {m : Str → Option Value} {s : Shared}
  {name qual : Str} {params : Arguments} {body : List Stmt} {scope : Scope} {dV kV doc pm cdv ct oc : Value} {an od : Option Addr} {osl : Array (Option Value)} (hb : (hd.heap_39 w.params).lookup 191 = some ⟨oc, od, .func (fnOf name qual params body scope dV kV doc pm an cdv ct), osl⟩) {fa : Addr} {cdw : Value}
  (B : Below callerA base [] h₀) (F : Fr h₀ L s.heap m) (X : (hd.heap_39 w.params).In h₀) (T : Top p loose mean mg mb h₀) (hlt : @LT.lt Nat _ 181 L)
  (C1 : CodeHd base 41 37) (C2 : CodeHd base 48 44) (C3 : CodeHd base 166 162) (C4 : CodeHd base 185 181)
  {o1 o2 o3 o4 o5 ov oc1 : Obj} {vals : List Int} {ld lv : Addr} {vv : List Value} {kv : Nat} {od' : Obj} {c1 c2 c3 : Addr} {oc2 oc3 : Obj} {t1 : Tok} (d1 : o1.data = .cell (some (.str signsS t1))) (d4 : o4.data = .cell (some (.ref lv))) (hov : ov = W.listOf (List.toArray vv) kv)
  (N : News h₀ L s.heap [(L + 1 + 1 + 1 + 1 + 1, o5), (L + 1 + 1 + 1 + 1, o4), (L + 1 + 1 + 1, o3), (L + 1 + 1, o2), (L + 1, o1), (181, tabObj #[]), (162, tabObj #[rawInt 243, rawInt 18, .ref c3]), (c3, oc3), (44, tabObj #[rawInt 50, rawInt 4, .ref c2]), (c2, oc2), (37, tabObj #[rawInt 35, rawInt 4, .ref c1]), (c1, oc1), (ld, od'), (lv, ov)])
  (hs0 : Sep ld [L + 1 + 1 + 1 + 1 + 1, L + 1 + 1 + 1 + 1, L + 1 + 1 + 1, L + 1 + 1, L + 1, 181, 162, 44, 37])
  (hs2 : Sep c2 [L + 1 + 1 + 1 + 1 + 1, L + 1 + 1 + 1 + 1, L + 1 + 1 + 1, L + 1 + 1, L + 1, 181, 162, 44, 37, ld]) (hs3 : Sep c3 [L + 1 + 1 + 1 + 1 + 1, L + 1 + 1 + 1 + 1, L + 1 + 1 + 1, L + 1 + 1, L + 1, 181, 162, 44, 37, ld, c2]) (hs1 : Sep c1 [L + 1 + 1 + 1 + 1 + 1, L + 1 + 1 + 1 + 1, L + 1 + 1 + 1, L + 1 + 1, L + 1, 181, 162, 44, 37, ld, c2, c3]) (hsv : Sep lv [L + 1 + 1 + 1 + 1 + 1, L + 1 + 1 + 1 + 1, L + 1 + 1 + 1, L + 1 + 1, L + 1, 181, 162, 44, 37, ld, c2, c3, c1])
  (hiv : IntsAre vv vals) (hvl : vals.length ≤ 20) (hvr : ∀ x ∈ vals, 0 ≤ x ∧ x < 64)
  (hm : m (Str.ofString "drawn") = some (.ref ld)) :
  wpAny (model PySem.Challenge.rw_qh0022_01.row.prog w) (callerA.deeper (envOfC qual scope L fa cdw)) (execs ((body.drop 6).take 1) (envOfC qual scope L fa cdw)) (StageE h₀ L (StD vals ld [(L + 1 + 1 + 1 + 1 + 1, o5), (L + 1 + 1 + 1 + 1, o4), (L + 1 + 1 + 1, o3), (L + 1 + 1, o2), (L + 1, o1), (181, tabObj #[]), (162, tabObj #[rawInt 243, rawInt 18, .ref c3]), (c3, oc3), (44, tabObj #[rawInt 50, rawInt 4, .ref c2]), (c2, oc2), (37, tabObj #[rawInt 35, rawInt 4, .ref c1]), (c1, oc1), (ld, od'), (lv, ov)]) s) (fun _ _ => False) s := by
  refine' lookup_det (P := fun qual scope body => wpAny (model PySem.Challenge.rw_qh0022_01.row.prog w) (callerA.deeper (envOfC qual scope L fa cdw)) (execs ((body.drop 6).take 1) (envOfC qual scope L fa cdw)) _ _ s) hb ?k6 ?_
  case k6 => k_is
  clear hb
  dsimp only [List.drop, List.take]
  obtain ⟨hp0, gn0, dr0, tk0, os0⟩ := s
  dsimp only at F N
  replace F := Fr.know1 F hm
  clear hm
  subst hov
  k_steps
  refine Halt.out ?_
  rename Fr _ _ _ _ => Fx
  rename News _ _ _ _ => Nx
  refine LCg.CompSrc.ledger rfl Fx Nx (k := kv) (by k_mem) (by rw [List.size_toArray, hiv.length, sizeLine_eq]; omega) ?_
  intro g'
  refine kct_list chS hiv (fun k t I oI C oC D m₂ ys h tk E' hk hC hx F1 N1 off ne _ => ?_) ?_
  · clear Fx Nx
    obtain ⟨hk0, hk1⟩ := hvr k hk
    simp only [LCg.Off3, and_true] at off
    walk1
    walk1
    walk1
    refine item_S (x := signsS) (t := t1) (ui := t) (i := k) ?h1 hk0 hk1 ?_
    case h1 => rfl
    exact LCg.CompEnd.intro F1 N1 _ (fun _ hp => hp) (by simp only [LCg.Off3, and_true]; exact off) (.inr ⟨_, by k_mem, rfl, _, rfl⟩) ⟨rfl, _, rfl⟩
  · unfold KPfDone
    intro ys hys hyl D h tk F1 N1 off
    clear Fx Nx
    dsimp only [LCg.lst] at N1
    simp only [LCg.Off1, and_true] at off
    k_steps
    refine Halt.out ?_
    rename Fr _ _ _ _ => Fx
    rename News _ _ _ _ => Nx
    refine KT.join_1 (News.isList Nx (by k_mem)) hys (fun _ _ => rfl) (by omega) ?_
    intro t' tk' _
    have hj := join_ch vals
    generalize Txt.join (Str.ofString "") (vals.map chS) = told at hj ⊢
    clear hys hyl
    k_steps
    rename Fr _ _ _ _ => Fx
    rename News _ _ _ _ => Nx
    exact StageE.go Fx Nx ⟨told, _, rfl, rfl, hj, rfl⟩ (by k_allIn)
end
end Mine
/-! Bva22 -/
namespace Mine
open PySem PySem.W PySem.Spec PySem.Calls PyProof.Rows
theorem sgn_cases {v : Int} (h0 : 0 ≤ v) (h1 : v < 64) : (v < 26 ∧ sgn v = v + 65) ∨ (26 ≤ v ∧ v < 52 ∧ sgn v = v + 71) ∨ (52 ≤ v ∧ v < 62 ∧ sgn v = v - 4) ∨ (v = 62 ∧ sgn v = 43) ∨ (v = 63 ∧ sgn v = 47) := by
  obtain ⟨n, rfl⟩ := Int.eq_ofNat_of_zero_le h0
  have hn : n < 64 := by omega
  have key : ∀ n : Fin 64, (n.val < 26 ∧ (b64u.getD n.val 0).toNat = n.val + 65) ∨ (26 ≤ n.val ∧ n.val < 52 ∧ (b64u.getD n.val 0).toNat = n.val + 71) ∨ (52 ≤ n.val ∧ n.val < 62 ∧ (b64u.getD n.val 0).toNat + 4 = n.val) ∨ (n.val = 62 ∧ (b64u.getD n.val 0).toNat = 43) ∨ (n.val = 63 ∧ (b64u.getD n.val 0).toNat = 47) := by decide +kernel
  have := key ⟨n, hn⟩
  simp only [sgn, Int.toNat_natCast] at *
  omega
section
local macro_rules | `(tactic| k_room) => `(tactic| ((try simp only [depth_in1, depth_deeper]); (try dsimp only [ktrTop]); omega))
set_option maxHeartbeats 8000000 in
theorem b64_value_spec {w : World} {p : Program} {loose : List Str} {mean : ExcName → Option Value} {mg mb : Str → Option Value} {dp un : Nat} {gd : Option (List Code)} {cn : Str} {cs : Scope} {a : Addr} {ccd : Value} {cl : List (Str × Addr)} {outer : List Env} {A₀ : Around} {base h₀ : Heap} {L : Addr} {m : Str → Option Value} {s : Shared} {Q E : Value → Shared → Prop}
  (B : Below A₀ base outer h₀) (F : Fr h₀ L s.heap m) (X : (hd.heap_39 w.params).In h₀) (T : Top p loose mean mg mb h₀) (hk : cs.kind = .function) {news : List (Addr × Obj)} (N : News h₀ L s.heap news)
  {v c : Int} {tv : Tok} (h0 : 0 ≤ v) (h1 : v < 64) (hc : c = sgn v)
  (hd : dp + 3 < recursionLimit)
  (ret : ∀ t h' tk', Fr h₀ L h' m → News h₀ L h' news → Q (.int v t) { s with heap := h', toks := tk' }) :
  wpAny (model PySem.Challenge.rw_qh0022_01.row.prog w) (ktrTop dp un gd cn cs L a ccd cl outer) (call (.ref 112) [.int c tv]) Q E s := by
  have hcs := sgn_cases h0 h1
  rw [← hc] at hcs
  refine' enterPK (sub := []) (rest := news) (RetI v) ?k1 ?k2 ?k3 ?k4 ?k5 ?kA ?kF ?kK ?kD ?k6 ?k7 ?k8 ?k9 ?kB ?kR ?_ ?c2 ?c3 ?c4 ?c5
  case k1 => exact B
  case k2 => exact F
  case k3 => exact X
  case k4 => exact N
  case k5 => exact T
  case kA => exact rfl
  case kF => exact rfl
  case kK => exact hk
  case k6 => k_is
  case k7 => k_is
  case k8 => show dp < _; omega
  case k9 => first | exact BindsTo.of_eq rfl | exact binds_K (by k_in) rfl (by k_is) rfl rfl rfl
  case kB => exact locs rfl
  case c5 => decide
  case c2 => exact rfl
  case c3 => exact rfl
  case c4 => exact rfl
  case kD => intro p hp; simp
  case kR => 
    rintro r news' h' tk' F' N' - ⟨t, rfl, rfl⟩
    exact ret t h' tk' F' N'
  intro g' L' h' F' N' B' X' T' l1 hg'
  clear hg' ret B F X N T hc
  k_steps
  all_goals first | (exfalso; omega) | exact EndC.int (by assumption) (by assumption) (by omega)
end
end Mine
/-! Dec22 -/
namespace Mine
open PySem PySem.W PySem.Spec PySem.Calls PyProof.Rows
theorem bInts_byteArr {ns : List Int} (h : ∀ x ∈ ns, 0 ≤ x ∧ x < 256) : KBw.bInts (byteArr ns) = ns := by
  rw [byteArr, KBw.ints_list, List.map_map]
  conv => rhs; rw [← List.map_id ns]
  apply List.map_congr_left
  intro x hx
  have hx' := h x hx
  simp only [Function.comp, id]
  have : x.toNat < 256 := by omega
  rw [show (x.toNat.toUInt8).toNat = x.toNat from by simp [Nat.mod_eq_of_lt this]]
  omega
def decLc (q : Int) (V : Int) : Int := if q = 0 then 0 else if q = 1 then V % 64 else if q = 2 then V % 16 else V % 4
def DecJ (vs : List Int) (i : Nat) (m₁ : Str → Option Value) (news₁ : List (Addr × Obj)) : Prop :=
  ∃ (lo : Addr) (q V lc : Int) (c : Nat) (out : List Int) (t1 t2 t3 t4 : Tok) (j : Int) (vo : List Value) (ko : Nat), m₁ (Str.ofString "out") = some (.ref lo) ∧ m₁ (Str.ofString "quad_pos") = some (.int q t1) ∧ m₁ (Str.ofString "leftchar") = some (.int lc t2) ∧ m₁ (Str.ofString "pads") = some (.int 0 t3) ∧ m₁ (Str.ofString "i") = some (.int j t4) ∧ m₁ (Str.ofString "strict_mode") = some (.bool false) ∧
    news₁ = [(lo, W.listOf (List.toArray vo) ko)] ∧ IntsAre vo out ∧ V = val 64 (vs.take i) ∧ (i : Int) = 4 * c + q ∧
    ((q = 0 ∧ lc = 0 ∧ out = bdig 256 (3 * c) V) ∨ (q = 1 ∧ lc = V % 64 ∧ out = bdig 256 (3 * c) (V / 64)) ∨ (q = 2 ∧ lc = V % 16 ∧ out = bdig 256 (3 * c + 1) (V / 16)) ∨ (q = 3 ∧ lc = V % 4 ∧ out = bdig 256 (3 * c + 2) (V / 4)))
theorem DecJ.start {vs : List Int} {m₁ : Str → Option Value} {lo : Addr} {t1 t2 t3 t4 : Tok} {k : Nat} (e1 : m₁ (Str.ofString "out") = some (.ref lo)) (e2 : m₁ (Str.ofString "quad_pos") = some (.int 0 t1)) (e3 : m₁ (Str.ofString "leftchar") = some (.int 0 t2)) (e4 : m₁ (Str.ofString "pads") = some (.int 0 t3)) (e5 : m₁ (Str.ofString "i") = some (.int 0 t4)) (e6 : m₁ (Str.ofString "strict_mode") = some (.bool false)) :
    DecJ vs 0 m₁ [(lo, W.listOf (List.toArray []) k)] := ⟨lo, 0, 0, 0, 0, [], t1, t2, t3, t4, 0, [], k, e1, e2, e3, e4, e5, e6, rfl, .nil, by simp [val], by simp, .inl ⟨rfl, rfl, rfl⟩⟩
theorem DecJ.next0 {vs : List Int} {i c k : Nat} {v V j qq : Int} {m₁ : Str → Option Value} {lo : Addr} {t1 t2 t3 t4 u : Tok} {vo : List Value} (hn : vs[i]? = some v) (hv0 : 0 ≤ v ∧ v < 64) (hV : V = val 64 (vs.take i)) (hi : (i : Int) = 4 * c + 0) (hio : IntsAre vo (bdig 256 (3 * c) V)) (e1 : m₁ (Str.ofString "out") = some (.ref lo)) (e2 : m₁ (Str.ofString "quad_pos") = some (.int qq t1)) (hqq : qq = 1) (e3 : m₁ (Str.ofString "leftchar") = some (.int (v) t2)) (e4 : m₁ (Str.ofString "pads") = some (.int 0 t3)) (e5 : m₁ (Str.ofString "i") = some (.int j t4)) (e6 : m₁ (Str.ofString "strict_mode") = some (.bool false)) :
    DecJ vs (i + 1) m₁ [(lo, W.listOf (List.toArray vo) k)] := by
  subst hqq
  have hv := val_take_succ (B := 64) hn
  rw [← hV] at hv
  refine ⟨lo, 1, V * 64 + v, v, c, _, t1, t2, t3, t4, j, vo, k, e1, e2, e3, e4, e5, e6, rfl, hio, hv.symm, by push_cast; omega, .inr (.inl ⟨rfl, by omega, ?_⟩)⟩
  rw [show (V * 64 + v) / 64 = V by omega]
theorem DecJ.next1 {vs : List Int} {i c k : Nat} {v V j qq : Int} {m₁ : Str → Option Value} {lo : Addr} {t1 t2 t3 t4 u : Tok} {vo : List Value} (hn : vs[i]? = some v) (hv0 : 0 ≤ v ∧ v < 64) (hV : V = val 64 (vs.take i)) (hi : (i : Int) = 4 * c + 1) (hio : IntsAre vo (bdig 256 (3 * c) (V / 64))) (e1 : m₁ (Str.ofString "out") = some (.ref lo)) (e2 : m₁ (Str.ofString "quad_pos") = some (.int qq t1)) (hqq : qq = 2) (e3 : m₁ (Str.ofString "leftchar") = some (.int (Builtin.bitAnd v 15) t2)) (e4 : m₁ (Str.ofString "pads") = some (.int 0 t3)) (e5 : m₁ (Str.ofString "i") = some (.int j t4)) (e6 : m₁ (Str.ofString "strict_mode") = some (.bool false)) :
    DecJ vs (i + 1) m₁ [(lo, W.listOf ((List.toArray vo).push (.int (Builtin.bitOr (V % 64 * 2 ^ Int.toNat 2) (v.fdiv (2 ^ Int.toNat 4))) u)) k)] := by
  subst hqq
  have hv := val_take_succ (B := 64) hn
  rw [← hV] at hv
  have eo : Builtin.bitOr (V % 64 * 2 ^ Int.toNat 2) (v.fdiv (2 ^ Int.toNat 4)) = (V * 64 + v) / 16 % 256 := by
    rw [Int.fdiv_eq_ediv_of_nonneg _ (by decide)]
    have h := or_low (a := V % 64) (b := v / 16) (by omega) (by omega) 2 (by show v / 16 < 4; omega)
    show Builtin.bitOr (V % 64 * 2 ^ 2) (v / 16) = _
    rw [h]; omega
  rw [eo]
  simp only [List.push_toArray]
  refine ⟨lo, 2, V * 64 + v, _, c, _, t1, t2, t3, t4, j, _, k, e1, e2, e3, e4, e5, e6, rfl, hio.append (.cons _ _ .nil), hv.symm, by push_cast; omega, .inr (.inr (.inl ⟨rfl, by rw [bitAnd_m4]; omega, ?_⟩))⟩
  rw [bdig, show (V * 64 + v) / 16 / 256 = V / 64 by omega]
theorem DecJ.next2 {vs : List Int} {i c k : Nat} {v V j qq : Int} {m₁ : Str → Option Value} {lo : Addr} {t1 t2 t3 t4 u : Tok} {vo : List Value} (hn : vs[i]? = some v) (hv0 : 0 ≤ v ∧ v < 64) (hV : V = val 64 (vs.take i)) (hi : (i : Int) = 4 * c + 2) (hio : IntsAre vo (bdig 256 (3 * c + 1) (V / 16))) (e1 : m₁ (Str.ofString "out") = some (.ref lo)) (e2 : m₁ (Str.ofString "quad_pos") = some (.int qq t1)) (hqq : qq = 3) (e3 : m₁ (Str.ofString "leftchar") = some (.int (Builtin.bitAnd v 3) t2)) (e4 : m₁ (Str.ofString "pads") = some (.int 0 t3)) (e5 : m₁ (Str.ofString "i") = some (.int j t4)) (e6 : m₁ (Str.ofString "strict_mode") = some (.bool false)) :
    DecJ vs (i + 1) m₁ [(lo, W.listOf ((List.toArray vo).push (.int (Builtin.bitOr (V % 16 * 2 ^ Int.toNat 4) (v.fdiv (2 ^ Int.toNat 2))) u)) k)] := by
  subst hqq
  have hv := val_take_succ (B := 64) hn
  rw [← hV] at hv
  have eo : Builtin.bitOr (V % 16 * 2 ^ Int.toNat 4) (v.fdiv (2 ^ Int.toNat 2)) = (V * 64 + v) / 4 % 256 := by
    rw [Int.fdiv_eq_ediv_of_nonneg _ (by decide)]
    have h := or_low (a := V % 16) (b := v / 4) (by omega) (by omega) 4 (by show v / 4 < 16; omega)
    show Builtin.bitOr (V % 16 * 2 ^ 4) (v / 4) = _
    rw [h]; omega
  rw [eo]
  simp only [List.push_toArray]
  refine ⟨lo, 3, V * 64 + v, _, c, _, t1, t2, t3, t4, j, _, k, e1, e2, e3, e4, e5, e6, rfl, hio.append (.cons _ _ .nil), hv.symm, by push_cast; omega, .inr (.inr (.inr ⟨rfl, by rw [bitAnd_m2]; omega, ?_⟩))⟩
  have hb : bdig 256 ((3 * c + 1) + 1) ((V * 64 + v) / 4) = bdig 256 (3 * c + 1) ((V * 64 + v) / 4 / 256) ++ [(V * 64 + v) / 4 % 256] := rfl
  rw [show (V * 64 + v) / 4 / 256 = V / 16 by omega] at hb
  exact hb.symm
theorem DecJ.next3 {vs : List Int} {i c k : Nat} {v V j qq : Int} {m₁ : Str → Option Value} {lo : Addr} {t1 t2 t3 t4 u : Tok} {vo : List Value} (hn : vs[i]? = some v) (hv0 : 0 ≤ v ∧ v < 64) (hV : V = val 64 (vs.take i)) (hi : (i : Int) = 4 * c + 3) (hio : IntsAre vo (bdig 256 (3 * c + 2) (V / 4))) (e1 : m₁ (Str.ofString "out") = some (.ref lo)) (e2 : m₁ (Str.ofString "quad_pos") = some (.int qq t1)) (hqq : qq = 0) (e3 : m₁ (Str.ofString "leftchar") = some (.int (0) t2)) (e4 : m₁ (Str.ofString "pads") = some (.int 0 t3)) (e5 : m₁ (Str.ofString "i") = some (.int j t4)) (e6 : m₁ (Str.ofString "strict_mode") = some (.bool false)) :
    DecJ vs (i + 1) m₁ [(lo, W.listOf ((List.toArray vo).push (.int (Builtin.bitOr (V % 4 * 2 ^ Int.toNat 6) v) u)) k)] := by
  subst hqq
  have hv := val_take_succ (B := 64) hn
  rw [← hV] at hv
  have eo : Builtin.bitOr (V % 4 * 2 ^ Int.toNat 6) v = (V * 64 + v) % 256 := by
    have h := or_low (a := V % 4) (b := v) (by omega) (by omega) 6 (by show v < 64; omega)
    show Builtin.bitOr (V % 4 * 2 ^ 6) v = _
    rw [h]; omega
  rw [eo]
  simp only [List.push_toArray]
  refine ⟨lo, 0, V * 64 + v, _, c + 1, _, t1, t2, t3, t4, j, _, k, e1, e2, e3, e4, e5, e6, rfl, hio.append (.cons _ _ .nil), hv.symm, by push_cast; omega, .inl ⟨rfl, rfl, ?_⟩⟩
  have hb : bdig 256 ((3 * c + 2) + 1) (V * 64 + v) = bdig 256 (3 * c + 2) ((V * 64 + v) / 256) ++ [(V * 64 + v) % 256] := rfl
  rw [show (V * 64 + v) / 256 = V / 4 by omega] at hb
  rw [show 3 * (c + 1) = (3 * c + 2) + 1 by omega]
  exact hb.symm
section
local macro_rules | `(tactic| walk_at "call type:type") => `(tactic| ((with_reducible show wpAny _ _ (call (Value.type "type") [Value.bytes _ _]) _ _ _); refine call_type_of (typeIs_bytes _ _ _) (by decide) ?_))
local macro_rules | `(tactic| k_room) => `(tactic| ((try simp only [depth_in1, depth_deeper]); (try dsimp only [ktrTop]); omega))
local macro_rules | `(tactic| walk_at "exec For Name Name cons nil") => `(tactic| refine Halt.mk ?_)
local macro_rules | `(tactic| walk_at "call ref") => `(tactic| ((with_reducible show wpAny _ _ (call (Value.ref 112) _ _) _ _ _); refine Halt.mk ?_))
local macro_rules | `(tactic| walk_at "call type:bytes") => `(tactic| refine Halt.mk ?_)
set_option maxHeartbeats 8000000 in
theorem a2b_spec {w : World} {p : Program} {loose : List Str} {mean : ExcName → Option Value} {mg mb : Str → Option Value} {dp un : Nat} {gd : Option (List Code)} {cn : Str} {cs : Scope} {a : Addr} {ccd : Value} {cl : List (Str × Addr)} {outer : List Env} {A₀ : Around} {base h₀ : Heap} {L : Addr} {m : Str → Option Value} {s : Shared} {Q E : Value → Shared → Prop}
  (B : Below A₀ base outer h₀) (F : Fr h₀ L s.heap m) (X : (hd.heap_39 w.params).In h₀) (T : Top p loose mean mg mb h₀) (hk : cs.kind = .function) {news : List (Addr × Obj)} (N : News h₀ L s.heap news)
  {vs : List Int} {tb : Tok} (hvs : ∀ x ∈ vs, 0 ≤ x ∧ x < 64) {kk : Nat} (hkk : vs.length = 4 * kk) (hlen : kk ≤ 20)
  (hd : dp + 10 < recursionLimit)
  (ret : ∀ t h' tk', Fr h₀ L h' m → News h₀ L h' news → Q (.bytes (byteArr (bdig 256 (3 * kk) (val 64 vs))) t) { s with heap := h', toks := tk' }) :
  wpAny (model PySem.Challenge.rw_qh0022_01.row.prog w) (ktrTop dp un gd cn cs L a ccd cl outer) (call (.ref 120) [.bytes (byteArr (vs.map sgn)) tb] [(Str.ofString "strict_mode", .bool false)]) Q E s := by
  have hbi : KBw.bInts (byteArr (vs.map sgn)) = vs.map sgn := bInts_byteArr (by
    intro z hz
    obtain ⟨v, -, rfl⟩ := List.mem_map.mp hz
    exact sgn_range v)
  have hsz : (byteArr (vs.map sgn)).size = vs.length := by rw [byteArr_size, List.length_map]
  generalize byteArr (vs.map sgn) = bs at hbi hsz
  refine' enterPK (sub := []) (rest := news) (fun v l => ∃ t, v = .bytes (byteArr (bdig 256 (3 * kk) (val 64 vs))) t ∧ l = []) ?k1 ?k2 ?k3 ?k4 ?k5 ?kA ?kF ?kK ?kD ?k6 ?k7 ?k8 ?k9 ?kB ?kR ?_ ?c2 ?c3 ?c4 ?c5
  case k1 => exact B
  case k2 => exact F
  case k3 => exact X
  case k4 => exact N
  case k5 => exact T
  case kA => exact rfl
  case kF => exact rfl
  case kK => exact hk
  case k6 => k_is
  case k7 => k_is
  case k8 => show dp < _; omega
  case k9 => first | exact BindsTo.of_eq rfl | exact binds_K (by k_in) rfl (by k_is) rfl rfl rfl
  case kB => exact locs rfl
  case c5 => decide
  case c2 => exact rfl
  case c3 => exact rfl
  case c4 => exact rfl
  case kD => intro p hp; simp
  case kR => 
    rintro r news' h' tk' F' N' - ⟨t, rfl, rfl⟩
    exact ret t h' tk' F' N'
  intro g' L' h' F' N' B' X' T' l1 hg'
  clear hg' ret B F X N T
  k_steps
  refine Halt.out ?_
  rename Fr _ _ _ _ => Fx
  rename News _ _ _ _ => Nx
  refine For_invV g' rfl rfl ?_
  refine ld Fx rfl ?_
  refine iter_bytes (DecJ vs) rfl Fx Nx (DecJ.start rfl rfl rfl rfl rfl rfl) ?turn ?done
  case turn =>
    clear Fx Nx
    rintro i n u m₁ news₁ I oI h tk hn ⟨lo, q, V, lc, c, out, t1, t2, t3, t4, j, vo, ko, e1, e2, e3, e4, e5, e6, rfl, hio, hV, hi, hq⟩ hne F N
    rw [hbi, List.getElem?_map] at hn
    obtain ⟨v, hnv, rfl⟩ := Option.map_eq_some_iff.mp hn
    have hvm := hvs v (List.mem_of_getElem? hnv)
    have hlI : @Ne Nat lo I := hne _ (List.mem_singleton_self _)
    have hil : i < vs.length := (List.getElem?_eq_some_iff.mp hnv).1
    have hsg := sgn_cases hvm.1 hvm.2
    have hn61 : sgn v ≠ 61 := by omega
    clear hsg
    replace F := Fr.knowL6 F e1 e2 e3 e4 e5 e6
    have hvo : vo.length ≤ 200 := by
      rw [hio.length]
      rcases hq with ⟨rfl, rfl, rfl⟩ | ⟨rfl, rfl, rfl⟩ | ⟨rfl, rfl, rfl⟩ | ⟨rfl, rfl, rfl⟩ <;> rw [bdig_length] <;> omega
    k_steps
    · exact absurd (by assumption) hn61
    refine Halt.out ?_
    rename Fr _ _ _ _ => Fx
    rename News _ _ _ _ => Nx
    refine b64_value_spec B' Fx X' T' rfl Nx hvm.1 hvm.2 rfl (by show dp + 1 + 3 < _; omega) ?_
    intro tv h1x tk1 F1 N1
    clear Fx Nx
    rcases hq with ⟨rfl, rfl, rfl⟩ | ⟨rfl, rfl, rfl⟩ | ⟨rfl, rfl, rfl⟩ | ⟨rfl, rfl, rfl⟩
    all_goals k_steps
    all_goals (rename Fr _ _ _ _ => Fx; rename News _ _ _ _ => Nx)
    · refine' TurnEnd.go Fx Nx (DecJ.next0 (u := 0) hnv hvm hV hi hio ?e1 ?e2 ?hqq ?e3 ?e4 ?e5 ?e6) (fun _ h => h) (all1 hlI)
      case e1 => (repeat first | refine (if_neg (by decide +kernel)).trans ?_ | exact if_pos rfl | assumption)
      case e2 => (repeat first | refine (if_neg (by decide +kernel)).trans ?_ | exact if_pos rfl | assumption)
      case e3 => (repeat first | refine (if_neg (by decide +kernel)).trans ?_ | exact if_pos rfl | assumption)
      case e4 => (repeat first | refine (if_neg (by decide +kernel)).trans ?_ | exact if_pos rfl | assumption)
      case e5 => (repeat first | refine (if_neg (by decide +kernel)).trans ?_ | exact if_pos rfl | assumption)
      case e6 => (repeat first | refine (if_neg (by decide +kernel)).trans ?_ | exact if_pos rfl | assumption)
      case hqq => decide +kernel
    · refine' TurnEnd.go Fx Nx (DecJ.next1 hnv hvm hV hi hio ?e1 ?e2 ?hqq ?e3 ?e4 ?e5 ?e6) (fun _ h => h) (all1 hlI)
      case e1 => (repeat first | refine (if_neg (by decide +kernel)).trans ?_ | exact if_pos rfl | assumption)
      case e2 => (repeat first | refine (if_neg (by decide +kernel)).trans ?_ | exact if_pos rfl | assumption)
      case e3 => (repeat first | refine (if_neg (by decide +kernel)).trans ?_ | exact if_pos rfl | assumption)
      case e4 => (repeat first | refine (if_neg (by decide +kernel)).trans ?_ | exact if_pos rfl | assumption)
      case e5 => (repeat first | refine (if_neg (by decide +kernel)).trans ?_ | exact if_pos rfl | assumption)
      case e6 => (repeat first | refine (if_neg (by decide +kernel)).trans ?_ | exact if_pos rfl | assumption)
      case hqq => decide +kernel
    · refine' TurnEnd.go Fx Nx (DecJ.next2 hnv hvm hV hi hio ?e1 ?e2 ?hqq ?e3 ?e4 ?e5 ?e6) (fun _ h => h) (all1 hlI)
      case e1 => (repeat first | refine (if_neg (by decide +kernel)).trans ?_ | exact if_pos rfl | assumption)
      case e2 => (repeat first | refine (if_neg (by decide +kernel)).trans ?_ | exact if_pos rfl | assumption)
      case e3 => (repeat first | refine (if_neg (by decide +kernel)).trans ?_ | exact if_pos rfl | assumption)
      case e4 => (repeat first | refine (if_neg (by decide +kernel)).trans ?_ | exact if_pos rfl | assumption)
      case e5 => (repeat first | refine (if_neg (by decide +kernel)).trans ?_ | exact if_pos rfl | assumption)
      case e6 => (repeat first | refine (if_neg (by decide +kernel)).trans ?_ | exact if_pos rfl | assumption)
      case hqq => decide +kernel
    · refine' TurnEnd.go Fx Nx (DecJ.next3 hnv hvm hV hi hio ?e1 ?e2 ?hqq ?e3 ?e4 ?e5 ?e6) (fun _ h => h) (all1 hlI)
      case e1 => (repeat first | refine (if_neg (by decide +kernel)).trans ?_ | exact if_pos rfl | assumption)
      case e2 => (repeat first | refine (if_neg (by decide +kernel)).trans ?_ | exact if_pos rfl | assumption)
      case e3 => (repeat first | refine (if_neg (by decide +kernel)).trans ?_ | exact if_pos rfl | assumption)
      case e4 => (repeat first | refine (if_neg (by decide +kernel)).trans ?_ | exact if_pos rfl | assumption)
      case e5 => (repeat first | refine (if_neg (by decide +kernel)).trans ?_ | exact if_pos rfl | assumption)
      case e6 => (repeat first | refine (if_neg (by decide +kernel)).trans ?_ | exact if_pos rfl | assumption)
      case hqq => decide +kernel
  case done =>
    clear Fx Nx
    rintro m₁ news₁ h tk ⟨lo, q, V, lc, c, out, t1, t2, t3, t4, j, vo, ko, e1, e2, e3, e4, e5, e6, rfl, hio, hV, hi, hq⟩ F N
    rw [hsz] at hi hV
    have hq0 : q = 0 := by omega
    subst hq0
    have hc : c = kk := by omega
    subst hc
    rw [List.take_length] at hV
    have ho : out = bdig 256 (3 * c) V := by
      rcases hq with ⟨_, _, rfl⟩ | ⟨hh, _⟩ | ⟨hh, _⟩ | ⟨hh, _⟩
      · rfl
      all_goals omega
    subst ho
    subst hV
    clear hq
    replace F := Fr.know6 F e1 e2 e3 e4 e5 e6
    k_steps
    refine Halt.out ?_
    have hvo : vo.length = 3 * c := by rw [hio.length, bdig_length]
    refine call_bytes_ints ⟨_, News.get N (.head _), rfl, _, rfl⟩ hio (fun z hz => bdig_mem (by decide) _ _ _ hz) (by rw [sizeLine_eq]; omega) rfl ?_
    intro h1x t3 k3 hk3
    exact EndC.go (Fr.grow F hk3) (News.nil) ⟨t3, rfl, rfl⟩ (fun _ h => h)
end
end Mine
/-! Bde22 -/
namespace Mine
open PySem PySem.W PySem.Spec PySem.Calls PyProof.Rows
theorem enc_sgn {x : Str} {vs : List Int} (hx : x.cps.toList.map (fun c : Nat => (c : Int)) = vs.map sgn) : x.cps.map Nat.toUInt8 = byteArr (vs.map sgn) := by
  rw [← hx, byteArr, List.map_map]
  apply Array.ext'
  rw [Array.toList_map]
  simp
theorem enc_ok {x : Str} {vs : List Int} (hvs : ∀ x ∈ vs, 0 ≤ x ∧ x < 64) (hx : x.cps.toList.map (fun c : Nat => (c : Int)) = vs.map sgn) : (∀ c ∈ x.cps, c < 128) ∧ x.cps.size = vs.length := by
  refine ⟨fun c hc => ?_, ?_⟩
  · have h1 : (c : Int) ∈ x.cps.toList.map (fun c : Nat => (c : Int)) := List.mem_map_of_mem (Array.mem_toList_iff.mpr hc)
    rw [hx] at h1
    obtain ⟨v, hv, e⟩ := List.mem_map.mp h1
    have := sgn_cases (hvs v hv).1 (hvs v hv).2
    omega
  · have := congrArg List.length hx
    simpa using this
theorem call_encode' {prog : Program} {w : World} {A : Around} {E : Value → Shared → Prop} {s : Shared} {x : Str} {t u : Tok} {bs : Array UInt8} {Q : Value → Shared → Prop} (hx : ∀ c ∈ x.cps, c < 128) (hs : x.cps.size ≤ 1000) (e : x.cps.map Nat.toUInt8 = bs) (h : ∀ t' k, Q (.bytes bs t') { s with toks := k }) :
    wpAny (model prog w) A (call (.builtin "str.encode") [.str x t, .str (Str.ofString "ascii") u]) Q E s := by
  subst e
  exact call_encode hx hs h
section
local macro_rules | `(tactic| k_room) => `(tactic| ((try simp only [depth_in1, depth_deeper]); (try dsimp only [ktrTop]); omega))
local macro_rules | `(tactic| walk_at "call ref") => `(tactic| ((with_reducible show wpAny _ _ (call (Value.ref 120) _ _) _ _ _); refine Halt.mk ?_))
local macro_rules | `(tactic| walk_at "getMethod str") => `(tactic| with_reducible refine gm_encode ?_)
local macro_rules | `(tactic| walk_at "call builtin:str.encode") => `(tactic| (refine call_encode' (by assumption) (by assumption) (by assumption) ?_; intro _ _))
set_option maxHeartbeats 8000000 in
theorem b64decode_spec {w : World} {p : Program} {loose : List Str} {mean : ExcName → Option Value} {mg mb : Str → Option Value} {dp un : Nat} {gd : Option (List Code)} {cn : Str} {cs : Scope} {a : Addr} {ccd : Value} {cl : List (Str × Addr)} {outer : List Env} {A₀ : Around} {base h₀ : Heap} {L : Addr} {m : Str → Option Value} {s : Shared} {Q E : Value → Shared → Prop}
  (B : Below A₀ base outer h₀) (F : Fr h₀ L s.heap m) (X : (hd.heap_39 w.params).In h₀) (T : Top p loose mean mg mb h₀) (hk : cs.kind = .function) {news : List (Addr × Obj)} (N : News h₀ L s.heap news)
  {vs : List Int} {x : Str} {tb : Tok} (hvs : ∀ x ∈ vs, 0 ≤ x ∧ x < 64) {kk : Nat} (hkk : vs.length = 4 * kk) (hlen : kk ≤ 20)
  (hx : x.cps.toList.map (fun c : Nat => (c : Int)) = vs.map sgn)
  (hd : dp + 20 < recursionLimit)
  (ret : ∀ t h' tk', Fr h₀ L h' m → News h₀ L h' news → Q (.bytes (byteArr (bdig 256 (3 * kk) (val 64 vs))) t) { s with heap := h', toks := tk' }) :
  wpAny (model PySem.Challenge.rw_qh0022_01.row.prog w) (ktrTop dp un gd cn cs L a ccd cl outer) (call (.ref 144) [.str x tb]) Q E s := by
  obtain ⟨hx1, hx2⟩ := enc_ok hvs hx
  have hx3 : x.cps.size ≤ 1000 := by omega
  have hx4 := enc_sgn hx
  refine' enterPK (sub := []) (rest := news) (fun v l => ∃ t, v = .bytes (byteArr (bdig 256 (3 * kk) (val 64 vs))) t ∧ l = []) ?k1 ?k2 ?k3 ?k4 ?k5 ?kA ?kF ?kK ?kD ?k6 ?k7 ?k8 ?k9 ?kB ?kR ?_ ?c2 ?c3 ?c4 ?c5
  case k1 => exact B
  case k2 => exact F
  case k3 => exact X
  case k4 => exact N
  case k5 => exact T
  case kA => exact rfl
  case kF => exact rfl
  case kK => exact hk
  case k6 => k_is
  case k7 => k_is
  case k8 => show dp < _; omega
  case k9 => first | exact BindsTo.of_eq rfl | exact binds_K (by k_in) rfl (by k_is) rfl rfl rfl
  case kB => exact locs rfl
  case c5 => decide
  case c2 => exact rfl
  case c3 => exact rfl
  case c4 => exact rfl
  case kD => intro p hp; simp
  case kR => 
    rintro r news' h' tk' F' N' - ⟨t, rfl, rfl⟩
    exact ret t h' tk' F' N'
  intro g' L' h' F' N' B' X' T' l1 hg'
  clear hg' ret B F X N T
  k_steps
  refine Halt.out ?_
  rename Fr _ _ _ _ => Fx
  rename News _ _ _ _ => Nx
  refine a2b_spec B' Fx X' T' rfl Nx hvs hkk hlen (by show dp + 1 + 10 < _; omega) ?_
  intro t3 h3 tk3 F3 N3
  exact EndC.go F3 N3 ⟨t3, rfl, rfl⟩ (fun _ h => h)
end
end Mine
/-! LwE22 -/
namespace Mine
open PySem PySem.W PySem.Spec PySem.Calls PyProof.Rows
theorem pow64_256 (kk : Nat) : (64 : Int) ^ (4 * kk) = 256 ^ (3 * kk) := by
  rw [Int.pow_mul, Int.pow_mul]; rfl
theorem back256 {ds vals : List Int} {kk : Nat} (hdl : ds.length = 3 * kk) (hdr : ∀ x ∈ ds, 0 ≤ x ∧ x < 256) (hvals : vals = bdig 64 (4 * kk) (val 256 ds)) : bdig 256 (3 * kk) (val 64 vals) = ds := by
  have h := val_nonneg (B := 256) (by decide) ds hdr
  rw [hdl, ← pow64_256] at h
  rw [hvals, val_bdig_of_lt (by decide) h.1 h.2]
  exact bdig_val (by decide) _ _ hdl hdr
section
local macro_rules | `(tactic| walk_at "call ref") => `(tactic| refine Halt.mk ?_)
local macro_rules | `(tactic| k_ne) => `(tactic| (refine neN ?_; (try dsimp only); first | omega | (refine Sep.ne (by assumption) ?_; (repeat (first | exact List.Mem.head _ | refine List.Mem.tail _ ?_)); done) | (refine Sep.ne' (by assumption) ?_; (repeat (first | exact List.Mem.head _ | refine List.Mem.tail _ ?_)); done)))
local macro_rules | `(tactic| walk_at "getMethod str") => `(tactic| with_reducible refine gm_encode ?_)
local macro_rules | `(tactic| walk_at "call builtin:str.encode") => `(tactic| (refine call_encode' (by assumption) (by assumption) (by assumption) ?_; intro _ _))
local macro_rules | `(tactic| walk_at "call type:bytes") => `(tactic| refine Halt.mk ?_)
set_option maxHeartbeats 8000000 in
theorem lawE {w : World} {p : Program} {loose : List Str} {mean : ExcName → Option Value} {mg mb : Str → Option Value} {base h₀ : Heap} {L : Addr} {m : Str → Option Value} {s : Shared}
  {name qual : Str} {params : Arguments} {body : List Stmt} {scope : Scope} {dV kV doc pm cdv ct oc : Value} {an od : Option Addr} {osl : Array (Option Value)} (hb : (hd.heap_39 w.params).lookup 191 = some ⟨oc, od, .func (fnOf name qual params body scope dV kV doc pm an cdv ct), osl⟩) {fa : Addr} {cdw : Value}
  (B : Below callerA base [] h₀) (F : Fr h₀ L s.heap m) (X : (hd.heap_39 w.params).In h₀) (T : Top p loose mean mg mb h₀) (hlt : @LT.lt Nat _ 181 L)
  (C1 : CodeHd base 41 37) (C2 : CodeHd base 48 44) (C3 : CodeHd base 166 162) (C4 : CodeHd base 185 181)
  {o1 o2 o3 o4 o5 ov oc1 : Obj} {vals ds : List Int} {ld lv : Addr} {vv vd : List Value} {kv kd : Nat} {od' : Obj} {c1 c2 c3 : Addr} {oc2 oc3 : Obj} {t3 tt : Tok} {kk : Nat} {told : Str} (d3 : o3.data = .cell (some (.int (4 * (kk : Int)) t3))) (d4 : o4.data = .cell (some (.ref lv))) (hov : ov = W.listOf (List.toArray vv) kv) (hod : od' = W.listOf (List.toArray vd) kd)
  (N : News h₀ L s.heap [(L + 1 + 1 + 1 + 1 + 1, o5), (L + 1 + 1 + 1 + 1, o4), (L + 1 + 1 + 1, o3), (L + 1 + 1, o2), (L + 1, o1), (181, tabObj #[]), (162, tabObj #[rawInt 243, rawInt 18, .ref c3]), (c3, oc3), (44, tabObj #[rawInt 50, rawInt 4, .ref c2]), (c2, oc2), (37, tabObj #[rawInt 35, rawInt 4, .ref c1]), (c1, oc1), (ld, od'), (lv, ov)])
  (hs0 : Sep ld [L + 1 + 1 + 1 + 1 + 1, L + 1 + 1 + 1 + 1, L + 1 + 1 + 1, L + 1 + 1, L + 1, 181, 162, 44, 37])
  (hs2 : Sep c2 [L + 1 + 1 + 1 + 1 + 1, L + 1 + 1 + 1 + 1, L + 1 + 1 + 1, L + 1 + 1, L + 1, 181, 162, 44, 37, ld]) (hs3 : Sep c3 [L + 1 + 1 + 1 + 1 + 1, L + 1 + 1 + 1 + 1, L + 1 + 1 + 1, L + 1 + 1, L + 1, 181, 162, 44, 37, ld, c2]) (hs1 : Sep c1 [L + 1 + 1 + 1 + 1 + 1, L + 1 + 1 + 1 + 1, L + 1 + 1 + 1, L + 1 + 1, L + 1, 181, 162, 44, 37, ld, c2, c3]) (hsv : Sep lv [L + 1 + 1 + 1 + 1 + 1, L + 1 + 1 + 1 + 1, L + 1 + 1 + 1, L + 1 + 1, L + 1, 181, 162, 44, 37, ld, c2, c3, c1])
  (hiv : IntsAre vv vals) (hid : IntsAre vd ds) (hkk : kk ≤ 5) (hdl : ds.length = 3 * kk) (hdr : ∀ x ∈ ds, 0 ≤ x ∧ x < 256) (hvals : vals = bdig 64 (4 * kk) (val 256 ds))
  (hx : told.cps.toList.map (fun c : Nat => (c : Int)) = vals.map sgn)
  (hm : m (Str.ofString "drawn") = some (.ref ld)) (hmt : m (Str.ofString "told") = some (.str told tt)) :
  wpAny (model PySem.Challenge.rw_qh0022_01.row.prog w) (callerA.deeper (envOfC qual scope L fa cdw)) (execs ((body.drop 7).take 1) (envOfC qual scope L fa cdw)) (StageE h₀ L (fun m' news' => m' (Str.ofString "drawn") = some (.ref ld) ∧ news' = [(L + 1 + 1 + 1 + 1 + 1, o5), (L + 1 + 1 + 1 + 1, o4), (L + 1 + 1 + 1, o3), (L + 1 + 1, o2), (L + 1, o1), (181, tabObj #[]), (162, tabObj #[rawInt 243, rawInt 18, .ref c3]), (c3, oc3), (44, tabObj #[rawInt 50, rawInt 4, .ref c2]), (c2, oc2), (37, tabObj #[rawInt 35, rawInt 4, .ref c1]), (c1, oc1), (ld, od'), (lv, ov)]) s) (fun _ _ => False) s := by
  refine' lookup_det (P := fun qual scope body => wpAny (model PySem.Challenge.rw_qh0022_01.row.prog w) (callerA.deeper (envOfC qual scope L fa cdw)) (execs ((body.drop 7).take 1) (envOfC qual scope L fa cdw)) _ _ s) hb ?k6 ?_
  case k6 => k_is
  clear hb
  dsimp only [List.drop, List.take]
  obtain ⟨hp0, gn0, dr0, tk0, os0⟩ := s
  dsimp only at F N
  replace F := Fr.know2 F hm hmt
  clear hm hmt
  subst hov hod
  have hvl : vals.length = 4 * kk := by rw [hvals, bdig_length]
  k_steps
  · exfalso; omega
  refine Halt.out ?_
  rename Fr _ _ _ _ => Fx
  rename News _ _ _ _ => Nx
  have hd3 : (byteArr ds).size = 3 * kk := by rw [byteArr_size, hdl]
  have hbi : KBw.bInts (byteArr ds) = ds := bInts_byteArr hdr
  have hvr : ∀ x ∈ vals, 0 ≤ x ∧ x < 64 := by rw [hvals]; exact bdig_mem (by decide) _ _
  obtain ⟨hx1, hx2⟩ := enc_ok hvr hx
  have hx3 : told.cps.size ≤ 1000 := by omega
  have hx4 := enc_sgn hx
  have hback := back256 hdl hdr hvals
  refine bytes_K (ns := ds) Fx Nx (News.isList Nx (by k_mem)) hid hdr (by rw [hid.length, sizeLine_eq]; omega) rfl ?_
  intro h1 t1 tk1 F1 N1 _
  clear Fx Nx
  rw [show (List.map (fun n : Int => n.toNat.toUInt8) ds).toArray = byteArr ds from rfl]
  generalize hbs : byteArr ds = bs at hd3 hbi ⊢
  k_steps
  refine Halt.out ?_
  rename Fr _ _ _ _ => Fx
  rename News _ _ _ _ => Nx
  refine b64encode_spec B Fx X T rfl Nx (by omega) hd3 (by decide +kernel) ?_
  intro t2 h2 tk2 F2 N2
  rw [hbi, ← hvals]
  generalize hes : byteArr (List.map sgn vals) = es at hx4 ⊢
  clear Fx Nx
  k_steps
  · rename (_ != _) = true => hne; simp at hne
  refine Halt.out ?_
  rename Fr _ _ _ _ => Fx
  rename News _ _ _ _ => Nx
  refine b64decode_spec B Fx X T rfl Nx hvr hvl (by omega) hx (by decide +kernel) ?_
  intro t3 h3 tk3 F3 N3
  rw [hback, hbs]
  clear Fx Nx
  k_steps
  refine Halt.out ?_
  rename Fr _ _ _ _ => Fx
  rename News _ _ _ _ => Nx
  refine bytes_K (ns := ds) Fx Nx (News.isList Nx (by k_mem)) hid hdr (by rw [hid.length, sizeLine_eq]; omega) rfl ?_
  intro h4 t4 tk4 F4 N4 _
  clear Fx Nx
  rw [show (List.map (fun n : Int => n.toNat.toUInt8) ds).toArray = byteArr ds from rfl, hbs]
  k_steps
  · rename (_ != _) = true => hne; simp at hne
  rename Fr _ _ _ _ => Fx
  rename News _ _ _ _ => Nx
  exact StageE.go Fx Nx ⟨rfl, rfl⟩ (by k_allIn)
end
end Mine
/-! LwF22 -/
namespace Mine
open PySem PySem.W PySem.Spec PySem.Calls PyProof.Rows
theorem not_two' {l a b : Addr} {o p : Obj} (h1 : @Ne Nat l a) (h2 : @Ne Nat l b) : l ∉ ([(a, o), (b, p)] : List (Addr × Obj)).map (·.1) := not_two (q := (a, o)) (q' := (b, p)) h1 h2
section
local macro_rules | `(tactic| walk_at "call ref") => `(tactic| refine Halt.mk ?_)
local macro_rules | `(tactic| k_ne) => `(tactic| (refine neN ?_; (try dsimp only); first | omega | (refine Sep.ne (by assumption) ?_; (repeat (first | exact List.Mem.head _ | refine List.Mem.tail _ ?_)); done) | (refine Sep.ne' (by assumption) ?_; (repeat (first | exact List.Mem.head _ | refine List.Mem.tail _ ?_)); done)))
set_option maxHeartbeats 8000000 in
theorem lawF {w : World} {p : Program} {loose : List Str} {mean : ExcName → Option Value} {mg mb : Str → Option Value} {base h₀ : Heap} {L : Addr} {m : Str → Option Value} {s : Shared}
  {name qual : Str} {params : Arguments} {body : List Stmt} {scope : Scope} {dV kV doc pm cdv ct oc : Value} {an od : Option Addr} {osl : Array (Option Value)} (hb : (hd.heap_39 w.params).lookup 191 = some ⟨oc, od, .func (fnOf name qual params body scope dV kV doc pm an cdv ct), osl⟩) {fa : Addr} {cdw : Value}
  (B : Below callerA base [] h₀) (F : Fr h₀ L s.heap m) (X : (hd.heap_39 w.params).In h₀) (T : Top p loose mean mg mb h₀) (hlt : @LT.lt Nat _ 181 L)
  (C1 : CodeHd base 41 37) (C2 : CodeHd base 48 44) (C3 : CodeHd base 166 162) (C4 : CodeHd base 185 181)
  {o1 o2 o3 o4 o5 ov oc1 : Obj} {vals : List Int} {V : Int} {ld lv : Addr} {vv : List Value} {kv : Nat} {od' : Obj} {c1 c2 c3 : Addr} {oc2 oc3 : Obj} {t2 : Tok} {vs2 vs3 : Array Value} {tq2 tq3 : Tok} (d2 : o2.data = .cell (some (.int V t2))) (d4 : o4.data = .cell (some (.ref lv))) (hov : ov = W.listOf (List.toArray vv) kv)
  (hoc2 : oc2.data = .fields vs2) (hv2 : vs2[1]? = some (.str (Str.ofString "_digits2int.<locals>.inner") tq2)) (hoc3 : oc3.data = .fields vs3) (hv3 : vs3[1]? = some (.str (Str.ofString "_law_folded.<locals>.<lambda>") tq3))
  (N : News h₀ L s.heap [(L + 1 + 1 + 1 + 1 + 1, o5), (L + 1 + 1 + 1 + 1, o4), (L + 1 + 1 + 1, o3), (L + 1 + 1, o2), (L + 1, o1), (181, tabObj #[]), (162, tabObj #[rawInt 243, rawInt 18, .ref c3]), (c3, oc3), (44, tabObj #[rawInt 50, rawInt 4, .ref c2]), (c2, oc2), (37, tabObj #[rawInt 35, rawInt 4, .ref c1]), (c1, oc1), (ld, od'), (lv, ov)])
  (hs0 : Sep ld [L + 1 + 1 + 1 + 1 + 1, L + 1 + 1 + 1 + 1, L + 1 + 1 + 1, L + 1 + 1, L + 1, 181, 162, 44, 37])
  (hs2 : Sep c2 [L + 1 + 1 + 1 + 1 + 1, L + 1 + 1 + 1 + 1, L + 1 + 1 + 1, L + 1 + 1, L + 1, 181, 162, 44, 37, ld]) (hs3 : Sep c3 [L + 1 + 1 + 1 + 1 + 1, L + 1 + 1 + 1 + 1, L + 1 + 1 + 1, L + 1 + 1, L + 1, 181, 162, 44, 37, ld, c2]) (hs1 : Sep c1 [L + 1 + 1 + 1 + 1 + 1, L + 1 + 1 + 1 + 1, L + 1 + 1 + 1, L + 1 + 1, L + 1, 181, 162, 44, 37, ld, c2, c3]) (hsv : Sep lv [L + 1 + 1 + 1 + 1 + 1, L + 1 + 1 + 1 + 1, L + 1 + 1 + 1, L + 1 + 1, L + 1, 181, 162, 44, 37, ld, c2, c3, c1])
  (hiv : IntsAre vv vals) (hvl : vals.length ≤ 20) (hvr : ∀ x ∈ vals, 0 ≤ x ∧ x < 64) (hval : val 64 vals = V)
  (hm : m (Str.ofString "drawn") = some (.ref ld)) :
  wpAny (model PySem.Challenge.rw_qh0022_01.row.prog w) (callerA.deeper (envOfC qual scope L fa cdw)) (execs ((body.drop 8).take 1) (envOfC qual scope L fa cdw)) (StageE h₀ L (fun m' news' => m' (Str.ofString "drawn") = some (.ref ld) ∧ news' = [(L + 1 + 1 + 1 + 1 + 1, o5), (L + 1 + 1 + 1 + 1, o4), (L + 1 + 1 + 1, o3), (L + 1 + 1, o2), (L + 1, o1), (181, tabObj #[]), (162, tabObj #[rawInt 243, rawInt 18, .ref c3]), (c3, oc3), (44, tabObj #[rawInt 50, rawInt 4, .ref c2]), (c2, oc2), (37, tabObj #[rawInt 35, rawInt 4, .ref c1]), (c1, oc1), (ld, od'), (lv, ov)]) s) (fun _ _ => False) s := by
  refine' lookup_det (P := fun qual scope body => wpAny (model PySem.Challenge.rw_qh0022_01.row.prog w) (callerA.deeper (envOfC qual scope L fa cdw)) (execs ((body.drop 8).take 1) (envOfC qual scope L fa cdw)) _ _ s) hb ?k6 ?_
  case k6 => k_is
  clear hb
  dsimp only [List.drop, List.take]
  obtain ⟨hp0, gn0, dr0, tk0, os0⟩ := s
  dsimp only at F N
  replace F := Fr.know1 F hm
  clear hm
  subst hov
  k_steps
  refine Halt.out ?_
  rename Fr _ _ _ _ => Fx
  rename News _ _ _ _ => Nx
  rename IntsAre _ vals.reverse => hir
  have Ny : News h₀ L _ ([(44, tabObj #[rawInt 50, rawInt 4, .ref c2]), (c2, oc2)] ++ [(L + 1 + 1 + 1 + 1 + 1, o5), (L + 1 + 1 + 1 + 1, o4), (L + 1 + 1 + 1, o3), (L + 1 + 1, o2), (L + 1, o1), (181, tabObj #[]), (162, tabObj #[rawInt 243, rawInt 18, .ref c3]), (c3, oc3), (37, tabObj #[rawInt 35, rawInt 4, .ref c1]), (c1, oc1), (ld, od'), (lv, W.listOf (List.toArray vv) kv)]) := News.sub Nx (by k_allIn)
  refine digits2int_H B Fx X T rfl hoc2 hv2 Ny (off_two (by k_all) (by k_all)) C2 (News.isList Nx (by k_mem)) (not_two' (by k_ne) (by k_ne)) hir (by rw [List.length_reverse]; omega) (by decide) (fun x hx => hvr x (List.mem_reverse.mp hx)) (by decide +kernel) ?_
  intro t3 h1 tk1 F1 N1
  rw [List.reverse_reverse, show val (2 ^ Int.toNat 6) vals = V from hval]
  simp only [List.cons_append, List.nil_append] at N1
  clear Fx Nx Ny hir
  k_steps
  · exact absurd rfl (by assumption)
  refine Halt.out ?_
  rename Fr _ _ _ _ => Fx
  rename News _ _ _ _ => Nx
  have Ny : News h₀ L _ ([(162, tabObj #[rawInt 243, rawInt 18, .ref c3]), (c3, oc3)] ++ [(L + 1 + 1 + 1 + 1 + 1, o5), (L + 1 + 1 + 1 + 1, o4), (L + 1 + 1 + 1, o3), (L + 1 + 1, o2), (L + 1, o1), (181, tabObj #[]), (44, tabObj #[rawInt 50, rawInt 4, .ref c2]), (c2, oc2), (37, tabObj #[rawInt 35, rawInt 4, .ref c1]), (c1, oc1), (ld, od'), (lv, W.listOf (List.toArray vv) kv)]) := News.sub Nx (by k_allIn)
  refine law_folded_H B Fx X T rfl hoc3 hv3 Ny (off_two (by k_all) (by k_all)) C3 (News.isList Nx (by k_mem)) (not_two' (by k_ne) (by k_ne)) hiv (by omega) (by decide) (by decide +kernel) ?_
  intro t4 h2 tk2 F2 N2
  rw [hval]
  simp only [List.cons_append, List.nil_append] at N2
  clear Fx Nx Ny
  k_steps
  · exact absurd rfl (by assumption)
  rename Fr _ _ _ _ => Fx
  rename News _ _ _ _ => Nx
  exact StageE.go Fx Nx ⟨rfl, rfl⟩ (by k_allIn)
end
end Mine
/-! LwG22 -/
namespace Mine
open PySem PySem.W PySem.Spec PySem.Calls PyProof.Rows
/-- pairs of ints that a ledger bears -/
inductive PairsIn (news : List (Addr × Obj)) : List Value → List (Int × Int) → Prop where
  | nil : PairsIn news [] []
  | cons {a : Addr} {x y : Int} {t u : Tok} {k : Nat} {vs : List Value} {xs : List (Int × Int)} : (a, pairObj x y t u k) ∈ news → PairsIn news vs xs → PairsIn news (.ref a :: vs) ((x, y) :: xs)
theorem PairsIn.mono {news news' : List (Addr × Obj)} {vs : List Value} {xs : List (Int × Int)} (h : PairsIn news vs xs) (hs : ∀ p ∈ news, p ∈ news') : PairsIn news' vs xs := by
  induction h with
  | nil => exact .nil
  | cons hm _ ih => exact .cons (hs _ hm) ih
theorem PairsIn.snoc {news : List (Addr × Obj)} {vs : List Value} {xs : List (Int × Int)} {a : Addr} {x y : Int} {t u : Tok} {k : Nat} (h : PairsIn news vs xs) (hm : (a, pairObj x y t u k) ∈ news) : PairsIn news (vs ++ [.ref a]) (xs ++ [(x, y)]) := by
  induction h with
  | nil => exact .cons hm .nil
  | cons hm' _ ih => exact .cons hm' ih
def pairD (p : Int × Int) : PyData := .tuple [.int p.1, .int p.2]
theorem PairsIn.reads {h₀ h : Heap} {L : Addr} {news : List (Addr × Obj)} {vs : List Value} {xs : List (Int × Int)} (N : News h₀ L h news) (hp : PairsIn news vs xs) : ReadsAll h vs (xs.map pairD) [] := by
  induction hp with
  | nil => exact .nil
  | cons hm _ ih => exact ReadsAll.cons (as := []) (Reads.tuple (N _ hm).1 rfl rfl (ReadsAll.cons (as := []) (Reads.int _ _) (ReadsAll.cons (as := []) (Reads.int _ _) ReadsAll.nil))) ih
def IsPairs (ps : List (Addr × Obj)) : Prop := ∀ p ∈ ps, ∃ x y t u k, p.2 = pairObj x y t u k
theorem IsPairs.cons {ps : List (Addr × Obj)} {a : Addr} {x y : Int} {t u : Tok} {k : Nat} (h : IsPairs ps) : IsPairs ((a, pairObj x y t u k) :: ps) := fun p hp => by
  rcases List.mem_cons.mp hp with rfl | hp
  · exact ⟨x, y, t, u, k, rfl⟩
  · exact h p hp
theorem IsPairs.off {h₀ h : Heap} {L b : Addr} {o : Obj} {ps l : List (Addr × Obj)} {fs : Array Value} (hp : IsPairs ps) (N : News h₀ L h l) (hs : ∀ p ∈ ps, p ∈ l) (hb : (b, o) ∈ l) (hd : o.data = .fields fs) : ∀ p ∈ ps, p.1 ≠ b := by
  intro p hpp
  obtain ⟨x, y, t, u, k, e⟩ := hp p hpp
  refine News.neD N (o := p.2) (o' := o) (hs p hpp) hb ?_
  rw [e, hd]
  intro e; cases e
theorem Off3.seps {I C D : Addr} : ∀ {l : List (Addr × Obj)}, LCg.Off3 I C D l → Sep I (l.map (·.1)) ∧ Sep C (l.map (·.1)) ∧ Sep D (l.map (·.1))
  | [], _ => ⟨True.intro, True.intro, True.intro⟩
  | _ :: _, h => ⟨⟨h.1.1.symm, (Off3.seps h.2).1⟩, ⟨h.1.2.1.symm, (Off3.seps h.2).2.1⟩, ⟨h.1.2.2.symm, (Off3.seps h.2).2.2⟩⟩
theorem Off3.left {I C D : Addr} : ∀ {l r : List (Addr × Obj)}, LCg.Off3 I C D (l ++ r) → LCg.Off3 I C D l
  | [], _, _ => True.intro
  | _ :: _, _, h => ⟨h.1, Off3.left h.2⟩
theorem Off3.sub {I C D : Addr} {l r : List (Addr × Obj)} (h : LCg.Off3 I C D l) (hs : ∀ p ∈ r, p ∈ l) : LCg.Off3 I C D r := LCg.Off3.of fun p hp => LCg.Off3.mem h p (hs p hp)
theorem off_four {c1 c2 : Addr} {o1 o2 : Obj} {rest : List (Addr × Obj)} (h1 : ∀ q ∈ rest, q.1 ≠ 37) (h2 : ∀ q ∈ rest, q.1 ≠ c1) (h3 : ∀ q ∈ rest, q.1 ≠ 44) (h4 : ∀ q ∈ rest, q.1 ≠ c2) : ∀ q ∈ rest, q.1 ∉ (subI c1 o1 ++ subD c2 o2).map (·.1) := by
  intro q hq hm
  simp only [subI, subD, List.cons_append, List.nil_append, List.map_cons, List.map_nil, List.mem_cons, List.not_mem_nil, or_false] at hm
  rcases hm with e | e | e | e
  · exact h1 q hq e
  · exact h2 q hq e
  · exact h3 q hq e
  · exact h4 q hq e
theorem Off3.ins {I C D : Addr} {q : Addr × Obj} {l ps : List (Addr × Obj)} (h : LCg.Off3 I C D (l ++ ps)) (h1 : @Ne Nat q.1 I) (h2 : @Ne Nat q.1 C) (h3 : @Ne Nat q.1 D) : LCg.Off3 I C D (l ++ q :: ps) := LCg.Off3.of fun p hp => by
  rcases List.mem_append.mp hp with hp | hp
  · exact LCg.Off3.mem h p (List.mem_append_left _ hp)
  · rcases List.mem_cons.mp hp with rfl | hp
    · exact ⟨h1, h2, h3⟩
    · exact LCg.Off3.mem h p (List.mem_append_right _ hp)
theorem notin_four {h₀ h : Heap} {L a c1 c2 : Addr} {o oc1 oc2 : Obj} {xs vs1 vs2 : Array Value} {k : Nat} {rest : List (Addr × Obj)} (N : News h₀ L h ((a, o) :: (subI c1 oc1 ++ subD c2 oc2) ++ rest)) (hd : o.data = .seq xs k) (h1 : oc1.data = .fields vs1) (h2 : oc2.data = .fields vs2) : a ∉ (subI c1 oc1 ++ subD c2 oc2).map (·.1) := by
  simp only [subI, subD, List.cons_append, List.nil_append] at N
  have e : ∀ {b : Addr} {o' : Obj} {fs : Array Value}, (b, o') ∈ (a, o) :: (37, tabObj #[rawInt 35, rawInt 4, .ref c1]) :: (c1, oc1) :: (44, tabObj #[rawInt 50, rawInt 4, .ref c2]) :: (c2, oc2) :: rest → o'.data = .fields fs → @Ne Nat a b := fun hm hf => News.neD N (.head _) hm (by rw [hd, hf]; intro e; cases e)
  intro hm
  simp only [subI, subD, List.cons_append, List.nil_append, List.map_cons, List.map_nil, List.mem_cons, List.not_mem_nil, or_false] at hm
  rcases hm with q | q | q | q
  · exact e (b := 37) (o' := tabObj #[rawInt 35, rawInt 4, .ref c1]) (by k_mem) rfl q
  · exact e (b := c1) (o' := oc1) (by k_mem) h1 q
  · exact e (b := 44) (o' := tabObj #[rawInt 50, rawInt 4, .ref c2]) (by k_mem) rfl q
  · exact e (b := c2) (o' := oc2) (by k_mem) h2 q
theorem pairs_canLay : ∀ xs : List (Int × Int), PyData.canLayAll0 (xs.map pairD) = true
  | [] => rfl
  | _ :: r => by simp [PyData.canLayAll0, PyData.canLay0, pairD, pairs_canLay r]
theorem pairs_depth : ∀ xs : List (Int × Int), PyData.depthAll (xs.map pairD) ≤ 1
  | [] => by simp [PyData.depthAll]
  | _ :: r => by
    have := pairs_depth r
    simp [PyData.depthAll, PyData.depth, pairD]
    omega
theorem pairs_shaped (xs : List (Int × Int)) : SeqAt.shaped (.list (xs.map pairD)) = true := by
  have h := pairs_depth xs
  simp [SeqAt.shaped, PyData.canLay0, PyData.depth, pairs_canLay]
  omega
theorem pairs_eqvAll : ∀ xs : List (Int × Int), PyData.eqvAll (xs.map pairD) (xs.map pairD) = true
  | [] => by simp [PyData.eqvAll]
  | _ :: r => by simp [PyData.eqvAll, PyData.eqv, pairD, pairs_eqvAll r]
theorem pairs_eqv (xs : List (Int × Int)) : PyData.eqv (.list (xs.map pairD)) (.list (xs.map pairD)) = true := by
  simp only [PyData.eqv]; exact pairs_eqvAll xs
theorem pairs_eq {V : Int} (kk : Nat) (h0 : 0 ≤ V) (h : V < 64 ^ (4 * kk)) : ((List.range (4 * kk + 1)).map fun p => (val 64 ((bdig 64 (4 * kk) V).take (4 * kk - p)), val 64 ((bdig 64 (4 * kk) V).drop (4 * kk - p)))) = ((List.range (4 * kk + 1)).map fun p => (V / 64 ^ p, V % 64 ^ p)) := by
  apply List.map_congr_left
  intro p hp
  have hp' := List.mem_range.mp hp
  have hb : (0 : Int) < 64 := by decide
  have e1 : 4 * kk - (4 * kk - p) = p := by omega
  rw [bdig_take hb (by omega), bdig_drop hb (by omega), e1, val_bdig hb p, val_bdig_of_lt hb (Int.ediv_nonneg h0 (Int.le_of_lt (Int.pow_pos hb)))]
  refine Int.ediv_lt_of_lt_mul (Int.pow_pos hb) ?_
  rw [← Int.pow_add, show 4 * kk - p + p = 4 * kk by omega]
  exact h
theorem pow64_bits {i : Nat} (h : i ≤ 20) : Builtin.Int.intBits ((64 : Int) ^ i) ≤ 200 := by
  refine intBits_le_iff.mpr ?_
  have h1 : (64 : Nat) ^ i ≤ 64 ^ 20 := Nat.pow_le_pow_right (by decide) h
  have h2 : ((64 : Int) ^ i).natAbs = 64 ^ i := by rw [Int.natAbs_pow]; rfl
  rw [h2]
  exact Nat.lt_of_le_of_lt h1 (by decide +kernel)
section
local macro_rules | `(tactic| k_all) => `(tactic| first | assumption | exact List.forall_mem_nil _ | (refine' List.forall_mem_cons.mpr ⟨?a, ?b⟩; (case a => k_ne); (case b => k_all)))
local macro_rules | `(tactic| walk_at "call ref") => `(tactic| refine Halt.mk ?_)
local macro_rules | `(tactic| k_ne) => `(tactic| (refine neN ?_; (try dsimp only); first | omega | (refine Sep.ne (by assumption) ?_; (repeat (first | exact List.Mem.head _ | refine List.Mem.tail _ ?_)); done) | (refine Sep.ne' (by assumption) ?_; (repeat (first | exact List.Mem.head _ | refine List.Mem.tail _ ?_)); done)))
local macro_rules | `(tactic| walk_at "compareOp NotEq ref ref") => `(tactic| refine Halt.mk ?_)
local macro_rules | `(tactic| walk_at "CompSrc") => `(tactic| refine Halt.mk ?_)
local macro_rules | `(tactic| walk_at "eval ListComp") => `(tactic| (k_here; k_dflt (refine LCg.ListComp_U (F₀ := by k_asm) (by with_unfolding_all rfl) (by decide) (by rfl) (by decide) (by rfl) ?_)))
set_option maxHeartbeats 8000000 in
theorem lawG {w : World} {p : Program} {loose : List Str} {mean : ExcName → Option Value} {mg mb : Str → Option Value} {base h₀ : Heap} {L : Addr} {m : Str → Option Value} {s : Shared}
  {name qual : Str} {params : Arguments} {body : List Stmt} {scope : Scope} {dV kV doc pm cdv ct oc : Value} {an od : Option Addr} {osl : Array (Option Value)} (hb : (hd.heap_39 w.params).lookup 191 = some ⟨oc, od, .func (fnOf name qual params body scope dV kV doc pm an cdv ct), osl⟩) {fa : Addr} {cdw : Value}
  (B : Below callerA base [] h₀) (F : Fr h₀ L s.heap m) (X : (hd.heap_39 w.params).In h₀) (T : Top p loose mean mg mb h₀) (hlt : @LT.lt Nat _ 181 L)
  (C1 : CodeHd base 41 37) (C2 : CodeHd base 48 44) (C3 : CodeHd base 166 162) (C4 : CodeHd base 185 181)
  {o1 o2 o3 o4 o5 ov oc1 : Obj} {vals : List Int} {V : Int} {ld lv : Addr} {vv : List Value} {kv : Nat} {od' : Obj} {c1 c2 c3 : Addr} {oc2 oc3 : Obj} {t2 t3 : Tok} {vs1 vs2 : Array Value} {tq1 tq2 : Tok} {kk : Nat} (d2 : o2.data = .cell (some (.int V t2))) (d3 : o3.data = .cell (some (.int (4 * (kk : Int)) t3))) (d4 : o4.data = .cell (some (.ref lv))) (hov : ov = W.listOf (List.toArray vv) kv)
  (hoc1 : oc1.data = .fields vs1) (hv1 : vs1[1]? = some (.str (Str.ofString "_int2digits.<locals>.inner") tq1)) (hoc2 : oc2.data = .fields vs2) (hv2 : vs2[1]? = some (.str (Str.ofString "_digits2int.<locals>.inner") tq2))
  (N : News h₀ L s.heap [(L + 1 + 1 + 1 + 1 + 1, o5), (L + 1 + 1 + 1 + 1, o4), (L + 1 + 1 + 1, o3), (L + 1 + 1, o2), (L + 1, o1), (181, tabObj #[]), (162, tabObj #[rawInt 243, rawInt 18, .ref c3]), (c3, oc3), (44, tabObj #[rawInt 50, rawInt 4, .ref c2]), (c2, oc2), (37, tabObj #[rawInt 35, rawInt 4, .ref c1]), (c1, oc1), (ld, od'), (lv, ov)])
  (hs0 : Sep ld [L + 1 + 1 + 1 + 1 + 1, L + 1 + 1 + 1 + 1, L + 1 + 1 + 1, L + 1 + 1, L + 1, 181, 162, 44, 37])
  (hs2 : Sep c2 [L + 1 + 1 + 1 + 1 + 1, L + 1 + 1 + 1 + 1, L + 1 + 1 + 1, L + 1 + 1, L + 1, 181, 162, 44, 37, ld]) (hs3 : Sep c3 [L + 1 + 1 + 1 + 1 + 1, L + 1 + 1 + 1 + 1, L + 1 + 1 + 1, L + 1 + 1, L + 1, 181, 162, 44, 37, ld, c2]) (hs1 : Sep c1 [L + 1 + 1 + 1 + 1 + 1, L + 1 + 1 + 1 + 1, L + 1 + 1 + 1, L + 1 + 1, L + 1, 181, 162, 44, 37, ld, c2, c3]) (hsv : Sep lv [L + 1 + 1 + 1 + 1 + 1, L + 1 + 1 + 1 + 1, L + 1 + 1 + 1, L + 1 + 1, L + 1, 181, 162, 44, 37, ld, c2, c3, c1])
  (hiv : IntsAre vv vals) (hkk : kk ≤ 5) (hvals : vals = bdig 64 (4 * kk) V) (hV0 : 0 ≤ V) (hV : V < 64 ^ (4 * kk)) (hVb : Builtin.Int.intBits V ≤ 200)
  (hm : m (Str.ofString "drawn") = some (.ref ld)) :
  wpAny (model PySem.Challenge.rw_qh0022_01.row.prog w) (callerA.deeper (envOfC qual scope L fa cdw)) (execs ((body.drop 9).take 1) (envOfC qual scope L fa cdw)) (StageE h₀ L (fun m' news' => m' (Str.ofString "drawn") = some (.ref ld) ∧ news' = [(L + 1 + 1 + 1 + 1 + 1, o5), (L + 1 + 1 + 1 + 1, o4), (L + 1 + 1 + 1, o3), (L + 1 + 1, o2), (L + 1, o1), (181, tabObj #[]), (162, tabObj #[rawInt 243, rawInt 18, .ref c3]), (c3, oc3), (44, tabObj #[rawInt 50, rawInt 4, .ref c2]), (c2, oc2), (37, tabObj #[rawInt 35, rawInt 4, .ref c1]), (c1, oc1), (ld, od'), (lv, ov)]) s) (fun _ _ => False) s := by
  refine' lookup_det (P := fun qual scope body => wpAny (model PySem.Challenge.rw_qh0022_01.row.prog w) (callerA.deeper (envOfC qual scope L fa cdw)) (execs ((body.drop 9).take 1) (envOfC qual scope L fa cdw)) _ _ s) hb ?k6 ?_
  case k6 => k_is
  clear hb
  dsimp only [List.drop, List.take]
  obtain ⟨hp0, gn0, dr0, tk0, os0⟩ := s
  dsimp only at F N
  replace F := Fr.know1 F hm
  clear hm
  subst hov
  k_steps
  refine Halt.out ?_
  rename Fr _ _ _ _ => Fx
  rename News _ _ _ _ => Nx
  refine LCg.CompSrc.range (n := 4 * kk + 1) rfl Fx Nx (by assumption) (small_one (by omega) (by omega) (by omega) (by omega)) (by rw [rangeSize_nat]; omega) (by rw [sizeLine_eq]; omega) ?_
  intro g'
  refine compRest_inv (fun i ys news => ∃ ps, news = (L + 1 + 1 + 1 + 1 + 1, o5) :: (L + 1 + 1 + 1 + 1, o4) :: (L + 1 + 1 + 1, o3) :: (L + 1 + 1, o2) :: (L + 1, o1) :: (181, tabObj #[]) :: (162, tabObj #[rawInt 243, rawInt 18, .ref c3]) :: (c3, oc3) :: (44, tabObj #[rawInt 50, rawInt 4, .ref c2]) :: (c2, oc2) :: (37, tabObj #[rawInt 35, rawInt 4, .ref c1]) :: (c1, oc1) :: (ld, od') :: (lv, W.listOf (List.toArray vv) kv) :: ps ∧ IsPairs ps ∧ PairsIn ps ys ((List.range i).map fun p => (V / 64 ^ p, V % 64 ^ p))) ⟨[], rfl, (fun _ h => nomatch h), .nil⟩ ?turn ?fin
  case turn =>
    clear Fx Nx
    rintro i ys _ hi ⟨ps, rfl, hps, hpi⟩ v I oI C oC D m₂ h tk E' ⟨t, rfl⟩ hC hx F1 N1 off ne
    rw [Int.zero_add] at hx
    k_steps
    refine Halt.out ?_
    rename Fr _ _ _ _ => Fx
    rename News _ _ _ _ => Nx
    obtain ⟨sI, sC, sD⟩ := Off3.seps (l := [(L + 1 + 1 + 1 + 1 + 1, o5), (L + 1 + 1 + 1 + 1, o4), (L + 1 + 1 + 1, o3), (L + 1 + 1, o2), (L + 1, o1), (181, tabObj #[]), (162, tabObj #[rawInt 243, rawInt 18, .ref c3]), (c3, oc3), (44, tabObj #[rawInt 50, rawInt 4, .ref c2]), (c2, oc2), (37, tabObj #[rawInt 35, rawInt 4, .ref c1]), (c1, oc1), (ld, od'), (lv, W.listOf (List.toArray vv) kv)]) (Off3.left (r := ps) off)
    simp only [List.map] at sI sC sD
    have p37 := IsPairs.off hps Nx (b := 37) (o := tabObj #[rawInt 35, rawInt 4, .ref c1]) (by kcf_all) (by k_mem) rfl
    have p44 := IsPairs.off hps Nx (b := 44) (o := tabObj #[rawInt 50, rawInt 4, .ref c2]) (by kcf_all) (by k_mem) rfl
    have pc1 := IsPairs.off hps Nx (b := c1) (by kcf_all) (by k_mem) hoc1
    have pc2 := IsPairs.off hps Nx (b := c2) (by kcf_all) (by k_mem) hoc2
    have e64 : (64 : Int) ^ (i : Int).toNat = 64 ^ i := by rw [Int.toNat_natCast]
    rw [e64]
    have Ny : News h₀ L _ ((subI c1 oc1 ++ subD c2 oc2) ++ ((I, oI) :: (C, oC) :: (D, LCg.lst ys) :: (L + 1 + 1 + 1 + 1 + 1, o5) :: (L + 1 + 1 + 1 + 1, o4) :: (L + 1 + 1 + 1, o3) :: (L + 1 + 1, o2) :: (L + 1, o1) :: (181, tabObj #[]) :: (162, tabObj #[rawInt 243, rawInt 18, .ref c3]) :: (c3, oc3) :: (ld, od') :: (lv, W.listOf (List.toArray vv) kv) :: ps)) := News.sub Nx (by simp only [subI, subD, List.cons_append, List.nil_append]; kcf_all)
    have M : Made2 c1 oc1 c2 oc2 := ⟨⟨vs1, tq1, hoc1, hv1⟩, ⟨vs2, tq2, hoc2, hv2⟩, by k_ne, by k_ne, by k_ne, by k_ne, by k_ne⟩
    refine int_divmod_spec B Fx X T rfl M Ny (off_four (by k_all) (by k_all) (by k_all) (by k_all)) C1 C2 hV0 (Int.pow_pos (by decide)) hVb (pow64_bits (by omega)) (by decide +kernel) ?_
    intro a t5 u5 k5 h1 tk1 F2 N2 hfa
    have hne := News.allNe Nx (hfa.resolve_left (notin_four N2 rfl hoc1 hoc2))
    exact LCg.CompEnd.intro F2 N2 ((L + 1 + 1 + 1 + 1 + 1, o5) :: (L + 1 + 1 + 1 + 1, o4) :: (L + 1 + 1 + 1, o3) :: (L + 1 + 1, o2) :: (L + 1, o1) :: (181, tabObj #[]) :: (162, tabObj #[rawInt 243, rawInt 18, .ref c3]) :: (c3, oc3) :: (44, tabObj #[rawInt 50, rawInt 4, .ref c2]) :: (c2, oc2) :: (37, tabObj #[rawInt 35, rawInt 4, .ref c1]) :: (c1, oc1) :: (ld, od') :: (lv, W.listOf (List.toArray vv) kv) :: (a, pairObj (V / 64 ^ i) (V % 64 ^ i) t5 u5 k5) :: ps) (by kcf_all) (Off3.ins (l := [(L + 1 + 1 + 1 + 1 + 1, o5), (L + 1 + 1 + 1 + 1, o4), (L + 1 + 1 + 1, o3), (L + 1 + 1, o2), (L + 1, o1), (181, tabObj #[]), (162, tabObj #[rawInt 243, rawInt 18, .ref c3]), (c3, oc3), (44, tabObj #[rawInt 50, rawInt 4, .ref c2]), (c2, oc2), (37, tabObj #[rawInt 35, rawInt 4, .ref c1]), (c1, oc1), (ld, od'), (lv, W.listOf (List.toArray vv) kv)]) off hne.1 hne.2.1 hne.2.2.1) True.intro
      ⟨(a, pairObj (V / 64 ^ i) (V % 64 ^ i) t5 u5 k5) :: ps, rfl, hps.cons, by rw [List.range_succ, List.map_append]; exact (hpi.mono (fun p hp => .tail _ hp)).snoc (.head _)⟩
  case fin =>
    clear Fx Nx
    rintro ys1 _ ⟨ps1, rfl, hps1, hpi1⟩ D1 h1 tk1 F1 N1 off1
    k_steps
    refine Halt.out ?_
    rename Fr _ _ _ _ => Fx
    rename News _ _ _ _ => Nx
    refine LCg.CompSrc.range (n := 4 * kk + 1) rfl Fx Nx (by assumption) (small_one (by omega) (by omega) (by omega) (by omega)) (by rw [rangeSize_nat]; omega) (by rw [sizeLine_eq]; omega) ?_
    clear Fx Nx
    intro g2
    have hvl : vals.length = 4 * kk := by rw [hvals, bdig_length]
    have hvr256 : ∀ x ∈ vals, 0 ≤ x ∧ x < 256 := fun x hx => by
      have := bdig_mem (B := 64) (by decide) (4 * kk) V x (hvals ▸ hx)
      omega
    refine compRest_inv (fun i ys news => ∃ ps, news = (D1, LCg.lst ys1) :: (L + 1 + 1 + 1 + 1 + 1, o5) :: (L + 1 + 1 + 1 + 1, o4) :: (L + 1 + 1 + 1, o3) :: (L + 1 + 1, o2) :: (L + 1, o1) :: (181, tabObj #[]) :: (162, tabObj #[rawInt 243, rawInt 18, .ref c3]) :: (c3, oc3) :: (44, tabObj #[rawInt 50, rawInt 4, .ref c2]) :: (c2, oc2) :: (37, tabObj #[rawInt 35, rawInt 4, .ref c1]) :: (c1, oc1) :: (ld, od') :: (lv, W.listOf (List.toArray vv) kv) :: ps ∧ IsPairs ps ∧ PairsIn ps ys1 ((List.range (4 * kk + 1)).map fun p => (V / 64 ^ p, V % 64 ^ p)) ∧ PairsIn ps ys ((List.range i).map fun p => (val 64 (vals.take (4 * kk - p)), val 64 (vals.drop (4 * kk - p))))) ⟨ps1, rfl, hps1, hpi1, .nil⟩ ?turn ?fin
    case turn =>
      clear hpi1 hps1
      rintro i ys _ hi ⟨ps, rfl, hps, hpi1, hpi⟩ v I oI C oC D m₂ h tk E' ⟨t, rfl⟩ hC hx F1 N1 off ne
      rw [Int.zero_add] at hx
      have hsg : (0 : Int) ≤ 4 * (kk : Int) - (i : Int) := by omega
      k_steps
      refine Halt.out ?_
      rename Fr _ _ _ _ => Fx
      rename News _ _ _ _ => Nx
      rename IntsAre _ (List.take _ vals) => hia
      refine law_sum_spec B Fx X T rfl Nx (News.isList Nx (by k_mem)) hia (by rw [List.length_take]; omega) (fun x hx => hvr256 x (List.mem_of_mem_take hx)) (by decide) (by decide +kernel) ?_
      intro tw1 h3 tk3 F3 N3
      rename (I : Nat) < _ ∧ _ => l1x
      rename List.length (List.take _ vals) = _ => hcx
      rename List.length (List.take _ vals) ≤ _ => hcy
      replace N3 : News h₀ L h3 ((I, oI) :: (C, oC) :: (D, LCg.lst ys) :: (D1, LCg.lst ys1) :: (L + 1 + 1 + 1 + 1 + 1, o5) :: (L + 1 + 1 + 1 + 1, o4) :: (L + 1 + 1 + 1, o3) :: (L + 1 + 1, o2) :: (L + 1, o1) :: (181, tabObj #[]) :: (162, tabObj #[rawInt 243, rawInt 18, .ref c3]) :: (c3, oc3) :: (44, tabObj #[rawInt 50, rawInt 4, .ref c2]) :: (c2, oc2) :: (37, tabObj #[rawInt 35, rawInt 4, .ref c1]) :: (c1, oc1) :: (ld, od') :: (lv, W.listOf (List.toArray vv) kv) :: ps) := News.sub N3 (by kcf_all)
      clear Fx Nx hia l1x hcx hcy
      k_steps
      refine Halt.out ?_
      rename Fr _ _ _ _ => Fx
      rename News _ _ _ _ => Nx
      rename IntsAre _ (List.drop _ vals) => hia
      refine law_sum_spec B Fx X T rfl Nx (News.isList Nx (by k_mem)) hia (by rw [List.length_drop]; omega) (fun x hx => hvr256 x (List.mem_of_mem_drop hx)) (by decide) (by decide +kernel) ?_
      clear Fx Nx hia
      intro tw2 h4 tk4 F4 N4
      k_steps
      rename_i T hT FT NT lT
      have e4 : (4 * (kk : Int) - (i : Int)).toNat = 4 * kk - i := by omega
      rw [e4] at NT
      have hT1 : (T, pairObj (val 64 (vals.take (4 * kk - i))) (val 64 (vals.drop (4 * kk - i))) tw1 tw2 0) ∈ (T, pairObj (val 64 (vals.take (4 * kk - i))) (val 64 (vals.drop (4 * kk - i))) tw1 tw2 0) :: ps := .head _
      exact LCg.CompEnd.intro FT NT ((D1, LCg.lst ys1) :: (L + 1 + 1 + 1 + 1 + 1, o5) :: (L + 1 + 1 + 1 + 1, o4) :: (L + 1 + 1 + 1, o3) :: (L + 1 + 1, o2) :: (L + 1, o1) :: (181, tabObj #[]) :: (162, tabObj #[rawInt 243, rawInt 18, .ref c3]) :: (c3, oc3) :: (44, tabObj #[rawInt 50, rawInt 4, .ref c2]) :: (c2, oc2) :: (37, tabObj #[rawInt 35, rawInt 4, .ref c1]) :: (c1, oc1) :: (ld, od') :: (lv, W.listOf (List.toArray vv) kv) :: (T, pairObj (val 64 (vals.take (4 * kk - i))) (val 64 (vals.drop (4 * kk - i))) tw1 tw2 0) :: ps) (by kcf_all) (Off3.ins (l := (D1, LCg.lst ys1) :: [(L + 1 + 1 + 1 + 1 + 1, o5), (L + 1 + 1 + 1 + 1, o4), (L + 1 + 1 + 1, o3), (L + 1 + 1, o2), (L + 1, o1), (181, tabObj #[]), (162, tabObj #[rawInt 243, rawInt 18, .ref c3]), (c3, oc3), (44, tabObj #[rawInt 50, rawInt 4, .ref c2]), (c2, oc2), (37, tabObj #[rawInt 35, rawInt 4, .ref c1]), (c1, oc1), (ld, od'), (lv, W.listOf (List.toArray vv) kv)]) off (Nat.ne_of_gt lT.2.1) (Nat.ne_of_gt lT.2.2.1) (Nat.ne_of_gt lT.2.2.2.1)) True.intro
        ⟨(T, pairObj (val 64 (vals.take (4 * kk - i))) (val 64 (vals.drop (4 * kk - i))) tw1 tw2 0) :: ps, rfl, hps.cons, hpi1.mono (fun p hp => .tail _ hp), by rw [List.range_succ, List.map_append]; exact (hpi.mono (fun p hp => .tail _ hp)).snoc hT1⟩
    case fin =>
      rintro ys2 _ ⟨ps2, rfl, hps2, hpi1, hpi2⟩ D2 h2 tk2 F2 N2 off2
      clear hps1 hps2
      k_steps
      refine Halt.out ?_
      rename Fr _ _ _ _ => Fx
      rename News _ _ _ _ => Nx
      have r1 : Reads h2 (.ref D1) (.list (((List.range (4 * kk + 1)).map fun p => (V / 64 ^ p, V % 64 ^ p)).map pairD)) [D1] := Reads.list (News.get Nx (by k_mem)) rfl rfl (by simpa using PairsIn.reads (News.sub Nx (by kcf_all)) hpi1)
      have r2 : Reads h2 (.ref D2) (.list (((List.range (4 * kk + 1)).map fun p => (val 64 (vals.take (4 * kk - p)), val 64 (vals.drop (4 * kk - p)))).map pairD)) [D2] := Reads.list (News.get Nx (by k_mem)) rfl rfl (by simpa using PairsIn.reads (News.sub Nx (by kcf_all)) hpi2)
      have e12 : ((List.range (4 * kk + 1)).map fun p => (val 64 (vals.take (4 * kk - p)), val 64 (vals.drop (4 * kk - p)))) = ((List.range (4 * kk + 1)).map fun p => (V / 64 ^ p, V % 64 ^ p)) := by
        rw [hvals]; exact pairs_eq kk hV0 hV
      rw [e12] at r2
      refine ne_dataH r1 r2 (pairs_shaped _) (pairs_shaped _) (by ke_room) ?_
      rw [pairs_eqv]
      k_steps
      exact StageE.go Fx Nx ⟨rfl, rfl⟩ (by kcf_all)
end
end Mine
/-! LwH22 -/
namespace Mine
open PySem PySem.W PySem.Spec PySem.Calls PyProof.Rows
theorem pow64_2 (kk : Nat) : (64 : Int) ^ (4 * kk) = ((2 ^ (24 * kk) : Nat) : Int) := by
  rw [show (64 : Int) = 2 ^ 6 from rfl, ← Int.pow_mul, show 6 * (4 * kk) = 24 * kk by omega]
  push_cast; rfl
theorem pad2 {V : Int} {kk : Nat} (h0 : 0 ≤ V) (h : V < 64 ^ (4 * kk)) : nDigs V 1 ≤ 24 * kk ∧ List.replicate (24 * kk - (bdig (2 ^ Int.toNat 1) (nDigs V 1) V).reverse.length) 0 ++ (bdig (2 ^ Int.toNat 1) (nDigs V 1) V).reverse.reverse = bdig 2 (24 * kk) V := by
  have hf := fits_digs (x := V) (n := 1) h0 (by decide)
  have hn : nDigs V 1 ≤ 24 * kk := by
    have h1 : Builtin.Int.intBits V ≤ 24 * kk := intBits_le_iff.mpr (by
      rw [pow64_2] at h
      omega)
    unfold nDigs
    rw [Int.fdiv_eq_ediv_of_nonneg _ (by decide)]
    omega
  refine ⟨hn, ?_⟩
  rw [List.reverse_reverse, List.length_reverse, bdig_length]
  have := bdig_pad (B := 2) (by decide) (24 * kk - nDigs V 1) (nDigs V 1) h0 hf
  rw [show 24 * kk - nDigs V 1 + nDigs V 1 = 24 * kk by omega] at this
  exact this.symm
def StH (L : Addr) (o1 o2 o3 o4 : Obj) (ld : Addr) (od' : Obj) (lv : Addr) (ov : Obj) (c1 c2 c3 : Addr) (oc1 oc2 oc3 : Obj) (bits : List Int) (m' : Str → Option Value) (news' : List (Addr × Obj)) : Prop :=
  ∃ (lb : Addr) (o5 ob : Obj) (vb : List Value) (kb : Nat), m' (Str.ofString "drawn") = some (.ref ld) ∧ ob = W.listOf (List.toArray vb) kb ∧ IntsAre vb bits ∧ o5.data = .cell (some (.ref lb)) ∧ Sep lb [L + 1 + 1 + 1 + 1 + 1, L + 1 + 1 + 1 + 1, L + 1 + 1 + 1, L + 1 + 1, L + 1, 181, 162, 44, 37, ld, c2, c3, c1, lv] ∧ news' = [(L + 1 + 1 + 1 + 1 + 1, o5), (L + 1 + 1 + 1 + 1, o4), (L + 1 + 1 + 1, o3), (L + 1 + 1, o2), (L + 1, o1), (181, tabObj #[]), (162, tabObj #[rawInt 243, rawInt 18, .ref c3]), (c3, oc3), (44, tabObj #[rawInt 50, rawInt 4, .ref c2]), (c2, oc2), (37, tabObj #[rawInt 35, rawInt 4, .ref c1]), (c1, oc1), (ld, od'), (lv, ov), (lb, ob)]
section
local macro_rules | `(tactic| walk_at "call ref") => `(tactic| refine Halt.mk ?_)
local macro_rules | `(tactic| k_ne) => `(tactic| (refine neN ?_; (try dsimp only); first | omega | (refine Sep.ne (by assumption) ?_; (repeat (first | exact List.Mem.head _ | refine List.Mem.tail _ ?_)); done) | (refine Sep.ne' (by assumption) ?_; (repeat (first | exact List.Mem.head _ | refine List.Mem.tail _ ?_)); done)))
set_option maxHeartbeats 8000000 in
theorem lawH {w : World} {p : Program} {loose : List Str} {mean : ExcName → Option Value} {mg mb : Str → Option Value} {base h₀ : Heap} {L : Addr} {m : Str → Option Value} {s : Shared}
  {name qual : Str} {params : Arguments} {body : List Stmt} {scope : Scope} {dV kV doc pm cdv ct oc : Value} {an od : Option Addr} {osl : Array (Option Value)} (hb : (hd.heap_39 w.params).lookup 191 = some ⟨oc, od, .func (fnOf name qual params body scope dV kV doc pm an cdv ct), osl⟩) {fa : Addr} {cdw : Value}
  (B : Below callerA base [] h₀) (F : Fr h₀ L s.heap m) (X : (hd.heap_39 w.params).In h₀) (T : Top p loose mean mg mb h₀) (hlt : @LT.lt Nat _ 181 L)
  (C1 : CodeHd base 41 37) (C2 : CodeHd base 48 44) (C3 : CodeHd base 166 162) (C4 : CodeHd base 185 181)
  {o1 o2 o3 o4 o5 ov oc1 : Obj} {ds : List Int} {V : Int} {ld lv : Addr} {vd : List Value} {kd : Nat} {od' : Obj} {c1 c2 c3 : Addr} {oc2 oc3 : Obj} {t2 : Tok} {vs1 : Array Value} {tq1 : Tok} {kk : Nat} (d2 : o2.data = .cell (some (.int V t2))) (d5 : o5.data = .cell none) (hod : od' = W.listOf (List.toArray vd) kd)
  (hoc1 : oc1.data = .fields vs1) (hv1 : vs1[1]? = some (.str (Str.ofString "_int2digits.<locals>.inner") tq1))
  (N : News h₀ L s.heap [(L + 1 + 1 + 1 + 1 + 1, o5), (L + 1 + 1 + 1 + 1, o4), (L + 1 + 1 + 1, o3), (L + 1 + 1, o2), (L + 1, o1), (181, tabObj #[]), (162, tabObj #[rawInt 243, rawInt 18, .ref c3]), (c3, oc3), (44, tabObj #[rawInt 50, rawInt 4, .ref c2]), (c2, oc2), (37, tabObj #[rawInt 35, rawInt 4, .ref c1]), (c1, oc1), (ld, od'), (lv, ov)])
  (hs0 : Sep ld [L + 1 + 1 + 1 + 1 + 1, L + 1 + 1 + 1 + 1, L + 1 + 1 + 1, L + 1 + 1, L + 1, 181, 162, 44, 37])
  (hs2 : Sep c2 [L + 1 + 1 + 1 + 1 + 1, L + 1 + 1 + 1 + 1, L + 1 + 1 + 1, L + 1 + 1, L + 1, 181, 162, 44, 37, ld]) (hs3 : Sep c3 [L + 1 + 1 + 1 + 1 + 1, L + 1 + 1 + 1 + 1, L + 1 + 1 + 1, L + 1 + 1, L + 1, 181, 162, 44, 37, ld, c2]) (hs1 : Sep c1 [L + 1 + 1 + 1 + 1 + 1, L + 1 + 1 + 1 + 1, L + 1 + 1 + 1, L + 1 + 1, L + 1, 181, 162, 44, 37, ld, c2, c3]) (hsv : Sep lv [L + 1 + 1 + 1 + 1 + 1, L + 1 + 1 + 1 + 1, L + 1 + 1 + 1, L + 1 + 1, L + 1, 181, 162, 44, 37, ld, c2, c3, c1])
  (hid : IntsAre vd ds) (hkk : kk ≤ 5) (hdl : ds.length = 3 * kk) (hV0 : 0 ≤ V) (hV : V < 64 ^ (4 * kk)) (hVb : Builtin.Int.intBits V ≤ 200)
  (hm : m (Str.ofString "drawn") = some (.ref ld)) :
  wpAny (model PySem.Challenge.rw_qh0022_01.row.prog w) (callerA.deeper (envOfC qual scope L fa cdw)) (execs ((body.drop 10).take 1) (envOfC qual scope L fa cdw)) (StageE h₀ L (StH L o1 o2 o3 o4 ld (W.listOf (List.toArray vd) kd) lv ov c1 c2 c3 oc1 oc2 oc3 (bdig 2 (24 * kk) V)) s) (fun _ _ => False) s := by
  refine' lookup_det (P := fun qual scope body => wpAny (model PySem.Challenge.rw_qh0022_01.row.prog w) (callerA.deeper (envOfC qual scope L fa cdw)) (execs ((body.drop 10).take 1) (envOfC qual scope L fa cdw)) _ _ s) hb ?k6 ?_
  case k6 => k_is
  clear hb
  dsimp only [List.drop, List.take]
  obtain ⟨hp0, gn0, dr0, tk0, os0⟩ := s
  dsimp only at F N
  replace F := Fr.know1 F hm
  clear hm
  subst hod
  k_steps
  refine Halt.out ?_
  rename Fr _ _ _ _ => Fx
  rename News _ _ _ _ => Nx
  have Ny : News h₀ L _ ([(37, tabObj #[rawInt 35, rawInt 4, .ref c1]), (c1, oc1)] ++ [(L + 1 + 1 + 1 + 1 + 1, o5), (L + 1 + 1 + 1 + 1, o4), (L + 1 + 1 + 1, o3), (L + 1 + 1, o2), (L + 1, o1), (181, tabObj #[]), (162, tabObj #[rawInt 243, rawInt 18, .ref c3]), (c3, oc3), (44, tabObj #[rawInt 50, rawInt 4, .ref c2]), (c2, oc2), (ld, W.listOf (List.toArray vd) kd), (lv, ov)]) := News.sub Nx (by k_allIn)
  refine int2digits_H B Fx X T rfl hoc1 hv1 Ny (off_two (by k_all) (by k_all)) C1 hV0 (by decide) hVb (by decide +kernel) ?_
  intro la va ka h1 tk1 F1 N1 hf1 hia
  clear hf1
  simp only [List.cons_append, List.nil_append] at N1
  clear Fx Nx Ny
  k_steps
  refine Halt.out ?_
  rename Fr _ _ _ _ => Fx
  rename News _ _ _ _ => Nx
  obtain ⟨hnd, hpad⟩ := pad2 hV0 hV
  have Ny : News h₀ L _ [(L + 1 + 1 + 1 + 1 + 1, o5), (L + 1 + 1 + 1 + 1, o4), (L + 1 + 1 + 1, o3), (L + 1 + 1, o2), (L + 1, o1), (181, tabObj #[]), (162, tabObj #[rawInt 243, rawInt 18, .ref c3]), (c3, oc3), (44, tabObj #[rawInt 50, rawInt 4, .ref c2]), (c2, oc2), (37, tabObj #[rawInt 35, rawInt 4, .ref c1]), (c1, oc1), (ld, W.listOf (List.toArray vd) kd), (lv, ov)] := News.sub Nx (by k_allIn)
  refine law_padded_spec B Fx X T rfl Ny (News.isList Nx (by k_mem)) hia (by rw [List.length_reverse, bdig_length]; omega) (by omega) (by rw [List.length_reverse, bdig_length]; omega) (by decide +kernel) ?_
  intro lb vb kb h2 tk2 F2 N2 hlb hib
  have ez : (8 * (ds.length : Int)).toNat = 24 * kk := by omega
  rw [ez, hpad] at hib
  have hnb := News.allNe Ny hlb
  replace hnb := AllNe.sep hnb
  simp only [List.map] at hnb
  clear Fx Nx Ny hlb hia hpad ez
  k_steps
  rename Fr _ _ _ _ => Fx
  rename News _ _ _ _ => Nx
  exact StageE.go Fx Nx ⟨lb, _, _, vb, kb, rfl, rfl, hib, by assumption, Sep.of hnb (by k_allIn), rfl⟩ (by k_allIn)
end
end Mine
/-! LwI22 -/
namespace Mine
open PySem PySem.W PySem.Spec PySem.Calls PyProof.Rows
theorem bdig_range {B : Int} (hB : 0 < B) : ∀ (n : Nat) (V : Int), bdig B n V = (List.range n).map fun p => V / B ^ (n - 1 - p) % B
  | 0, _ => rfl
  | n + 1, V => by
    rw [bdig, bdig_range hB n, List.range_succ, List.map_append, List.map_cons, List.map_nil]
    congr 1
    · apply List.map_congr_left
      intro p hp
      have hp' := List.mem_range.mp hp
      rw [ediv_ediv_pos hB, show n + 1 - 1 - p = (n - 1 - p) + 1 by omega, Int.pow_succ, Int.mul_comm B]
    · rw [show n + 1 - 1 - n = 0 by omega, Int.pow_zero, Int.ediv_one]
theorem bits_eq {ds : List Int} {n : Nat} (hl : ds.length = n) (hr : ∀ x ∈ ds, 0 ≤ x ∧ x < 256) : ((List.range n).map fun p => val 2 (((bdig 2 (8 * n) (val 256 ds)).drop (8 * p)).take 8)) = ds := by
  have e := bdig_val (B := 256) (by decide) n ds hl hr
  refine Eq.trans ?_ e
  rw [bdig_range (B := 256) (by decide) n]
  apply List.map_congr_left
  intro p hp
  have hp' := List.mem_range.mp hp
  have h2 : (0 : Int) < 2 := by decide
  rw [bdig_drop h2 (by omega), bdig_take h2 (by omega), val_bdig h2]
  have e2 : (2 : Int) ^ (8 * n - 8 * p - 8) = 256 ^ (n - 1 - p) := by
    rw [show 8 * n - 8 * p - 8 = 8 * (n - 1 - p) by omega, Int.pow_mul]; rfl
  rw [e2]; rfl
section
local macro_rules | `(tactic| walk_at "call ref") => `(tactic| refine Halt.mk ?_)
local macro_rules | `(tactic| k_ne) => `(tactic| (refine neN ?_; (try dsimp only); first | omega | (refine Sep.ne (by assumption) ?_; (repeat (first | exact List.Mem.head _ | refine List.Mem.tail _ ?_)); done) | (refine Sep.ne' (by assumption) ?_; (repeat (first | exact List.Mem.head _ | refine List.Mem.tail _ ?_)); done)))
local macro_rules | `(tactic| walk_at "CompSrc") => `(tactic| refine Halt.mk ?_)
local macro_rules | `(tactic| walk_at "eval ListComp") => `(tactic| (k_here; k_dflt (refine LCg.ListComp_U (F₀ := by k_asm) (by with_unfolding_all rfl) (by decide) (by rfl) (by decide) (by rfl) ?_)))
local macro_rules | `(tactic| walk_at "compareOp NotEq ref ref") => `(tactic| refine Halt.mk ?_)
set_option maxHeartbeats 8000000 in
theorem lawI {w : World} {p : Program} {loose : List Str} {mean : ExcName → Option Value} {mg mb : Str → Option Value} {base h₀ : Heap} {L : Addr} {m : Str → Option Value} {s : Shared}
  {name qual : Str} {params : Arguments} {body : List Stmt} {scope : Scope} {dV kV doc pm cdv ct oc : Value} {an od : Option Addr} {osl : Array (Option Value)} (hb : (hd.heap_39 w.params).lookup 191 = some ⟨oc, od, .func (fnOf name qual params body scope dV kV doc pm an cdv ct), osl⟩) {fa : Addr} {cdw : Value}
  (B : Below callerA base [] h₀) (F : Fr h₀ L s.heap m) (X : (hd.heap_39 w.params).In h₀) (T : Top p loose mean mg mb h₀) (hlt : @LT.lt Nat _ 181 L)
  (C1 : CodeHd base 41 37) (C2 : CodeHd base 48 44) (C3 : CodeHd base 166 162) (C4 : CodeHd base 185 181)
  {o1 o2 o3 o4 o5 ov ob oc1 : Obj} {ds bits : List Int} {ld lv lb : Addr} {vd vb : List Value} {kd kb : Nat} {od' : Obj} {c1 c2 c3 : Addr} {oc2 oc3 : Obj} {n : Nat} (d5 : o5.data = .cell (some (.ref lb))) (hod : od' = W.listOf (List.toArray vd) kd) (hob : ob = W.listOf (List.toArray vb) kb)
  (N : News h₀ L s.heap [(L + 1 + 1 + 1 + 1 + 1, o5), (L + 1 + 1 + 1 + 1, o4), (L + 1 + 1 + 1, o3), (L + 1 + 1, o2), (L + 1, o1), (181, tabObj #[]), (162, tabObj #[rawInt 243, rawInt 18, .ref c3]), (c3, oc3), (44, tabObj #[rawInt 50, rawInt 4, .ref c2]), (c2, oc2), (37, tabObj #[rawInt 35, rawInt 4, .ref c1]), (c1, oc1), (ld, od'), (lv, ov), (lb, ob)])
  (hid : IntsAre vd ds) (hib : IntsAre vb bits) (hn : n ≤ 15) (hdl : ds.length = n) (hbl : bits.length = 8 * n) (hbr : ∀ x ∈ bits, 0 ≤ x ∧ x < 2) (hbits : ((List.range n).map fun p => val 2 ((bits.drop (8 * p)).take 8)) = ds)
  (hm : m (Str.ofString "drawn") = some (.ref ld)) :
  wpAny (model PySem.Challenge.rw_qh0022_01.row.prog w) (callerA.deeper (envOfC qual scope L fa cdw)) (execs ((body.drop 11).take 1) (envOfC qual scope L fa cdw)) (StageE h₀ L (fun m' news' => m' (Str.ofString "drawn") = some (.ref ld) ∧ news' = [(L + 1 + 1 + 1 + 1 + 1, o5), (L + 1 + 1 + 1 + 1, o4), (L + 1 + 1 + 1, o3), (L + 1 + 1, o2), (L + 1, o1), (181, tabObj #[]), (162, tabObj #[rawInt 243, rawInt 18, .ref c3]), (c3, oc3), (44, tabObj #[rawInt 50, rawInt 4, .ref c2]), (c2, oc2), (37, tabObj #[rawInt 35, rawInt 4, .ref c1]), (c1, oc1), (ld, od'), (lv, ov), (lb, ob)]) s) (fun _ _ => False) s := by
  refine' lookup_det (P := fun qual scope body => wpAny (model PySem.Challenge.rw_qh0022_01.row.prog w) (callerA.deeper (envOfC qual scope L fa cdw)) (execs ((body.drop 11).take 1) (envOfC qual scope L fa cdw)) _ _ s) hb ?k6 ?_
  case k6 => k_is
  clear hb
  dsimp only [List.drop, List.take]
  obtain ⟨hp0, gn0, dr0, tk0, os0⟩ := s
  dsimp only at F N
  replace F := Fr.know1 F hm
  clear hm
  subst hod hob
  k_steps
  refine Halt.out ?_
  rename Fr _ _ _ _ => Fx
  rename News _ _ _ _ => Nx
  refine LCg.CompSrc.range (n := n) rfl Fx Nx (by assumption) (small_one (by omega) (by omega) (by omega) (by omega)) (by rw [rangeSize_nat]; omega) (by rw [sizeLine_eq]; omega) ?_
  intro g'
  refine compRest_inv (fun i ys news => news = [(L + 1 + 1 + 1 + 1 + 1, o5), (L + 1 + 1 + 1 + 1, o4), (L + 1 + 1 + 1, o3), (L + 1 + 1, o2), (L + 1, o1), (181, tabObj #[]), (162, tabObj #[rawInt 243, rawInt 18, .ref c3]), (c3, oc3), (44, tabObj #[rawInt 50, rawInt 4, .ref c2]), (c2, oc2), (37, tabObj #[rawInt 35, rawInt 4, .ref c1]), (c1, oc1), (ld, W.listOf (List.toArray vd) kd), (lv, ov), (lb, W.listOf (List.toArray vb) kb)] ∧ IntsAre ys ((List.range i).map fun p => val 2 ((bits.drop (8 * p)).take 8))) ⟨rfl, .nil⟩ ?turn ?fin
  case turn =>
    clear Fx Nx
    rintro i ys _ hi ⟨rfl, hiy⟩ v I oI C oC D m₂ h tk E' ⟨t, rfl⟩ hC hx F1 N1 off ne
    rw [Int.zero_add] at hx
    have hs1 : (0 : Int) ≤ 8 * (i : Int) := by omega
    have hs2 : (0 : Int) ≤ 8 * (i : Int) + 8 := by omega
    k_steps
    refine Halt.out ?_
    rename Fr _ _ _ _ => Fx
    rename News _ _ _ _ => Nx
    rename IntsAre _ (List.take _ _) => hia
    have e8 : min (8 * (i : Int) + 8).toNat bits.length - (8 * (i : Int)).toNat = 8 := by omega
    have e9 : (8 * (i : Int)).toNat = 8 * i := by omega
    rw [e8, e9] at hia
    refine law_sum_spec B Fx X T rfl Nx (News.isList Nx (by k_mem)) hia (by rw [List.length_take]; omega) (fun x hx => by
      have := hbr x (List.mem_of_mem_drop (List.mem_of_mem_take hx))
      omega) (by decide) (by decide +kernel) ?_
    intro tw h3 tk3 F3 N3
    exact LCg.CompEnd.intro F3 N3 [(L + 1 + 1 + 1 + 1 + 1, o5), (L + 1 + 1 + 1 + 1, o4), (L + 1 + 1 + 1, o3), (L + 1 + 1, o2), (L + 1, o1), (181, tabObj #[]), (162, tabObj #[rawInt 243, rawInt 18, .ref c3]), (c3, oc3), (44, tabObj #[rawInt 50, rawInt 4, .ref c2]), (c2, oc2), (37, tabObj #[rawInt 35, rawInt 4, .ref c1]), (c1, oc1), (ld, W.listOf (List.toArray vd) kd), (lv, ov), (lb, W.listOf (List.toArray vb) kb)] (by kcf_all) off True.intro ⟨rfl, by rw [List.range_succ, List.map_append]; exact hiy.append (.cons _ _ .nil)⟩
  case fin =>
    clear Fx Nx
    rintro ys1 _ ⟨rfl, hiy⟩ D1 h1 tk1 F1 N1 off1
    rw [hbits] at hiy
    k_steps
    refine Halt.out ?_
    rename Fr _ _ _ _ => Fx
    rename News _ _ _ _ => Nx
    refine ke_ne_ints (News.isList (a := D1) Nx (by k_mem)) (News.isList Nx (by k_mem)) hiy hid (by ke_room) ?_
    rw [decide_eq_true rfl]
    k_steps
    exact StageE.go Fx Nx ⟨rfl, rfl⟩ (by kcf_all)
end
end Mine
/-! Exc22 -/
namespace Mine
open PySem PySem.W PySem.Spec PySem.Calls PyProof.Rows

section
variable {prog : Program} {w : World} {A : Around} {E : Value → Shared → Prop} {s : Shared}
abbrev excObj (cls : String) (t : Addr) : Obj := { cls := .type cls, data := .fields #[.ref t, .none, .none, .none, .bool false, .none] }
theorem special_end {it l : Addr} {i : Nat} {items : Array Value} {Q : Option Value → Shared → Prop} (hit : s.heap.IsListIter it l i) (hl : s.heap.IsList l items) (hx : items[i]? = none) (hh : A.handled = none)
    (h : ∀ h' e t, (∀ b o, b ≠ it → s.heap.get? b = some o → h'.get? b = some o) → s.heap.get? e = none → h'.get? e = some (excObj "StopIteration" t) → E (.ref e) { s with heap := h' }) :
    wpAny (model prog w) A (callSpecial? (.ref it) (Str.ofString "__next__")) Q E s := by
  obtain ⟨o, ho, hc, hd⟩ := id hit
  obtain ⟨ol, hol, _, nl, hdl⟩ := hl
  refine wpAny_callSpecial?_slot (name := Str.ofString "__next__") hit.typeIs slot_listiter_next
    (wpAny_call_entry slot_listiter_next hit.typeIs entry_listiter_next ?_ (args_listiter_next _))
  show wpAny _ _ (field (.ref it) 0 >>= _) _ _ s
  refine wpAny_bind (wpAny_field ho hd (x := .ref l) rfl ?_)
  show wpAny _ _ (if (Value.ref l == Value.none) = true then _ else _) _ _ s
  rw [if_neg (show ¬ ((Value.ref l == Value.none) = true) from Bool.false_ne_true)]
  show wpAny _ _ (field (.ref it) 1 >>= _) _ _ s
  refine wpAny_bind (wpAny_field ho hd (x := .int i 0) rfl ?_)
  show wpAny _ _ (seqItems? (.ref l) >>= _) _ _ s
  refine wpAny_bind (wpAny_seqItems hol hdl ?_)
  simp only [Int.toNat_natCast, hx]
  refine wpAny_bind (wpAny_rule (wpAny_bind (wpAny_setField ho hd (by simp) ?_)))
  show wpAny _ _ (newExc (.type "StopIteration") [] >>= _) _ _ _
  refine wpAny_bind ?_
  simp only [newExc, newTuple]
  refine wpAny_bind (wpAny_newObj_type ?_ (by size_fits))
  refine wpAny_bind (m := firstArgMember _ _) (wpAny_of_eq (a := Value.none) (by first | rfl | (simp only [firstArgMember]; rfl)) ?_)
  refine wpAny_newObj_type ?_ (by size_fits)
  simp only [raiseNew]
  refine wpAny_bind (wpAny_handled ?_)
  rw [show A.in1.handled = none from hh]
  refine wpAny_bind (wpAny_pure (wpAny_throw ?_))
  refine h _ _ (s.heap.update it (Obj.mapFields (·.setIfInBounds 0 .none))).objs.size (fun b o hb e => ?_) ?_ (Heap.get?_push_size _ rfl)
  · exact Heap.get?_push_of_some _ (Heap.get?_push_of_some _ ((Heap.get?_update_other _ _ (Ne.symm hb)).trans e))
  · cases q : s.heap.get? _ with
    | none => rfl
    | some o' =>
      have := Heap.lt_size q
      rw [Heap.size_push, Heap.size_after_update] at this
      exact absurd (Nat.lt_trans this (Nat.lt_succ_self _)) (Nat.lt_irrefl _)
theorem next_end {it l : Addr} {items : Array Value} {Q : Value → Shared → Prop} (hit : s.heap.IsListIter it l 0) (hl : s.heap.IsList l items) (hx : items[0]? = none) (hh : A.handled = none)
    (h : ∀ h' e t, (∀ b o, b ≠ it → s.heap.get? b = some o → h'.get? b = some o) → s.heap.get? e = none → h'.get? e = some (excObj "StopIteration" t) → E (.ref e) { s with heap := h' }) :
    wpAny (model prog w) A (call (.builtin "next") [.ref it]) Q E s := by
  refine call_function_entry (by decide +kernel) (by decide +kernel) kdk_entry_next (kdk_args_next _) ?_
  unfold Builtin.«next»
  refine wpAny_bind (m := someArgs "next" 1 2 _) (wpAny_of_eq (a := [Value.ref it]) (by first | rfl | kernel_rfl!) ?_)
  dsimp only
  refine wpAny_bind (wpAny_specialOf (name := Str.ofString "__next__") hit.typeIs slot_listiter_next.lookup ?_)
  refine wpAny_ite_split (fun hab => absurd hab (by decide)) (fun _ => ?_)
  exact wpAny_bind (special_end hit hl hx hh h)
end
section
variable {M : Model} {A : Around} {E : Value → Shared → Prop} {s : Shared}
/-- an exception that has its traceback -/
structure ExcAt (h : Heap) (e : Addr) (cls : String) (T : Addr) : Prop where
  ex : ∃ oe vs, h.get? e = some oe ∧ oe.cls = .type cls ∧ oe.data = .fields vs ∧ vs[1]? = some (.ref T) ∧ vs[2]? = some .none
  tb : ∃ oT ts x, h.get? T = some oT ∧ oT.data = .fields ts ∧ ts[3]? = some x
  ne : T ≠ e
/-- kept: all but the frames S and the objects of X -/
structure Kept (S X : List Addr) (h h' : Heap) : Prop where
  other : ∀ b o, h.get? b = some o → b ∉ S → b ∉ X → h'.get? b = some o
  frame : ∀ b o, h.get? b = some o → b ∈ S → b ∉ X → ∃ sl, h'.get? b = some { o with slots := sl }
theorem Kept.of_keeps {S X : List Addr} {h h' : Heap} (k : ∀ b o, b ∉ X → h.get? b = some o → h'.get? b = some o) : Kept S X h h' := ⟨fun b o e _ n => k b o n e, fun b o e _ n => ⟨o.slots, k b o n e⟩⟩
theorem Kept.trans {S X : List Addr} {h h' h₂ : Heap} (x : Kept S X h h') (y : Kept S X h' h₂) : Kept S X h h₂ :=
  ⟨fun b o e a n => y.other b o (x.other b o e a n) a n, fun b o e a n => by
    obtain ⟨sl, e'⟩ := x.frame b o e a n
    obtain ⟨sl', e''⟩ := y.frame b _ e' a n
    exact ⟨sl', e''⟩⟩
theorem Kept.mono {S X Y : List Addr} {h h' : Heap} (x : Kept S X h h') (hs : ∀ b, b ∈ X → b ∈ Y) : Kept S Y h h' :=
  ⟨fun b o e a n => x.other b o e a fun q => n (hs b q), fun b o e a n => x.frame b o e a fun q => n (hs b q)⟩
theorem Kept.frames {S X : List Addr} {h h' base : Heap} (x : Kept S X h h') : ∀ {l : List Env}, h.FunFrames base l → (∀ env ∈ l, ∀ b, env.frame = some b → b ∉ X) → h'.FunFrames base l
  | [], _, _ => True.intro
  | env :: r, hl, hX => by
    obtain ⟨hk, ⟨L, o, hf, hn, ho, hd⟩, hr⟩ := hl
    have nX := hX env (List.mem_cons_self ..) L hf
    have : ∃ sl, h'.get? L = some { o with slots := sl } := by
      by_cases m : L ∈ S
      · exact x.frame L o ho m nX
      · exact ⟨o.slots, x.other L o ho m nX⟩
    obtain ⟨sl, e⟩ := this
    exact ⟨hk, ⟨L, _, hf, hn, e, hd⟩, Kept.frames x hr fun env' he b hb => hX env' (List.mem_cons_of_mem _ he) b hb⟩
theorem note_first {base : Heap} {env : Env} {outer : List Env} {L e : Addr} {cls : String} {t : Addr} {Q : Unit → Shared → Prop}
    (hfr : A.frames = some (env :: outer)) (hl : s.heap.FunFrames base (env :: outer)) (hf : env.frame = some L) (he : s.heap.get? e = some (excObj cls t))
    (h : ∀ h' T, Kept ((env :: outer).filterMap (·.frame)) [e] s.heap h' → ExcAt h' e cls T → s.heap.get? T = none → Q () { s with heap := h' }) :
    wpAny M A (noteFrame (.ref e) env) Q E s := by
  have hene : e ∉ (env :: outer).filterMap (·.frame) := fun hm => by
    obtain ⟨_, o, ho, hnf⟩ := hl.mem hm
    rw [he] at ho; injection ho with ho; subst ho; exact hnf _ rfl
  unfold noteFrame
  simp only [hf]
  refine wpAny_bind (wpAny_field he rfl (x := Value.none) rfl ?_)
  rw [if_neg (show ¬ ((Value.none != Value.none) = true) by decide)]
  refine wpAny_bind (wpAny_frameOf_fun hfr hl hf fun h₁ hs₁ => ?_)
  refine wpAny_bind (wpAny_entryPlaceOf fun pl hpl => ?_)
  unfold EntryCells.newEntry newFields
  refine wpAny_bind (wpAny_newObj_type ?_ (hpl.sizeOk5 _ _ _ _ _))
  have he₁ : h₁.get? e = some (excObj cls t) := (hs₁.2.1 e hene).trans he
  have hTe : h₁.objs.size ≠ e := Nat.ne_of_gt (Heap.lt_size he₁)
  have keep : ∀ b o, b ≠ e → h₁.get? b = some o → ((h₁.push { cls := .type "traceback", dict := none, data := .fields ([Value.none, .ref L, .none, rawInt L, .none] ++ (if pl.isEmpty then List.replicate 6 Value.none else pl)).toArray }).update e (Obj.mapFields (·.setIfInBounds 1 (Value.ref h₁.objs.size)))).get? b = some o := fun b o hb q => by
    rw [Heap.get?_update_other _ _ (Ne.symm hb)]
    exact Heap.get?_push_of_some _ q
  have he₂ := Heap.get?_push_of_some (h := h₁) { cls := .type "traceback", dict := none, data := .fields ([Value.none, .ref L, .none, rawInt L, .none] ++ (if pl.isEmpty then List.replicate 6 Value.none else pl)).toArray } he₁
  refine wpAny_setField he₂ rfl (show 1 < 6 by decide) (h _ h₁.objs.size ⟨fun b o q a n => ?_, fun b o q a n => ?_⟩ ⟨?_, ?_, hTe⟩ ?_)
  · exact keep b o (fun z => n (z ▸ List.mem_singleton_self _)) ((hs₁.2.1 b a).trans q)
  · obtain ⟨sl, hsl⟩ := hs₁.2.2 b o q
    exact ⟨sl, keep b _ (fun z => n (z ▸ List.mem_singleton_self _)) hsl⟩
  · exact ⟨_, _, Heap.get?_update_self _ he₂ rfl, rfl, rfl, rfl, rfl⟩
  · refine ⟨_, _, rawInt L, (Heap.get?_update_other _ _ (Ne.symm hTe)).trans (Heap.get?_push_size h₁ rfl), rfl, ?_⟩
    simp
  · cases q : s.heap.get? h₁.objs.size with
    | none => rfl
    | some o =>
      have := Heap.lt_size q
      rw [← hs₁.1] at this
      exact absurd this (Nat.lt_irrefl _)
theorem flight_none {e T : Addr} {cls : String} {Q : Unit → Shared → Prop} (X : ExcAt s.heap e cls T) (h : ∀ h', (∀ b o, b ∉ [T] → s.heap.get? b = some o → h'.get? b = some o) → ExcAt h' e cls T → Q () { s with heap := h' }) : wpAny M A (setFlight (.ref e) none) Q E s := by
  obtain ⟨⟨oe, vs, he, hc, hd, h1, h2⟩, ⟨oT, ts, x, hT, hdT, h3⟩, hne⟩ := X
  refine wpAny_setFlight_none he hd h1 hT hdT (Array.getElem?_eq_some_iff.mp h3).1 (h _ (fun b o hb q => ?_) ⟨⟨oe, vs, ?_, hc, hd, h1, h2⟩, ⟨_, _, .none, Heap.get?_update_self _ hT (Obj.isFreed_of_fields (Obj.data_mapFields hdT _)), Obj.data_mapFields hdT _, ?_⟩, hne⟩)
  · exact (Heap.get?_update_other _ _ (fun z => hb (List.mem_singleton.mpr (Eq.symm z)))).trans q
  · exact (Heap.get?_update_other _ _ hne).trans he
  · simp [(Array.getElem?_eq_some_iff.mp h3).1]
end
end Mine
/-! Exr22 -/
namespace Mine
open PySem PySem.W PySem.Spec PySem.Calls PyProof.Rows
section
variable {M : Model} {A : Around} {E : Value → Shared → Prop}
theorem exc_from {hp : Heap} {g : Array GenState} {d : Drawn} {tk : Nat} {os : OsState} {e t : Addr} {msg : String} {Q : Value → Shared → Prop} (he : hp.get? e = some (excObj "TypeError" t)) (h : Q (.ref e) ⟨hp, g, d, tk, os⟩) : wpAny M A (excFromValue (.ref e) msg) Q E ⟨hp, g, d, tk, os⟩ := by
  have hsub := PySem.F.excRaise_TypeError.isExc
  unfold excFromValue isExcClass
  repeat (first | refine wpAny_loadPart he ?_ | wp_step)
  exact h
theorem raised_inst {hp : Heap} {g : Array GenState} {d : Drawn} {tk : Nat} {os : OsState} {e : Addr} {oe : Obj} {Q : Value → Shared → Prop} (he : hp.get? e = some oe) (hc : oe.cls = .type "TypeError") (h : Q (.ref e) ⟨hp, g, d, tk, os⟩) : wpAny M A (raisedInstance (.ref e)) Q E ⟨hp, g, d, tk, os⟩ := by
  obtain ⟨c, dd, dt, sl⟩ := oe
  dsimp only at hc
  subst hc
  have hmeta := PySem.F.excRaise_TypeError.plainMeta
  unfold raisedInstance
  repeat (first | refine wpAny_loadPart he ?_ | wp_step)
  exact h
end
theorem is_type_ref {M : Model} {A : Around} {E : Value → Shared → Prop} {hp : Heap} {g : Array GenState} {d : Drawn} {tk : Nat} {os : OsState} {e : Addr} {oe : Obj} {vs : Array Value} {Q : Bool → Shared → Prop} (he : hp.get? e = some oe) (hd : oe.data = .fields vs) (h : Q false ⟨hp, g, d, tk, os⟩) : wpAny M A (isType (.ref e)) Q E ⟨hp, g, d, tk, os⟩ := by
  obtain ⟨c, dd, dt, sl⟩ := oe
  dsimp only at hd
  subst hd
  unfold isType
  repeat (first | refine wpAny_loadPart he ?_ | wp_step)
  exact h
theorem entry_unchain : entryFor table "proto.unchain" = some Builtin.«proto.unchain» := entryFor_of_fast (by kernel_rfl)
section
variable {prog : Program} {w : World} {A : Around} {E : Value → Shared → Prop} {s : Shared} {env : Env}
theorem unchain_end {e1 : Addr} {v : Value} {oe : Obj} {vs : Array Value} {Q : Value → Shared → Prop} (he : s.heap.get? e1 = some oe) (hd : oe.data = .fields vs) (h2 : vs[2]? = some .none) (h : Q .none s) :
    wpAny (model prog w) A (runValue (.builtin "proto.unchain" ⟨[v, .ref e1, .ref e1, .bool false], []⟩)) Q E s := by
  refine wpAny_runValue (codeAny_builtin entry_unchain ?_)
  unfold Builtin.«proto.unchain»
  dsimp only
  refine wpAny_bind (wpAny_field he hd h2 ?_)
  rw [if_pos (by rfl)]
  exact wpAny_pure h
theorem ExcAt.keeps {h h' : Heap} {e T : Addr} {cls : String} (X : ExcAt h e cls T) (k : ∀ b o, h.get? b = some o → h'.get? b = some o) : ExcAt h' e cls T := by
  obtain ⟨⟨oe, vs, he, r⟩, ⟨oT, ts, x, hT, r'⟩, hne⟩ := X
  exact ⟨⟨oe, vs, k _ _ he, r⟩, ⟨oT, ts, x, k _ _ hT, r'⟩, hne⟩
/-- how a raised exception without a traceback lies -/
def NewX (h : Heap) (e : Addr) (cls : String) : Prop := ∃ oe vs t, h.get? e = some oe ∧ oe.cls = .type cls ∧ oe.data = .fields vs ∧ vs[0]? = some t ∧ vs[1]? = some .none
theorem raise_new_in {e1 e2 T : Addr} {cls1 : String} {oe : Obj} {vs : Array Value} {Q : Flow → Shared → Prop} (hh : A.handled = some (.ref e1)) (X : ExcAt s.heap e1 cls1 T) (he : s.heap.get? e2 = some oe) (hd : oe.data = .fields vs) (hsz : 2 < vs.size) (hne : e1 ≠ e2)
    (h : E (.ref e2) { s with heap := s.heap.update e2 (Obj.mapFields (·.setIfInBounds 2 (.ref e1))) }) : wpAny (model prog w) A (raiseNew (.ref e2) : Sem Flow) Q E s := by
  obtain ⟨⟨o1, vs1, h1, hc1, hd1, h11, h12⟩, -, -⟩ := X
  unfold raiseNew
  refine wpAny_bind (wpAny_handled ?_)
  rw [hh]
  dsimp only
  rw [if_pos (show ((Value.ref e1 != Value.ref e2) = true) by simp; exact hne)]
  refine wpAny_bind (wpAny_holding (unchain_end h1 hd1 h12 ?_))
  unfold updateField
  refine wpAny_bind (wpAny_bind (wpAny_load he ?_))
  rw [hd]
  dsimp only
  rw [if_pos hsz]
  exact wpAny_update he (wpAny_throw h)
end
section
variable {prog : Program} {w : World} {A : Around} {E : Value → Shared → Prop} {s : Shared} {env : Env}
theorem raise_none {x : Str} {np cpos pos kpos : Pos} {kk : Nat} {args : List Expr} {Q : Flow → Shared → Prop} {e1 T : Addr} {cls1 : String}
    (hh : A.handled = some (.ref e1)) (hplain : (backTo cpos (starEach args env)).any (·.1) = false)
    (h : wpAny (model prog w) A (eval (.Name x np) env) (fun f s₁ => f = .type "TypeError" ∧ wpAny (model prog w) A (evalArgs (.type "TypeError") true (backTo cpos (starEach args env)) [])
      (fun a s₂ => a.kw = [] ∧ a.pos.length ≤ sizeLine ∧ ExcAt s₂.heap e1 cls1 T ∧ ∀ h' e, (∀ b o, s₂.heap.get? b = some o → h'.get? b = some o) → s₂.heap.get? e = none → NewX h' e "TypeError" → E (.ref e) { s₂ with heap := h' }) E s₁) E s) :
    wpAny (model prog w) A (exec (.Raise (some (.Call (.Name x np) args [] cpos)) (some (.Constant .none kk kpos)) pos) env) Q E s := by
  rw [arm_exec_Raise]
  simp only [evalOpt, Option.map]
  refine wpAny_bind (wpAny_standAt ?_)
  unfold raiseStmt
  dsimp only
  refine wpAny_bind (wpAny_bind (wpAny_mono (wpAny_Call_ofName (wpAny_mono h (fun f s₁ h₁ => ?_) fun _ _ x => x)) (fun v s₁ hv => wpAny_bind (wpAny_standAt (wpAny_pure hv))) fun _ _ x => x))
  obtain ⟨rfl, h₁⟩ := h₁
  refine callWith_excType hplain (wpAny_mono h₁ (fun a s₂ h₂ => ?_) fun _ _ x => x)
  obtain ⟨apos, akw⟩ := a
  obtain ⟨hkw, hlen, hX, h₂⟩ := h₂
  obtain rfl : akw = [] := hkw
  obtain ⟨hp, g, d, tk, os⟩ := s₂
  refine wpAny_call_exc PySem.F.excCall_TypeError (hrest := hlen) fun h' e hm => ?_
  obtain ⟨t, he, hnt, _⟩ := hm.there
  have hX' := hX.keeps hm.keeps
  clear h h₁
  refine wpAny_bind (wpAny_holding (wpAny_bind (wpAny_Constant_none (wpAny_bind (wpAny_standAt (wpAny_pure ?_))))))
  refine wpAny_bind (wpAny_pure ?_)
  refine wpAny_bind (wpAny_holding (exc_from he ?_))
  dsimp only
  rw [if_pos (show ((Value.none == Value.none) = true) by rfl)]
  refine wpAny_bind (wpAny_pure ?_)
  refine wpAny_bind (wpAny_setField he rfl (show 3 < 6 by decide) ?_)
  have he₂ := Heap.get?_update_self (Obj.mapFields (·.setIfInBounds 3 Value.none)) he rfl
  refine wpAny_bind (wpAny_setField he₂ rfl (show 4 < 6 by decide) ?_)
  have he₃ := Heap.get?_update_self (Obj.mapFields (·.setIfInBounds 4 (Value.bool true))) he₂ rfl
  generalize hH : ((h'.update e (Obj.mapFields (·.setIfInBounds 3 Value.none))).update e (Obj.mapFields (·.setIfInBounds 4 (Value.bool true)))) = H at he₃ ⊢
  refine wpAny_bind (is_type_ref he₃ rfl ?_)
  rw [if_neg (by decide)]
  refine wpAny_bind (raised_inst he₃ rfl ?_)
  have other : ∀ b, b ≠ e → H.get? b = h'.get? b := fun b hb => by
    rw [← hH, Heap.get?_update_other _ _ (Ne.symm hb), Heap.get?_update_other _ _ (Ne.symm hb)]
  have hnew : ∀ b o, hp.get? b = some o → b ≠ e := fun b o q z => by rw [z, hm.new] at q; cases q
  have h1e : e1 ≠ e := by
    obtain ⟨⟨oe, vs, q, _⟩, _, _⟩ := hX
    exact hnew _ _ q
  have hX₃ : ExcAt H e1 cls1 T := by
    obtain ⟨⟨oe, vs, q, r⟩, ⟨oT, ts, x, qT, r'⟩, hne⟩ := hX
    exact ⟨⟨oe, vs, (other _ h1e).trans (hm.keeps _ _ q), r⟩, ⟨oT, ts, x, (other _ (hnew _ _ qT)).trans (hm.keeps _ _ qT), r'⟩, hne⟩
  unfold setFlight
  refine wpAny_bind (wpAny_bind (wpAny_field he₃ rfl (x := Value.none) rfl ?_))
  rw [if_neg (show ¬ ((Value.none != Value.none) = true) by decide)]
  refine wpAny_pure ?_
  refine raise_new_in hh hX₃ he₃ rfl (show 2 < 6 by decide) h1e ?_
  refine h₂ _ e (fun b o q => ?_) hm.new ⟨_, _, .ref t, Heap.get?_update_self _ he₃ rfl, rfl, rfl, rfl, rfl⟩
  exact (Heap.get?_update_other _ _ (Ne.symm (hnew b o q))).trans ((other _ (hnew b o q)).trans (hm.keeps _ _ q))
end
end Mine
/-! Cat22 -/
namespace Mine
open PySem PySem.W PySem.Spec PySem.Calls PyProof.Rows
theorem notTuple_stop : isSubtype (.type ((Manifest.find? "StopIteration").elim "type" fun x => x.metatype)) (.type "tuple") = pure false := by rw [isSubtype_type]; kernel_rfl
theorem Kept.step {S X : List Addr} {G h h' : Heap} (x : Kept S [] G h) (y : Kept S X h h') (n : ∀ b ∈ X, G.get? b = none) : Kept S [] G h' := by
  have nx : ∀ b o, G.get? b = some o → b ∉ X := fun b o q m => by rw [n b m] at q; cases q
  refine ⟨fun b o q a _ => y.other b o (x.other b o q a (by simp)) a (nx b o q), fun b o q a _ => ?_⟩
  obtain ⟨sl, e⟩ := x.frame b o q a (by simp)
  obtain ⟨sl', e'⟩ := y.frame b _ e a (nx b o q)
  exact ⟨sl', e'⟩
theorem Kept.up {S : List Addr} {G h : Heap} (x : Kept S [] G h) : G.UpToSlots h := fun b o q _ => by
  by_cases m : b ∈ S
  · exact x.frame b o q m (by simp)
  · exact ⟨o.slots, x.other b o q m (by simp)⟩
theorem Kept.stays {S : List Addr} {G h : Heap} (x : Kept S [] G h) : (hideAll G S).StaysIn h := fun b o q => by
  have q' := of_hideAll _ q
  refine x.other b o q' (fun m => ?_) (by simp)
  rw [hideAll_none _ m] at q; cases q
theorem FunFrames.rebase {h B B' : Heap} : ∀ {l : List Env}, h.FunFrames B l → (∀ b ∈ l.filterMap (·.frame), B'.get? b = none) → h.FunFrames B' l
  | [], _, _ => True.intro
  | env :: r, hl, n => by
    obtain ⟨hk, ⟨L, o, hf, hn, ho, hd⟩, hr⟩ := hl
    have e : (env :: r).filterMap (·.frame) = L :: r.filterMap (·.frame) := by rw [List.filterMap_cons, hf]
    rw [e] at n
    exact ⟨hk, ⟨L, o, hf, n L (List.mem_cons_self ..), ho, hd⟩, FunFrames.rebase hr fun b hb => n b (List.mem_cons_of_mem _ hb)⟩
section
variable {prog : Program} {w : World} {A₀ : Around} {E₁ : Value → Shared → Prop} {E₀ : Value → Value → Shared → Prop} {s' : Shared} {base g G : Heap} {outer : List Env} {L a e : Addr} {m : Str → Option Value} {name : Str} {scope : Scope} {cd : Value} {KF : Frag}
  {p : Program} {loose : List Str} {mean : ExcName → Option Value} {mg mb : Str → Option Value} {Q : Flow → Shared → Prop}
theorem catch_raise {t : Addr} {np np2 cp cpos kpos rpos hpos : Pos} {msg : Str} {k kk : Nat} (K : Below A₀ base outer g) (F : Fr g L G m) (XB : KF.In base) (TB : Top p loose mean mg mb base)
    (hk : ∀ b o, G.get? b = some o → s'.heap.get? b = some o) (hnew : G.get? e = none) (he : s'.heap.get? e = some (excObj "StopIteration" t))
    (n1 : nsIn KF mainGlobals (Str.ofString "StopIteration") = some none) (n2 : nsIn KF mainGlobals (Str.ofString "TypeError") = some none)
    (v1 : bootBuiltins (Str.ofString "StopIteration") = some (.type "StopIteration")) (v2 : bootBuiltins (Str.ofString "TypeError") = some (.type "TypeError"))
    (hsk : scope.kind = .function) (x1 : (envOf name scope L a cd).kindOf (Str.ofString "StopIteration") = some .globalImplicit) (x2 : (envOf name scope L a cd).kindOf (Str.ofString "TypeError") = some .globalImplicit)
    (ret : ∀ h' e2 a0 tk, Heap.FlyingW (hideAll G ((envOf name scope L a cd :: outer).filterMap (·.frame))) outer e2 (.type "TypeError") a0 h' → Kept ((envOf name scope L a cd :: outer).filterMap (·.frame)) [] G h' → E₀ (.ref e2) (.ref e2) { s' with heap := h', toks := tk }) :
    wpAny (model prog w) (A₀.deeper (envOf name scope L a cd)) (noteFrame (.ref e) (envOf name scope L a cd))
      (fun _ s₂ => wpAny (model prog w) (A₀.deeper (envOf name scope L a cd)) (setFlight (.ref e) none) (fun _ s₃ =>
        wpAny (model prog w) (A₀.deeper (envOf name scope L a cd)) (handleBy (.ref e) (envOf name scope L a cd) [.ExceptHandler (some (.Name (Str.ofString "StopIteration") np)) none [.Raise (some (.Call (.Name (Str.ofString "TypeError") np2) [.Constant (.str msg) k cp] [] cpos)) (some (.Constant .none kk kpos)) rpos] hpos]) Q
          (fun e' s'' => wpAny (model prog w) (A₀.deeper (envOf name scope L a cd)) (leaving (envOf name scope L a cd) e') (fun _ s4 => E₀ e' e' s4) E₁ s'') s₃)
          (fun e' s'' => wpAny (model prog w) (A₀.deeper (envOf name scope L a cd)) (leaving (envOf name scope L a cd) e') (fun _ s4 => E₀ e' e' s4) E₁ s'') s₂)
          (fun e' s'' => wpAny (model prog w) (A₀.deeper (envOf name scope L a cd)) (leaving (envOf name scope L a cd) e') (fun _ s4 => E₀ e' e' s4) E₁ s'') s' := by
  have K' := K.push (name := name) (a := a) (cd := cd) F hsk
  generalize hS : (envOf name scope L a cd :: outer).filterMap (·.frame) = S at ret
  have hBS : ∀ b o, G.get? b = some o → b ∉ S → (hideAll G S).get? b = some o := fun b o q n => hideAll_get _ q n
  have hBS' : ∀ b o, G.get? b = some o → b ∉ (envOf name scope L a cd :: outer).filterMap (·.frame) → (hideAll G S).get? b = some o := by rw [hS]; exact hBS
  have k1 : Kept S [] G s'.heap := .of_keeps fun b o _ q => hk b o q
  have hF1 : s'.heap.FunFrames base (envOf name scope L a cd :: outer) := K'.frames.of_keeps fun b o q _ => ⟨o, hk b o q, rfl⟩
  refine note_first K'.stack hF1 rfl he fun h2 T y2 X2 hT => ?_
  rw [hS] at y2
  have k2 := k1.step y2 (by intro b hb; rw [List.mem_singleton.mp hb]; exact hnew)
  have hTG : G.get? T = none := by
    cases q : G.get? T with
    | none => rfl
    | some o => rw [hk _ _ q] at hT; cases hT
  refine flight_none X2 fun h3 y3 X3 => ?_
  have k3 := k2.step (Kept.of_keeps y3) (by intro b hb; rw [List.mem_singleton.mp hb]; exact hTG)
  have hE : PassesOwnAt (model prog w) ((A₀.deeper (envOf name scope L a cd)).mark (some (.ref e))) (A₀.deeper (envOf name scope L a cd)) (envOf name scope L a cd) (fun e' s'' => wpAny (model prog w) (A₀.deeper (envOf name scope L a cd)) (leaving (envOf name scope L a cd) e') (fun _ s4 => E₀ e' e' s4) E₁ s'') := PassesOwnAt.leaving
  obtain ⟨g3, T3, F3, K3⟩ := kts_ground (h₅ := h3) K F hBS' k3.stays k3.up
  refine wpAny_handleBy_builtin (X := "StopIteration") (T := "StopIteration") (b := true) owsi_raise.isExc notTuple_stop owsi_facts.sub (wpAny_passesOwnAt hE ?_)
  refine name_B F3 (XB.keeps K3.stays) (topRead_of (TB.keeps K3.stays)) n1 v1 (by decide) ⟨rfl, ?_, ?_⟩ hsk x1 (by decide)
  · obtain ⟨⟨oe, vs, q, hc, _⟩, _⟩ := X3
    exact ⟨_, q, hc⟩
  rw [if_pos rfl]
  refine flight_none X3 fun h4 y4 X4 => ?_
  have k4 := k3.step (Kept.of_keeps y4) (by intro b hb; rw [List.mem_singleton.mp hb]; exact hTG)
  obtain ⟨g4, T4, F4, K4⟩ := kts_ground (h₅ := h4) K F hBS' k4.stays k4.up
  refine wpAny_passesOwnAt hE (wpAny_execs_cons (raise_none (e1 := e) (T := T) (cls1 := "StopIteration") rfl rfl ?_))
  refine name_B F4 (XB.keeps K4.stays) (topRead_of (TB.keeps K4.stays)) n2 v2 (by decide) ⟨rfl, ?_⟩ hsk x2 (by decide)
  show wpAny _ _ (evalArgs _ true [(false, eval (.Constant (.str msg) k cp) (envOf name scope L a cd))] []) _ _ _
  refine evalArgs_plain (spliced_cons (Constant_str (spliced_nil ⟨rfl, by rw [sizeLine_eq]; simp, X4, fun h5 e2 hk5 hn5 hx5 => ?_⟩)))
  have k5 := k4.step (Kept.of_keeps (X := []) fun b o _ q => hk5 b o q) (by simp)
  have he2 : G.get? e2 = none := by
    cases q : G.get? e2 with
    | none => rfl
    | some o =>
      by_cases ms : e2 ∈ S
      · obtain ⟨sl, q'⟩ := k4.frame e2 o q ms (by simp)
        rw [q'] at hn5; cases hn5
      · rw [k4.other e2 o q ms (by simp)] at hn5; cases hn5
  obtain ⟨oe, vs, t2, q, hc, hd, h0, h1⟩ := hx5
  have hF5 : h5.FunFrames (hideAll G S) (envOf name scope L a cd :: outer) := FunFrames.rebase (k5.frames K'.frames (by simp)) fun b hb => hideAll_none _ (hS ▸ hb)
  have hB2 : (hideAll G S).get? e2 = none := by
    cases q : (hideAll G S).get? e2 with
    | none => rfl
    | some o => rw [of_hideAll _ q] at he2; cases he2
  refine wpAny_leaving_firstW K'.stack hF5 rfl q k5.stays hB2 hd h1 h0 fun h6 hL => ?_
  obtain ⟨z1, ⟨_, _, z2⟩, z3, z4⟩ := hL
  rw [hc] at z3
  refine ret h6 e2 t2 _ ⟨z1, hB2, z2, z3⟩ ⟨fun b o q a _ => z1 b o (hBS b o q a), fun b o q a _ => ?_⟩
  obtain ⟨sl, q5⟩ := k5.frame b o q a (by simp)
  obtain ⟨_, o', q', hnf⟩ := K'.frames.mem (hS ▸ a)
  rw [q] at q'
  cases q'
  obtain ⟨sl', q6⟩ := z4 b _ q5 hnf
  exact ⟨sl', q6⟩
end
end Mine
/-! Rra22 -/
namespace Mine
open PySem PySem.W PySem.Spec PySem.Calls PyProof.Rows
theorem of_hide_nil {h : Heap} {b : Addr} {o : Obj} {X : List Addr} (e : (hideAll h X).get? b = some o) : b ∉ X := fun m => by rw [hideAll_none _ m] at e; cases e
section
variable {prog : Program} {w : World} {A₀ A : Around} {s : Shared} {base h₀ : Heap} {outer : List Env} {L : Addr} {m : Str → Option Value} {env : Env} {K : Frag}
  {name qual : Str} {params : Arguments} {body : List Stmt} {scope : Scope} {dV kV doc pm cdv ct oc : Value} {an od : Option Addr} {osl : Array (Option Value)} {f : Addr} {vs : List Value} {kw : List (Str × Value)} {binds : List (Str × Value)}
  {Q E : Value → Shared → Prop} {p : Program} {loose : List Str} {mean : ExcName → Option Value} {mg mb : Str → Option Value}
theorem below_env (B : Below A₀ base outer h₀) (F : Fr h₀ L s.heap m) (hA : A.frames = some (env :: outer)) (hf : env.frame = some L) (hke : env.scope.kind = .function) : Below A base (env :: outer) s.heap := by
  have hnew : base.get? L = none := by
    cases hq : base.get? L with
    | none => rfl
    | some o => exact absurd (Nat.lt_of_lt_of_le (Heap.lt_size (B.stays L o hq)) F.above) (Nat.lt_irrefl _)
  exact ⟨hA, fun b o e => F.keep b o (B.stays b o e), .cons (by rw [hke]; decide) hf F.ns hnew (B.frames.of_keeps fun b o e _ => ⟨o, F.keep b o e, rfl⟩)⟩
/-- entering a def that raises, the whole heap its ground -/
theorem enterR (B : Below A₀ base outer h₀) (F : Fr h₀ L s.heap m) (X₀ : K.In h₀) (T : Top p loose mean mg mb h₀) (hA : A.frames = some (env :: outer)) (hf : env.frame = some L) (hke : env.scope.kind = .function)
    (ho : K.lookup f = some ⟨oc, od, .func (fnOf name qual params body scope dV kV doc pm an cdv ct), osl⟩) (hcd : codeIn K cdv qual = true) (hroom : A.depth < recursionLimit)
    (hbind : BindsTo s (fnOf name qual params body scope dV kV doc pm an cdv ct) ⟨vs, kw⟩ binds) (hloc : ∀ y ∈ binds, scope.names.lookup y.1 = some .local)
    (h : ∀ L' h₁, Fr s.heap L' h₁ (fun y => binds.reverse.lookup y) → Below A base (env :: outer) s.heap →
      wpAny (model prog w) (A.deeper (envOf qual scope L' f cdv)) (execs body (envOf qual scope L' f cdv))
        (fun _ _ => False)
        (fun e s' => wpAny (model prog w) (A.deeper (envOf qual scope L' f cdv)) (leaving (envOf qual scope L' f cdv) e) (fun _ s'' => E e s'') (fun e' s'' => E e' s'') s')
        { s with heap := h₁, toks := s.toks + binds.length })
    (hco : scope.isCoroutine = false) (hgen : scope.isGenerator = false) (hk : scope.kind = .function) (hcell : ∀ x ∈ scope.names, x.2 ≠ .cell) : wpAny (model prog w) A (call (.ref f) vs kw) Q E s := by
  refine wpAny_call ?_
  have X := X₀.keeps F.keep
  refine codeAny_call_def (fd := fnOf name qual params body scope dV kV doc pm an cdv ct) (body := body) (binds := binds) hroom (X _ _ ho) rfl (T.nolimit.keeps F.keep) (codeRec_of X hcd) rfl hbind hcell hloc (fun h₁ hns hk₁ => ?_) hco hgen hk
  exact wpAny_mono (h s.heap.objs.size h₁ ⟨hns, hk₁, Nat.le_refl _⟩ (below_env B F hA hf hke)) (fun _ _ x => x.elim) fun _ _ y => y
end
section
local macro_rules | `(tactic| walk_at "call builtin:iter") => `(tactic| (k_here; k_dflt (refine iter_list (by k_asm) (by k_asm) (by is_list) ?_); intro I' h' F' N' l1; (try k_lt l1); (try k_sweep)))
local macro_rules | `(tactic| walk_at "call builtin:next") => `(tactic| refine Halt.mk ?_)
set_option maxHeartbeats 8000000 in
theorem reduce_raise {w : World} {p : Program} {loose : List Str} {mean : ExcName → Option Value} {mg mb : Str → Option Value} {dp un : Nat} {gd : Option (List Code)} {cn : Str} {cs : Scope} {a : Addr} {ccd : Value} {cl : List (Str × Addr)} {outer : List Env} {A₀ : Around} {base h₀ : Heap} {L : Addr} {m : Str → Option Value} {s : Shared} {Q E : Value → Shared → Prop}
  (B : Below A₀ base outer h₀) (F : Fr h₀ L s.heap m) (X : (hd.heap_39 w.params).In h₀) (T : Top p loose mean mg mb h₀) (hk : cs.kind = .function) (XB : Halt ((hd.heap_39 w.params).In base)) (TB : Halt (Top p loose mean mg mb base))
  {fl l : Addr} (hl : s.heap.IsList l (List.toArray ([] : List Value)))
  (hd : dp + 5 < recursionLimit)
  (ret : ∀ h' e2 a0 tk' Bc, (∀ b o, s.heap.get? b = some o → b ∉ (envX cn cs L a ccd cl :: outer).filterMap (·.frame) → Bc.get? b = some o) → base.StaysIn Bc → Heap.FlyingW Bc (envX cn cs L a ccd cl :: outer) e2 (.type "TypeError") a0 h' → s.heap.UpToSlots h' → E (.ref e2) { s with heap := h', toks := tk' }) :
  wpAny (model PySem.Challenge.rw_qh0022_01.row.prog w) (ktrTop dp un gd cn cs L a ccd cl outer) (call (.ref 153) [.ref fl, .ref l]) Q E s := by
  refine' enterR B F X T ?kA ?kF ?kK ?k6 ?k7 ?k8 ?k9 ?kB ?_ ?c2 ?c3 ?c4 ?c5
  case kA => exact rfl
  case kF => exact rfl
  case kK => exact hk
  case k6 => k_is
  case k7 => k_is
  case k8 => show dp < _; omega
  case k9 => first | exact BindsTo.of_eq rfl | exact binds_K (by k_in) rfl (by k_is) rfl rfl rfl
  case kB => exact locs rfl
  case c5 => decide
  case c2 => exact rfl
  case c3 => exact rfl
  case c4 => exact rfl
  have X' := X.keeps F.keep
  have T' := T.keeps F.keep
  intro L' h' F' B'
  have N' : News s.heap L' h' [] := fun _ h => nomatch h
  clear B F X T
  k_steps
  refine Halt.out ?_
  rename_i I hA l1 hB Fx Nx
  have NI := Nx _ (List.mem_singleton_self _)
  refine next_end (l := l) (items := #[]) ⟨_, NI.1, rfl, rfl⟩ (hl.at fun o e => Fx.keep _ o e) rfl rfl ?_
  intro h2 e t hk2 hen he
  have FG : Fr s.heap L' (hideAll hB [I]) _ := ⟨Fx.ns.at' fun o q => hideAll_get _ q (fun m => NI.2.1 (List.mem_singleton.mp m).symm), fun b o q => hideAll_get _ (Fx.keep b o q) (fun m => by
    rw [List.mem_singleton.mp m, NI.2.2] at q; cases q), Fx.above⟩
  have hL' : s.heap.get? L' = none := kts_self Fx
  refine catch_raise (E₀ := fun a _ => E a) (G := hideAll hB [I]) (L := L') (e := e) B' FG XB.mk TB.mk ?hk ?hnew he ?n1 ?n2 ?v1 ?v2 rfl rfl rfl ?_
  case hk => exact fun b o q => hk2 b o (fun z => of_hide_nil q (List.mem_singleton.mpr z)) (of_hideAll _ q)
  case hnew =>
    cases q : (hideAll hB [I]).get? e with
    | none => rfl
    | some o => rw [of_hideAll _ q] at hen; cases hen
  case n1 => k_is
  case n2 => k_is
  case v1 => boot_by_name
  case v2 => boot_by_name
  intro h3 e2 a0 tk3 hfl hkp
  refine ret h3 e2 a0 tk3 _ (fun b o q n => hideAll_get _ (FG.keep b o q) (fun m => ?_)) (fun b o q => hideAll_get _ (FG.keep b o (B'.stays b o q)) (fun m => ?_)) hfl ((Heap.UpToSlots.of_keeps FG.keep).trans hkp.up)
  · rcases kts_mem m with z | z
    · rw [z, hL'] at q; cases q
    · exact n z
  · rcases kts_mem m with z | z
    · have := B'.stays b o q
      rw [z, hL'] at this; cases this
    · rw [(B'.frames.mem z).1] at q; cases q
end
end Mine
/-! Ref22 -/
namespace Mine
open PySem PySem.W PySem.Spec PySem.Calls PyProof.Rows
/-- how the body of a def that catches ends -/
def EndS (S : List Addr) (g : Heap) (Ret : Value → List (Addr × Obj) → Prop) (s : Shared) (v : Value) (s' : Shared) : Prop :=
  ∃ g' L' m' news' h' tk', s' = { s with heap := h', toks := tk' } ∧ KtsTurn S g g' ∧ Fr g' L' h' m' ∧ News g' L' h' news' ∧ Ret v news'
section
variable {prog : Program} {w : World} {A₀ A : Around} {s : Shared} {base h₀ : Heap} {L : Addr} {m : Str → Option Value} {env : Env} {sub rest : List (Addr × Obj)} {K : Frag}
  {name qual : Str} {params : Arguments} {body : List Stmt} {scope : Scope} {dV kV doc pm cdv ct oc : Value} {an od : Option Addr} {osl : Array (Option Value)} {f : Addr} {vs : List Value} {kw : List (Str × Value)} {binds : List (Str × Value)}
  {Q E : Value → Shared → Prop} {p : Program} {loose : List Str} {mean : ExcName → Option Value} {mg mb : Str → Option Value}
/-- entering a def that catches, from the outermost frame -/
theorem enterS (Ret : Value → List (Addr × Obj) → Prop) (B : Below A₀ base [] h₀) (F : Fr h₀ L s.heap m) (X₀ : K.In h₀) (N : News h₀ L s.heap (sub ++ rest)) (T : Top p loose mean mg mb h₀) (hA : A.frames = some [env]) (hf : env.frame = some L) (hke : env.scope.kind = .function)
    (hdis : ∀ p ∈ rest, p.1 ∉ sub.map (·.1))
    (ho : K.lookup f = some ⟨oc, od, .func (fnOf name qual params body scope dV kV doc pm an cdv ct), osl⟩) (hcd : codeIn K cdv qual = true) (hroom : A.depth < recursionLimit)
    (hbind : BindsTo s (fnOf name qual params body scope dV kV doc pm an cdv ct) ⟨vs, kw⟩ binds) (hloc : ∀ y ∈ binds, scope.names.lookup y.1 = some .local)
    (ret : ∀ r news' h' tk', Fr h₀ L h' m → News h₀ L h' (news' ++ rest) → Ret r news' → Q r { s with heap := h', toks := tk' })
    (h : ∀ g L' h₁, Fr g L' h₁ (fun y => binds.reverse.lookup y) → News g L' h₁ sub → Below A base [env] g → K.In g → Top p loose mean mg mb g → KtsDicts ([env].filterMap (·.frame)) g → (∀ p ∈ sub, p.1 < L') → (∀ b o, s.heap.get? b = some o → b ∉ sub.map (·.1) → g.get? b = some o) →
      wpAny (model prog w) (A.deeper (envOf qual scope L' f cdv)) (execs body (envOf qual scope L' f cdv))
        (fun fl s' => EndS ([env].filterMap (·.frame)) g Ret s (match fl with | .ret v => v | _ => .none) s')
        (fun _ _ => False)
        { s with heap := h₁, toks := s.toks + binds.length })
    (hco : scope.isCoroutine = false) (hgen : scope.isGenerator = false) (hk : scope.kind = .function) (hcell : ∀ x ∈ scope.names, x.2 ≠ .cell) : wpAny (model prog w) A (call (.ref f) vs kw) Q E s := by
  refine wpAny_call ?_
  have X := X₀.keeps F.keep
  have Ns : News h₀ L s.heap sub := fun p hp => N p (List.mem_append_left _ hp)
  have nm : ∀ b o, h₀.get? b = some o → b ∉ sub.map (·.1) := fun b o e q => by
    obtain ⟨p, hp, rfl⟩ := List.mem_map.mp q
    rw [(Ns p hp).2.2] at e; cases e
  have st : h₀.StaysIn (hideAll s.heap (sub.map (·.1))) := fun b o e => hideAll_get _ (F.keep b o e) (nm b o e)
  obtain ⟨oL, es, ep, hL, hLd, hLk, hLf⟩ := F.ns
  have nL : L ∉ sub.map (·.1) := fun q => by
    obtain ⟨p, hp, e⟩ := List.mem_map.mp q
    exact (Ns p hp).2.1 e
  have hLg := hideAll_get (sub.map (·.1)) hL nL
  have nL₀ : h₀.get? L = none := kts_self F
  have hfs : [env].filterMap (·.frame) = [L] := by rw [List.filterMap_cons, hf]; rfl
  have FG : Fr h₀ L (hideAll s.heap (sub.map (·.1))) m := ⟨⟨oL, es, ep, hLg, hLd, hLk, hLf⟩, st, F.above⟩
  have BG : Below A base [env] (hideAll s.heap (sub.map (·.1))) := below_env (s := { s with heap := hideAll s.heap (sub.map (·.1)) }) B FG hA hf hke
  refine codeAny_call_def (fd := fnOf name qual params body scope dV kV doc pm an cdv ct) (body := body) (binds := binds) hroom (X _ _ ho) rfl (T.nolimit.keeps F.keep) (codeRec_of X hcd) rfl hbind hcell hloc (fun h₁ hns hk₁ => ?_) hco hgen hk
  refine wpAny_mono (h _ s.heap.objs.size h₁ ⟨hns, fun b o e => hk₁ b o (of_hideAll _ e), Nat.le_of_eq (hideAll_size _ _)⟩
    (fun p hp => ⟨hk₁ _ _ (Ns p hp).1, Nat.ne_of_lt (Heap.lt_size (Ns p hp).1), hideAll_none _ (List.mem_map_of_mem hp)⟩) BG (X₀.keeps st) (T.keeps st)
    (fun b hb => by rw [hfs] at hb; rw [List.mem_singleton.mp hb]; exact ⟨oL, es, ep, hLg, hLd⟩) (fun p hp => Heap.lt_size (Ns p hp).1) (fun b o e hb => hideAll_get _ e hb)) (fun fl s' hl => ?_) fun _ _ y => y.elim
  obtain ⟨g', L', m', news', h', tk', rfl, T', F', N', hr⟩ := hl
  rw [hfs] at T'
  obtain ⟨sl, hs⟩ := T'.up hLg
  refine ret _ news' h' tk' ⟨⟨_, es, ep, F'.keep _ _ hs, hLd, hLk, hLf⟩, fun b o e => F'.keep b o (T'.other b o (st b o e) (fun q => by
    rw [List.mem_singleton.mp q, nL₀] at e; cases e)), F.above⟩ (fun q hq => ?_) hr
  rcases List.mem_append.mp hq with hq | hq
  · refine ⟨(N' q hq).1, fun z => ?_, ?_⟩
    · have := (N' q hq).2.2; rw [z, hs] at this; cases this
    · cases e : h₀.get? q.1 with
      | none => rfl
      | some o =>
        obtain ⟨sl', hs'⟩ := T'.up (st _ _ e)
        have := (N' q hq).2.2
        rw [hs'] at this; cases this
  · have Nq := N q (List.mem_append_right _ hq)
    exact ⟨F'.keep _ _ (T'.other _ _ (hideAll_get _ Nq.1 (hdis q hq)) (fun z => Nq.2.1 (List.mem_singleton.mp z))), Nq.2⟩
end
theorem raisedSN_of {A₀ : Around} {base g h h' Bc : Heap} {outer : List Env} {L a e : Addr} {m : Str → Option Value} {name : Str} {scope : Scope} {cd cls a0 : Value} {news : List (Addr × Obj)}
    (Bel : Below A₀ base outer g) (F : Fr g L h m) (N : News g L h news) (hB : ∀ b o, h.get? b = some o → b ∉ (envOf name scope L a cd :: outer).filterMap (·.frame) → Bc.get? b = some o) (hst : base.StaysIn Bc)
    (hfl : Heap.FlyingW Bc (envOf name scope L a cd :: outer) e cls a0 h') (hup : h.UpToSlots h') :
    RaisedSN base (hideAll h (news.map (·.1))) (envOf name scope L a cd :: outer) e cls news h' ∧ Fr g L (hideAll h (news.map (·.1))) m ∧ (hideAll h (news.map (·.1))).UpToSlots h' := by
  have nm : ∀ b o, g.get? b = some o → b ∉ news.map (·.1) := fun b o q z => by
    obtain ⟨p, hp, rfl⟩ := List.mem_map.mp z
    rw [(N p hp).2.2] at q; cases q
  have nL : L ∉ news.map (·.1) := fun q => by
    obtain ⟨p, hp, e⟩ := List.mem_map.mp q
    exact (N p hp).2.1 e
  refine ⟨⟨Bc, a0, hst, fun b o q n => hB b o (of_hideAll _ q) n, fun q hq => ⟨hB _ _ (N q hq).1 fun z => ?_, hideAll_none _ (List.mem_map_of_mem hq), ?_⟩, hfl⟩, ⟨F.ns.at' fun o q => hideAll_get _ q nL, fun b o q => hideAll_get _ (F.keep b o q) (nm b o q), F.above⟩, fun b o q n => hup b o (of_hideAll _ q) n⟩
  · rcases kts_mem z with z | z
    · exact (N q hq).2.1 z
    · obtain ⟨_, o, ho, _⟩ := Bel.frames.mem z
      rw [(N q hq).2.2] at ho; cases ho
  · cases e : base.get? q.1 with
    | none => rfl
    | some o => have := Bel.stays _ _ e; rw [(N q hq).2.2] at this; cases this
def RetBT (b : Bool) (v : Value) (l : List (Addr × Obj)) : Prop := v = .bool b ∧ ∃ ps, l = [(181, tabObj ps)]
theorem EndS.tab {S : List Addr} {g g' h' : Heap} {L' : Addr} {m' : Str → Option Value} {all : List (Addr × Obj)} {ps : Array Value} {s : Shared} {tk' : Nat} (T : KtsTurn S g g') (F : Fr g' L' h' m') (N : News g' L' h' all) (hm : ((181 : Addr), tabObj ps) ∈ all) :
    EndS S g (RetBT true) s (.bool true) { s with heap := h', toks := tk' } :=
  ⟨g', L', m', [(181, tabObj ps)], h', tk', rfl, T, F, fun p hp => N p (by rw [List.mem_singleton.mp hp]; exact hm), rfl, ps, rfl⟩
section
local macro_rules | `(tactic| walk_at "call ref") => `(tactic| ((with_reducible show wpAny _ _ (call (Value.ref 153) _ _) _ _ _); refine Halt.mk ?_))
set_option maxHeartbeats 8000000 in
theorem law_refused_F {w : World} {p : Program} {loose : List Str} {mean : ExcName → Option Value} {mg mb : Str → Option Value} {dp un : Nat} {gd : Option (List Code)} {cn : Str} {cs : Scope} {a : Addr} {ccd : Value} {cl : List (Str × Addr)} {A₀ : Around} {base h₀ : Heap} {L : Addr} {m : Str → Option Value} {s : Shared} {Q E : Value → Shared → Prop}
  (B : Below A₀ base [] h₀) (F : Fr h₀ L s.heap m) (X : (hd.heap_39 w.params).In h₀) (T : Top p loose mean mg mb h₀) (hk : cs.kind = .function) (XB : Halt ((hd.heap_39 w.params).In base)) (TB : Halt (Top p loose mean mg mb base))
  {rest : List (Addr × Obj)} (N : News h₀ L s.heap ([(181, tabObj #[])] ++ rest)) (hdis : ∀ p ∈ rest, p.1 ∉ ([(181, tabObj #[])] : List (Addr × Obj)).map (·.1)) (C : CodeHd base 185 181)
  {l : Addr} (hl : s.heap.IsList l (List.toArray ([] : List Value))) (hll : l ∉ ([(181, tabObj #[])] : List (Addr × Obj)).map (·.1))
  (hd : dp + 300 < recursionLimit)
  (ret : ∀ ps h' tk', Fr h₀ L h' m → News h₀ L h' ([(181, tabObj ps)] ++ rest) → Q (.bool true) { s with heap := h', toks := tk' }) :
  wpAny (model PySem.Challenge.rw_qh0022_01.row.prog w) (ktrTop dp un gd cn cs L a ccd cl []) (call (.ref 186) [.ref l]) Q E s := by
  refine' enterS (sub := [(181, tabObj #[])]) (rest := rest) (RetBT true) B F X N T ?kA ?kF ?kK ?kD ?k6 ?k7 ?k8 ?k9 ?kB ?kR ?_ ?c2 ?c3 ?c4 ?c5
  case kA => exact rfl
  case kF => exact rfl
  case kK => exact hk
  case kD => exact hdis
  case k6 => k_is
  case k7 => k_is
  case k8 => show dp < _; omega
  case k9 => first | exact BindsTo.of_eq rfl | exact binds_K (by k_in) rfl (by k_is) rfl rfl rfl
  case kB => exact locs rfl
  case c5 => decide
  case c2 => exact rfl
  case c3 => exact rfl
  case c4 => exact rfl
  case kR => 
    rintro r news' h' tk' F' N' ⟨rfl, ps, rfl⟩
    exact ret ps h' tk' F' N'
  intro g' L' h' F' N' B' X' T' D' l1 hg'
  have hl' : g'.IsList l (List.toArray ([] : List Value)) := by
    obtain ⟨o, ho, r⟩ := hl
    exact ⟨o, hg' _ _ ho hll, r⟩
  clear hg' ret B F X N T hl
  (try simp only [List.cons_append, List.nil_append] at N')
  (try k_lt l1)
  k_steps
  refine Halt.out ?_
  rename Fr _ _ _ _ => Fx
  rename News _ _ _ _ => Nx
  refine reduce_raise B' Fx X' T' rfl XB TB (hl'.at fun o e => Fx.keep _ o e) (by show dp + 1 + 5 < _; omega) ?_
  intro h3 e2 a0 tk3 Bc hB hst hfl hup
  obtain ⟨R, FG, hup'⟩ := raisedSN_of B' Fx Nx hB hst hfl hup
  refine kts_lookSN R FG B' hup' D' ?_
  intro h4 R4 hup4
  refine hit_SN0 R4 FG B' hup4 XB.mk TB.mk D' KtsTurn.refl ?tst ?_
  case tst => kts_test
  intro h5 g5 T5 F5 N5 B5 X5 P5 D5
  k_steps
  exact EndS.tab T5 F5 N5 (ps := _) (by k_mem)
end
end Mine
/-! LwJ22 -/
namespace Mine
open PySem PySem.W PySem.Spec PySem.Calls PyProof.Rows
/-- how the law's last statement ends -/
def StageR (h₀ : Heap) (L : Addr) (J : List (Addr × Obj) → Prop) (s : Shared) (f : Flow) (s' : Shared) : Prop :=
  f = .ret (.bool true) ∧ ∃ m' news' h' tk', s' = { s with heap := h', toks := tk' } ∧ Fr h₀ L h' m' ∧ News h₀ L h' news' ∧ J news'
theorem StageR.go {h₀ h' : Heap} {L : Addr} {J : List (Addr × Obj) → Prop} {s : Shared} {m' : Str → Option Value} {all news' : List (Addr × Obj)} {tk' : Nat}
    (F : Fr h₀ L h' m') (N : News h₀ L h' all) (hJ : J news') (hs : ∀ p ∈ news', p ∈ all) : StageR h₀ L J s (.ret (.bool true)) { s with heap := h', toks := tk' } :=
  ⟨rfl, m', news', h', tk', rfl, F, fun p hp => N p (hs p hp), hJ⟩
section
local macro_rules | `(tactic| walk_at "call ref") => `(tactic| refine Halt.mk ?_)
local macro_rules | `(tactic| walk_at "Mine dummy") => `(tactic| fail)
local macro_rules | `(tactic| k_ne) => `(tactic| (refine neN ?_; (try dsimp only); first | omega | (refine Sep.ne (by assumption) ?_; (repeat (first | exact List.Mem.head _ | refine List.Mem.tail _ ?_)); done) | (refine Sep.ne' (by assumption) ?_; (repeat (first | exact List.Mem.head _ | refine List.Mem.tail _ ?_)); done)))
set_option maxHeartbeats 8000000 in
theorem lawJ {w : World} {p : Program} {loose : List Str} {mean : ExcName → Option Value} {mg mb : Str → Option Value} {base h₀ : Heap} {L : Addr} {m : Str → Option Value} {s : Shared}
  {name qual : Str} {params : Arguments} {body : List Stmt} {scope : Scope} {dV kV doc pm cdv ct oc : Value} {an od : Option Addr} {osl : Array (Option Value)} (hb : (hd.heap_39 w.params).lookup 191 = some ⟨oc, od, .func (fnOf name qual params body scope dV kV doc pm an cdv ct), osl⟩) {fa : Addr} {cdw : Value}
  (B : Below callerA base [] h₀) (F : Fr h₀ L s.heap m) (X : (hd.heap_39 w.params).In h₀) (T : Top p loose mean mg mb h₀) (hlt : @LT.lt Nat _ 181 L)
  (C1 : CodeHd base 41 37) (C2 : CodeHd base 48 44) (C3 : CodeHd base 166 162) (C4 : CodeHd base 185 181) (XB : Halt ((hd.heap_39 w.params).In base)) (TB : Halt (Top p loose mean mg mb base))
  {o1 o2 o3 o4 o5 ov ob oc1 : Obj} {ld lv lb : Addr} {od' : Obj} {c1 c2 c3 : Addr} {oc2 oc3 : Obj} {vs3 : Array Value} {tq3 : Tok}
  (hoc3 : oc3.data = .fields vs3) (hv3 : vs3[1]? = some (.str (Str.ofString "_law_folded.<locals>.<lambda>") tq3))
  (N : News h₀ L s.heap [(L + 1 + 1 + 1 + 1 + 1, o5), (L + 1 + 1 + 1 + 1, o4), (L + 1 + 1 + 1, o3), (L + 1 + 1, o2), (L + 1, o1), (181, tabObj #[]), (162, tabObj #[rawInt 243, rawInt 18, .ref c3]), (c3, oc3), (44, tabObj #[rawInt 50, rawInt 4, .ref c2]), (c2, oc2), (37, tabObj #[rawInt 35, rawInt 4, .ref c1]), (c1, oc1), (ld, od'), (lv, ov)])
  (hs0 : Sep ld [L + 1 + 1 + 1 + 1 + 1, L + 1 + 1 + 1 + 1, L + 1 + 1 + 1, L + 1 + 1, L + 1, 181, 162, 44, 37])
  (hs2 : Sep c2 [L + 1 + 1 + 1 + 1 + 1, L + 1 + 1 + 1 + 1, L + 1 + 1 + 1, L + 1 + 1, L + 1, 181, 162, 44, 37, ld]) (hs3 : Sep c3 [L + 1 + 1 + 1 + 1 + 1, L + 1 + 1 + 1 + 1, L + 1 + 1 + 1, L + 1 + 1, L + 1, 181, 162, 44, 37, ld, c2]) (hs1 : Sep c1 [L + 1 + 1 + 1 + 1 + 1, L + 1 + 1 + 1 + 1, L + 1 + 1 + 1, L + 1 + 1, L + 1, 181, 162, 44, 37, ld, c2, c3]) (hsv : Sep lv [L + 1 + 1 + 1 + 1 + 1, L + 1 + 1 + 1 + 1, L + 1 + 1 + 1, L + 1 + 1, L + 1, 181, 162, 44, 37, ld, c2, c3, c1]) :
  wpAny (model PySem.Challenge.rw_qh0022_01.row.prog w) (callerA.deeper (envOfC qual scope L fa cdw)) (execs ((body.drop 12).take 1) (envOfC qual scope L fa cdw)) (StageR h₀ L (fun news' => ∃ ps, news' = [(181, tabObj ps), (162, tabObj #[rawInt 243, rawInt 18, .ref c3]), (44, tabObj #[rawInt 50, rawInt 4, .ref c2]), (37, tabObj #[rawInt 35, rawInt 4, .ref c1])]) s) (fun _ _ => False) s := by
  refine' lookup_det (P := fun qual scope body => wpAny (model PySem.Challenge.rw_qh0022_01.row.prog w) (callerA.deeper (envOfC qual scope L fa cdw)) (execs ((body.drop 12).take 1) (envOfC qual scope L fa cdw)) _ _ s) hb ?k6 ?_
  case k6 => k_is
  clear hb
  dsimp only [List.drop, List.take]
  obtain ⟨hp0, gn0, dr0, tk0, os0⟩ := s
  dsimp only at F N
  k_steps
  refine Halt.out ?_
  rename Fr _ _ _ _ => Fx
  rename News _ _ _ _ => Nx
  have Ny : News h₀ L _ ([(162, tabObj #[rawInt 243, rawInt 18, .ref c3]), (c3, oc3)] ++ [(L + 1 + 1 + 1 + 1 + 1, o5), (L + 1 + 1 + 1 + 1, o4), (L + 1 + 1 + 1, o3), (L + 1 + 1, o2), (L + 1, o1), (181, tabObj #[]), (44, tabObj #[rawInt 50, rawInt 4, .ref c2]), (c2, oc2), (37, tabObj #[rawInt 35, rawInt 4, .ref c1]), (c1, oc1), (ld, od'), (lv, ov)]) := News.sub Nx (by k_allIn)
  refine law_folded_H (ns := []) B Fx X T rfl hoc3 hv3 Ny (off_two (by k_all) (by k_all)) C3 (News.isList Nx (by k_mem)) (not_two' (by k_ne) (by k_ne)) .nil (by decide) (by decide) (by decide +kernel) ?_
  intro t3 h1 tk1 F1 N1
  rw [val_nil]
  simp only [List.cons_append, List.nil_append] at N1
  clear Fx Nx Ny
  k_steps
  refine Halt.out ?_
  rename Fr _ _ _ _ => Fx
  rename News _ _ _ _ => Nx
  have Ny : News h₀ L _ ([(181, tabObj #[])] ++ [(162, tabObj #[rawInt 243, rawInt 18, .ref c3]), (44, tabObj #[rawInt 50, rawInt 4, .ref c2]), (37, tabObj #[rawInt 35, rawInt 4, .ref c1])]) := News.sub Nx (by k_allIn)
  refine law_refused_F B Fx X T rfl XB TB Ny (off_one (by k_all)) C4 (News.isList Nx (by k_mem)) (notin1 (by k_ne)) (by decide +kernel) ?_
  intro ps h2 tk2 F2 N2
  simp only [List.cons_append, List.nil_append] at N2
  clear Fx Nx Ny
  k_steps
  exact StageR.go F2 N2 ⟨ps, rfl⟩ (by k_allIn)
end
end Mine
/-! All22 -/
namespace Mine
open PySem PySem.W PySem.Spec PySem.Calls PyProof.Rows
theorem octs_kk (ns : List Int) : ∃ kk : Nat, kk ≤ 5 ∧ (octs (ns.take 3)).length = 3 * kk := by
  have h3 := List.length_take_le 3 ns
  refine ⟨2 + (ns.take 3).length, by omega, ?_⟩
  rw [octs_len]; omega
theorem val_bits {V : Int} {kk : Nat} (h0 : 0 ≤ V) (h : V < 64 ^ (4 * kk)) (hkk : kk ≤ 5) : Builtin.Int.intBits V ≤ 200 := by
  refine intBits_le_iff.mpr ?_
  rw [pow64_2] at h
  have h2 : (2 : Nat) ^ (24 * kk) ≤ 2 ^ 120 := Nat.pow_le_pow_right (by decide) (by omega)
  have h3 : (2 : Nat) ^ 120 ≤ 2 ^ 200 := Nat.pow_le_pow_right (by decide) (by decide)
  omega
def LawE (h₀ : Heap) (L : Addr) (s : Shared) (f : Flow) (s' : Shared) : Prop :=
  f = .ret (.bool true) ∧ ∃ m' h' tk' ps c1 c2 c3, s' = { s with heap := h', toks := tk' } ∧ Fr h₀ L h' m' ∧ News h₀ L h' [(181, tabObj ps), (162, tabObj #[rawInt 243, rawInt 18, .ref c3]), (44, tabObj #[rawInt 50, rawInt 4, .ref c2]), (37, tabObj #[rawInt 35, rawInt 4, .ref c1])]
set_option maxHeartbeats 8000000 in
theorem lawAll {w : World} {p : Program} {loose : List Str} {mean : ExcName → Option Value} {mg mb : Str → Option Value} {base h₀ : Heap} {L : Addr} {m : Str → Option Value} {s : Shared}
  {name qual : Str} {params : Arguments} {body : List Stmt} {scope : Scope} {dV kV doc pm cdv ct oc : Value} {an od : Option Addr} {osl : Array (Option Value)} (hb : (hd.heap_39 w.params).lookup 191 = some ⟨oc, od, .func (fnOf name qual params body scope dV kV doc pm an cdv ct), osl⟩) {fa : Addr} {cdw : Value}
  (B : Below callerA base [] h₀) (F : Fr h₀ L s.heap m) (X : (hd.heap_39 w.params).In h₀) (T : Top p loose mean mg mb h₀) (hlt : @LT.lt Nat _ 181 L)
  (C1 : CodeHd base 41 37) (C2 : CodeHd base 48 44) (C3 : CodeHd base 166 162) (C4 : CodeHd base 185 181) (XB : Halt ((hd.heap_39 w.params).In base)) (TB : Halt (Top p loose mean mg mb base))
  {o1 o2 o3 o4 o5 : Obj} (d1 : o1.data = .cell none) (d2 : o2.data = .cell none) (d3 : o3.data = .cell none) (d4 : o4.data = .cell none) (d5 : o5.data = .cell none)
  (N : News h₀ L s.heap [(L + 1 + 1 + 1 + 1 + 1, o5), (L + 1 + 1 + 1 + 1, o4), (L + 1 + 1 + 1, o3), (L + 1 + 1, o2), (L + 1, o1), (181, tabObj #[]), (162, tabObj #[]), (44, tabObj #[]), (37, tabObj #[])])
  {ls : Addr} {vs : List Value} {ns : List Int} (hl : h₀.IsList ls vs.toArray) (hi : IntsAre vs ns) (hlen : ns.length ≤ 63) (hm : m (Str.ofString "script") = some (.ref ls)) :
  wpAny (model PySem.Challenge.rw_qh0022_01.row.prog w) (callerA.deeper (envOfC qual scope L fa cdw)) (execs body (envOfC qual scope L fa cdw)) (LawE h₀ L s) (fun _ _ => False) s := by
  obtain ⟨kk, hkk, hdl⟩ := octs_kk ns
  have hdr := octs_range (ns := ns.take 3)
  have hvn := val_nonneg (B := 256) (by decide) (octs (ns.take 3)) hdr
  rw [hdl, ← pow64_256] at hvn
  obtain ⟨hV0, hV⟩ := hvn
  have hVb := val_bits hV0 hV hkk
  have hback := bdig_val (B := 256) (by decide) (3 * kk) _ hdl hdr
  -- 0-3
  refine execs_split 4 (wpAny_mono (lawA hb B F X T hlt C1 C2 C3 C4 d1 d2 d3 N hl hi hlen hm) (fun f s' h => ?_) fun _ _ x => x)
  obtain ⟨rfl, m1, news1, h1, tk1, rfl, F1, N1, hJ⟩ := h
  obtain ⟨p1, p2, p3, ld, vd, kd, t1, t2, t3, hs0, hm1, hid, e1, e2, e3, rfl⟩ := hJ
  generalize hds : octs (ns.take 3) = ds at *
  rw [show ((ds.length : Int) / 3 * 4) = 4 * (kk : Int) by rw [hdl]; omega] at e3
  dsimp only at F1 N1 ⊢
  -- 4
  refine execs_split 1 (wpAny_mono (lawB hb B F1 X T hlt C1 C2 C3 C4 e2 N1 hs0 hid (by omega) hdr hm1) (fun f s' h => ?_) fun _ _ x => x)
  obtain ⟨rfl, m2, news2, h2, tk2, rfl, F2, N2, hJ⟩ := h
  obtain ⟨c2, c3, oc2, oc3, vs2, vs3, tq2, tq3, hm2, hoc2, hv2, hoc3, hv3, hs2, hs3, rfl⟩ := hJ
  clear F1 N1
  dsimp only at F2 N2 ⊢
  rw [List.drop_drop]
  -- 5
  refine execs_split 1 (wpAny_mono (lawC hb B F2 X T hlt C1 C2 C3 C4 e1 e2 e3 d4 N2 hs0 hs2 hs3 hV0 hV hVb hkk hm2) (fun f s' h => ?_) fun _ _ x => x)
  obtain ⟨rfl, m3, news3, h3, tk3, rfl, F3, N3, hJ⟩ := h
  obtain ⟨lv, c1, p4, ov, oc1, vv, kv, vs1, tq1, hm3, hov, hiv, e4, hoc1, hv1, hs1, hsv, rfl⟩ := hJ
  clear F2 N2
  dsimp only at F3 N3 ⊢
  rw [List.drop_drop]
  have hvl : (bdig 64 (4 * kk) (val 256 ds)).length ≤ 20 := by rw [bdig_length]; omega
  have hvr := fun x hx => bdig_mem (B := 64) (by decide) (4 * kk) (val 256 ds) x hx
  have hval := val_bdig_of_lt (B := 64) (by decide) hV0 hV
  -- 6
  refine execs_split 1 (wpAny_mono (lawD hb B F3 X T hlt C1 C2 C3 C4 e1 e4 hov N3 hs0 hs2 hs3 hs1 hsv hiv hvl hvr hm3) (fun f s' h => ?_) fun _ _ x => x)
  obtain ⟨rfl, m4, news4, h4, tk4, rfl, F4, N4, hJ⟩ := h
  obtain ⟨told, tt, hm4, hmt, hx, rfl⟩ := hJ
  clear F3 N3
  dsimp only at F4 N4 ⊢
  rw [List.drop_drop]
  -- 7
  refine execs_split 1 (wpAny_mono (lawE hb B F4 X T hlt C1 C2 C3 C4 e3 e4 hov rfl N4 hs0 hs2 hs3 hs1 hsv hiv hid hkk hdl hdr rfl hx hm4 hmt) (fun f s' h => ?_) fun _ _ x => x)
  obtain ⟨rfl, m5, news5, h5, tk5, rfl, F5, N5, hm5, rfl⟩ := h
  clear F4 N4
  dsimp only at F5 N5 ⊢
  rw [List.drop_drop]
  -- 8
  refine execs_split 1 (wpAny_mono (lawF hb B F5 X T hlt C1 C2 C3 C4 e2 e4 hov hoc2 hv2 hoc3 hv3 N5 hs0 hs2 hs3 hs1 hsv hiv hvl hvr hval hm5) (fun f s' h => ?_) fun _ _ x => x)
  obtain ⟨rfl, m6, news6, h6, tk6, rfl, F6, N6, hm6, rfl⟩ := h
  clear F5 N5
  dsimp only at F6 N6 ⊢
  rw [List.drop_drop]
  -- 9
  refine execs_split 1 (wpAny_mono (lawG hb B F6 X T hlt C1 C2 C3 C4 e2 e3 e4 hov hoc1 hv1 hoc2 hv2 N6 hs0 hs2 hs3 hs1 hsv hiv hkk rfl hV0 hV hVb hm6) (fun f s' h => ?_) fun _ _ x => x)
  obtain ⟨rfl, m7, news7, h7, tk7, rfl, F7, N7, hm7, rfl⟩ := h
  clear F6 N6
  dsimp only at F7 N7 ⊢
  rw [List.drop_drop]
  -- 10
  refine execs_split 1 (wpAny_mono (lawH hb B F7 X T hlt C1 C2 C3 C4 e2 d5 rfl hoc1 hv1 N7 hs0 hs2 hs3 hs1 hsv hid hkk hdl hV0 hV hVb hm7) (fun f s' h => ?_) fun _ _ x => x)
  obtain ⟨rfl, m8, news8, h8, tk8, rfl, F8, N8, hJ⟩ := h
  obtain ⟨lb, p5, ob, vb, kb, hm8, hob, hib, e5, hsb, rfl⟩ := hJ
  clear F7 N7
  dsimp only at F8 N8 ⊢
  rw [List.drop_drop]
  have hbl : (bdig 2 (24 * kk) (val 256 ds)).length = 8 * (3 * kk) := by rw [bdig_length]; omega
  have hbr := fun x hx => bdig_mem (B := 2) (by decide) (24 * kk) (val 256 ds) x hx
  have hbits := bits_eq hdl hdr
  rw [show 8 * (3 * kk) = 24 * kk by omega] at hbits
  -- 11
  refine execs_split 1 (wpAny_mono (lawI hb B F8 X T hlt C1 C2 C3 C4 e5 rfl hob N8 hid hib (by omega) hdl hbl hbr hbits hm8) (fun f s' h => ?_) fun _ _ x => x)
  obtain ⟨rfl, m9, news9, h9, tk9, rfl, F9, N9, hm9, rfl⟩ := h
  clear F8 N8
  dsimp only at F9 N9 ⊢
  rw [List.drop_drop]
  -- 12
  refine execs_split 1 (wpAny_mono (lawJ (lb := lb) (ob := ob) hb B F9 X T hlt C1 C2 C3 C4 XB TB hoc3 hv3 (News.sub N9 (by k_allIn)) hs0 hs2 hs3 hs1 hsv) (fun f s' h => ?_) fun _ _ x => x)
  obtain ⟨rfl, m10, news10, h10, tk10, rfl, F10, N10, ps, rfl⟩ := h
  exact ⟨rfl, m10, h10, tk10, ps, c1, c2, c3, rfl, F10, N10⟩
end Mine
/-! Law22 -/
namespace Mine
open PySem PySem.W PySem.Spec PySem.Calls PyProof.Rows
theorem lawFin {w : World} {p : Program} {loose : List Str} {mean : ExcName → Option Value} {mg mb : Str → Option Value} {base h₀ : Heap} {L : Addr} {m : Str → Option Value} {s : Shared}
  {name qual : Str} {params : Arguments} {body : List Stmt} {scope : Scope} {dV kV doc pm cdv ct oc : Value} {an od : Option Addr} {osl : Array (Option Value)} (hb : (hd.heap_39 w.params).lookup 191 = some ⟨oc, od, .func (fnOf name qual params body scope dV kV doc pm an cdv ct), osl⟩) {fa : Addr} {cdw : Value}
  (B : Below callerA base [] h₀) (F : Fr h₀ L s.heap m) (X : (hd.heap_39 w.params).In h₀) (T : Top p loose mean mg mb h₀) (hlt : @LT.lt Nat _ 181 L)
  (C1 : CodeHd base 41 37) (C2 : CodeHd base 48 44) (C3 : CodeHd base 166 162) (C4 : CodeHd base 185 181) (XB : Halt ((hd.heap_39 w.params).In base)) (TB : Halt (Top p loose mean mg mb base))
  {o1 o2 o3 o4 o5 : Obj}
  (N : News h₀ L s.heap [(L + 1 + 1 + 1 + 1 + 1, o5), (L + 1 + 1 + 1 + 1, o4), (L + 1 + 1 + 1, o3), (L + 1 + 1, o2), (L + 1, o1), (181, tabObj #[]), (162, tabObj #[]), (44, tabObj #[]), (37, tabObj #[])])
  (d1 : o1.data = .cell none) (d2 : o2.data = .cell none) (d3 : o3.data = .cell none) (d4 : o4.data = .cell none) (d5 : o5.data = .cell none)
  {ls : Addr} {vs : List Value} {ns : List Int} (hm : m (Str.ofString "script") = some (.ref ls)) (hl : h₀.IsList ls vs.toArray) (hi : IntsAre vs ns) (hlen : ns.length ≤ 63)
  {Q : Flow → Shared → Prop} {E : Value → Shared → Prop}
  (k : ∀ m' h' tk' ps c1 c2 c3, Fr h₀ L h' m' → News h₀ L h' [(181, tabObj ps), (162, tabObj #[rawInt 243, rawInt 18, .ref c3]), (44, tabObj #[rawInt 50, rawInt 4, .ref c2]), (37, tabObj #[rawInt 35, rawInt 4, .ref c1])] → Q (.ret (.bool true)) { s with heap := h', toks := tk' }) :
  wpAny (model PySem.Challenge.rw_qh0022_01.row.prog w) (callerA.deeper (envOfC qual scope L fa cdw)) (execs body (envOfC qual scope L fa cdw)) Q E s := by
  refine wpAny_mono (lawAll hb B F X T hlt C1 C2 C3 C4 XB TB d1 d2 d3 d4 d5 N hl hi hlen hm) (fun f s' h => ?_) fun _ _ x => x.elim
  obtain ⟨rfl, m', h', tk', ps, c1, c2, c3, rfl, F2, N2⟩ := h
  exact k m' h' tk' ps c1 c2 c3 F2 N2
end Mine
open PySem PySem.W PySem.Spec PySem.Calls PyProof.Rows
set_option maxRecDepth 100000 in
set_option maxHeartbeats 8000000 in
theorem PySem.Challenge.cw_qh0022_01_holds : PySem.Challenge.rw_qh0022_01.Holds := by
  refine Mine.hd ?_
  k_go0
  all_goals try k_fold
  refine' Mine.lawFin ?hb ?B ?F ?X ?T ?hlt ?C1 ?C2 ?C3 ?C4 ?XB ?TB ?N ?d1 ?d2 ?d3 ?d4 ?d5 ?hm ?hl ?hi ?hlen ?_
  case B => assumption
  case F => assumption
  case N => assumption
  case X => assumption
  case T => assumption
  case hlt => omega
  case C1 => assumption
  case C2 => assumption
  case C3 => assumption
  case C4 => assumption
  case XB => exact ⟨by assumption⟩
  case TB => exact ⟨by assumption⟩
  case d1 => assumption
  case d2 => assumption
  case d3 => assumption
  case d4 => assumption
  case d5 => assumption
  case hm => rfl
  case hl => assumption
  case hi => assumption
  case hlen => omega
  case hb => k_is
  intro m' h' tk' ps c1 c2 c3 F2 N2
  dsimp only
  k_steps
