import PyProof.Rows.All
import Wide.All
import OpenK.AllK
import Wide.FinOn
import PyProof.ToksMono
import KE.KLcPair
import KE.LcSums
import PyProof.StrReplace2
import PyProof.ListNew
import OpenK.KMake
import KE.KSuper
import KE.RegLcTurns
import Lean
import PySem.Challenge.RW_xg0062_01
open PySem PySem.W PyProof.Rows
set_option Elab.async false
namespace Mine
set_option maxRecDepth 100000
set_option maxHeartbeats 8000000
/-- the head at a world from the run behind the opening, its words in the library's quick forms -/
theorem left_by {p q : Program} {loose : List Str} {Xt : Shared → Bool} {α : Type} {Yf : Shared → α} {y : α} {N : Nat} {g0 : Bool} {H₀ : Params → Heap} {gs₀ : Array GenState} {d₀ : Drawn} {k₀ : Nat} {w : World}
    {tt : String → Option Builtin} (e1 : treeTable = tt) {TR : (String → Option Builtin) → Program → World → Nat → Option Value → Nat → Shared → Thread → Option Shared} (e2 : @topRun = TR)
    {OS : Program → List Str → List Str → (Shared → Bool) → Bool → Shared → _} (e3 : @openSeen = OS) {nm : Heap → Addr → Str → Option Value} (e4 : @Heap.nsMap = nm) {im : List Stmt → List Str} (e5 : @importedModules = im)
    (op : (fencedOpening treeTable p w N).map (fun s => (s.heap, s.gens, s.drawn, s.toks)) = some (H₀ w.params, gs₀, d₀, k₀))
    (h : (fun os : OsState => (match (H₀ w.params).isNs mainGlobals && gs₀.size == 0 with
      | true => (TR tt p w (H₀ w.params).objs.size (nm (H₀ w.params) mainGlobals "__annotations__") N ⟨H₀ w.params, gs₀, d₀, k₀, os⟩ (topStub p)).bind fun s₁ => match staticsOk (im p.main.body) (H₀ w.params) s₁.heap && namesBound p s₁.heap && gensDone s₁ && laidKept (H₀ w.params) s₁.heap with
          | true => some (OS q loose (im p.main.body) Xt g0 s₁, Yf s₁)
          | false => none
      | false => none)) = fun _ => some (openGood q loose, y)) : (openEnds treeTable p w N).map (fun s => (openSeen q loose (importedModules p.main.body) Xt g0 s, Yf s)) = some (openGood q loose, y) := by
  subst e1 e2 e3 e4 e5
  obtain ⟨⟨h0, g, d, k, os⟩, a, b⟩ := Option.map_eq_some_iff.mp op
  simp only [Prod.mk.injEq] at b
  obtain ⟨rfl, rfl, rfl, rfl⟩ := b
  have := congrFun h os
  rw [← this]
  unfold openEnds
  rw [a]
  show Option.map _ (topFrom treeTable p w N _) = _
  unfold topFrom
  dsimp only
  cases (H₀ w.params).isNs mainGlobals && g.size == 0 with
  | false => rfl
  | true =>
    dsimp only
    cases topRun treeTable p w (H₀ w.params).objs.size ((H₀ w.params).nsMap mainGlobals "__annotations__") N ⟨H₀ w.params, g, d, k, os⟩ (topStub p) with
    | none => rfl
    | some s₁ =>
      dsimp only [Option.bind_some]
      cases staticsOk (importedModules p.main.body) (H₀ w.params) s₁.heap && namesBound p s₁.heap && gensDone s₁ && laidKept (H₀ w.params) s₁.heap <;> rfl
/-- the law's looks, one kernel check each -/
theorem said0 : Challenge.rw_xg0062_01.wellSaid = true := by
  unfold OpenLaw.wellSaid
  repeat' (with_reducible refine look_both ?_ ?_)
  all_goals (try unfold OpenRow.wellSaid)
  all_goals (repeat' (with_reducible refine look_both ?_ ?_))
  all_goals (try unfold OpenRow.partSaid)
  all_goals (repeat' (with_reducible refine look_both ?_ ?_))
  all_goals (try unfold looksOpen)
  all_goals (repeat' (with_reducible refine look_both ?_ ?_))
  all_goals decide +kernel
theorem and_use {A B C : Prop} (h : A ∧ B) (k : (Unit → A) → (Unit → B) → C) : C := k (fun _ => h.1) fun _ => h.2
section
local macro_rules | `(tactic| refine $f:ident (q := $q) $as*) => `(tactic| (refine' and_use ?hx fun h1 h2 => ?hy; rotate_left 3; refine' $f (q := $q) $as*; (case hl => exact h1 ()); (case hc => exact h2 ())))
local macro_rules | `(tactic| o_law) => `(tactic| refine' holds_law said0 fun _ => ?_)
open_top hd for PySem.Challenge.rw_xg0062_01
end
noncomputable abbrev PRG : Program := Challenge.rw_xg0062_01.row.prog
noncomputable abbrev LSE : List Str := [Str.ofString "_Accumulator", Str.ofString "Whitespace"]
noncomputable abbrev XT : Shared → Bool := fun s => xlAt hd.view_1 [] s && recOk Challenge.rw_xg0062_01.row.records s
noncomputable def RunAt (w : World) : Prop :=
  (fun os : OsState => (match (boot_heap w.params).isNs mainGlobals && (Array.mk ([] : List GenState)).size == 0 with
      | true => (PySem.W.Fast.tw14082659384304107361 PySem.W.Fast.tw14364793385576792824 PRG w (boot_heap w.params).objs.size (PySem.W.Fast.tw8920871248978507458 (boot_heap w.params) mainGlobals "__annotations__") 3092 ⟨boot_heap w.params, Array.mk [], boot_drawn, boot_toks, os⟩ (topStub PRG)).bind fun s₁ => match staticsOk (PySem.W.Fast.tw5923862056798008813 PRG.main.body) (boot_heap w.params) s₁.heap && namesBound PRG s₁.heap && gensDone s₁ && laidKept (boot_heap w.params) s₁.heap with
          | true => some (PySem.W.Fast.tw4187177175401517315 hd.view_1 LSE (PySem.W.Fast.tw5923862056798008813 PRG.main.body) XT true s₁, ((hd.heap_1 w.params).map (·.1)).map s₁.heap.get?)
          | false => none
      | false => none)) = fun _ => some (openGood hd.view_1 LSE, (hd.heap_1 w.params).map fun p => some p.2)
theorem run1 (w : World) : RunAt (w.withFollow "special-get-raises" false) := by
  delta RunAt
  kernel_rfl
theorem run2 (w : World) : RunAt (w.withFollow "special-get-raises" true) := by
  delta RunAt
  kernel_rfl
theorem boot0 (w : World) : (fencedOpening treeTable PRG w 3092).map (fun s => (s.heap, s.gens, s.drawn, s.toks)) = some (boot_heap w.params, Array.mk [], boot_drawn, boot_toks) :=
  boot_open (by kernel_rfl) (by kernel_rfl) (fun _ => by kernel_rfl) w
theorem left_at (w : World) : (openEnds treeTable PRG w 3092).map (fun s => (openSeen hd.view_1 LSE (importedModules PRG.main.body) XT true s, ((hd.heap_1 w.params).map (·.1)).map s.heap.get?)) = some (openGood hd.view_1 LSE, (hd.heap_1 w.params).map fun p => some p.2) :=
  left_by PySem.W.Fast.te14364793385576792824 PySem.W.Fast.te14082659384304107361 PySem.W.Fast.te4187177175401517315 PySem.W.Fast.te8920871248978507458 PySem.W.Fast.te5923862056798008813 (boot0 w) (byRow2 "special-get-raises" (P := RunAt) run1 run2 w)
theorem left {as : List Addr} {h : ∀ P, as = (hd.heap_1 P).map (·.1)} : LeftO PRG hd.view_1 LSE XT (kHook hd.heap_1 as h).obs (kHook hd.heap_1 as h).val 3092 := fun w => by
  have e := left_at w
  rw [← h w.params] at e
  exact e
open PySem.Spec PySem.Calls
local macro_rules | `(tactic| k_all) => `(tactic| k_extra "k_all")
local macro_rules | `(tactic| k_inst) => `(tactic| k_extra "k_inst")
local macro_rules | `(tactic| k_mem) => `(tactic| k_extra "k_mem")
local macro_rules | `(tactic| k_room) => `(tactic| k_extra "k_room")
local macro_rules | `(tactic| k_units) => `(tactic| k_extra "k_units")
local macro_rules | `(tactic| size_fits) => `(tactic| k_extra "size_fits")
local macro_rules | `(tactic| l_idx) => `(tactic| k_extra "l_idx")
local macro_rules | `(tactic| mul_fits) => `(tactic| k_extra "mul_fits")
local macro_rules | `(tactic| lsm_bools) => `(tactic| k_extra "lsm_bools")
local macro_rules | `(tactic| walk_at $s:str) => `(tactic| k_extra $s)
theorem room2 {x y c j M r : Nat} (h : x + M < r) (e : y = x + j) (k : Nat.ble (j + c) M = true) : y + c < r := by
  subst e
  exact Nat.lt_of_le_of_lt (by rw [Nat.add_assoc]; exact Nat.add_le_add_left (Nat.le_of_ble_eq_true k) x) h
theorem room0 {x y j M r : Nat} (h : x + M < r) (e : y = x + j) (k : Nat.ble j M = true) : y < r := Nat.lt_of_le_of_lt (by rw [e]; exact Nat.add_le_add_left (Nat.le_of_ble_eq_true k) x) h
set_option maxRecDepth 100000
/-- the new objects of a call, seen from ahead of it -/
noncomputable def NewTo (h h' : Heap) (tl : List (Addr × Obj)) : Prop := ∀ p ∈ tl, h'.get? p.1 = some p.2 ∧ h.get? p.1 = none
/-- what a def leaves that changes nothing of what it is handed (n0): its own new objects tl, and what it gives back -/
noncomputable def LeaveP (g : Heap) (n0 : List (Addr × Obj)) (Out : Value → List (Addr × Obj) → Prop) (s : Shared) (v : Value) (s' : Shared) : Prop :=
  ∃ L' m' all tl h' tk', s' = { s with heap := h', toks := tk' } ∧ Fr g L' h' m' ∧ News g L' h' all ∧ (∀ p ∈ n0, p ∈ all) ∧ (∀ p ∈ tl, p ∈ all ∧ ∀ q ∈ n0, q.1 ≠ p.1) ∧ Out v tl
theorem leaveP_ {g : Heap} {n0 : List (Addr × Obj)} {Out : Value → List (Addr × Obj) → Prop} {s : Shared} {v : Value} {L' : Addr} {m' : Str → Option Value} {all : List (Addr × Obj)} {h' : Heap} {tk' : Nat}
    (F : Fr g L' h' m') (N : News g L' h' all) (tl : List (Addr × Obj)) (k : ∀ p ∈ n0, p ∈ all) (j : ∀ p ∈ tl, p ∈ all ∧ ∀ q ∈ n0, q.1 ≠ p.1) (o : Out v tl) : LeaveP g n0 Out s v { s with heap := h', toks := tk' } := ⟨L', m', all, tl, h', tk', rfl, F, N, k, j, o⟩
noncomputable abbrev PureAt (prog : Program) (w : World) (A : Around) (h₀ : Heap) (L : Addr) (m : Str → Option Value) (s : Shared) (f : Addr) (vs : List Value) (Out : Value → List (Addr × Obj) → Prop) : Prop :=
  wpAny (model prog w) A (call (.ref f) vs) (fun r s' => ∃ tl h' tk', s' = { s with heap := h', toks := tk' } ∧ Out r tl ∧ Fr h₀ L h' m ∧ s.heap.StaysIn h' ∧ NewTo s.heap h' tl) (fun _ _ => False) s
theorem hideAll_ne : ∀ (l : List Addr) {h : Heap} {b : Addr}, b ∉ l → (hideAll h l).get? b = h.get? b
  | [], _, _, _ => rfl
  | a :: r, h, b, n => (hideAll_ne r (h := h.hide a) fun q => n (.tail _ q)).trans (Heap.hide_ne h fun (q : b = a) => n (by rw [q]; exact .head _))
section
variable {prog : Program} {w : World} {A A₀ : Around} {s : Shared} {K : Frag} {L : Addr} {h₀ base : Heap} {m mg mb : Str → Option Value} {p : Program} {loose : List Str} {mean : ExcName → Option Value}
theorem pure_code {env : Env} {outer : List Env} {name qual : Str} {params : Arguments} {body : List Stmt} {scope : Scope} {dV kV doc pm cdv ct oc : Value} {an od : Option Addr} {osl : Array (Option Value)} {f : Addr} {vs : List Value} {binds : List (Str × Value)} {Out : Value → List (Addr × Obj) → Prop} {n0 : List (Addr × Obj)}
    (B : Below A₀ base outer h₀) (F : Fr h₀ L s.heap m) (X₀ : K.In h₀) (T : Top p loose mean mg mb h₀) (N : News h₀ L s.heap n0) (hA : A.frames = some (env :: outer)) (hf : env.frame = some L) (hke : env.scope.kind = .function)
    (ho : K.lookup f = some ⟨oc, od, .func (fnOf name qual params body scope dV kV doc pm an cdv ct), osl⟩) (hcd : codeIn K cdv qual = true) (hroom : A.depth < recursionLimit)
    (hbind : BindsTo s (fnOf name qual params body scope dV kV doc pm an cdv ct) ⟨vs, []⟩ binds) (hloc : ∀ y ∈ binds, scope.names.lookup y.1 = some .local)
    (h : ∀ g L' h₁, Fr g L' h₁ (fun y => binds.reverse.lookup y) → News g L' h₁ n0 → Below A base (env :: outer) g → K.In g → Top p loose mean mg mb g →
      wpAny (model prog w) (A.deeper (envOf qual scope L' f cdv)) (execs body (envOf qual scope L' f cdv))
        (fun fl s' => LeaveP g n0 Out s (match fl with | .ret v => v | _ => .none) s')
        (fun _ _ => False)
        { s with heap := h₁, toks := s.toks + binds.length })
    (hco : scope.isCoroutine = false) (hgen : scope.isGenerator = false) (hk : scope.kind = .function)
    (hcell : ∀ x ∈ scope.names, x.2 ≠ .cell) : PureAt prog w A h₀ L m s f vs Out := by
  refine wpAny_call ?_
  obtain ⟨FG, BG, st, _⟩ := groundX (R := fun _ _ => True) B F N hA hf hke
  refine codeAny_call_def (fd := fnOf name qual params body scope dV kV doc pm an cdv ct) (body := body) (binds := binds) hroom ((X₀.keeps F.keep) _ _ ho) rfl (T.nolimit.keeps F.keep) (codeRec_of (X₀.keeps F.keep) hcd) rfl hbind hcell hloc (fun h₁ hns hk₁ => ?_) hco hgen hk
  refine wpAny_mono (h _ s.heap.objs.size h₁ ⟨hns, fun b o e => hk₁ b o (of_hideAll _ e), Nat.le_of_eq (hideAll_size _ _)⟩
    (fun p hp => ⟨hk₁ _ _ (N p hp).1, Nat.ne_of_lt (Heap.lt_size (N p hp).1), hideAll_none _ (List.mem_map_of_mem hp)⟩) BG (X₀.keeps st) (T.keeps st)) (fun fl s' hl => ?_) (fun _ _ x => x.elim)
  obtain ⟨L', m', all, tl, h', tk', rfl, F', N', k, j, o⟩ := hl
  have stay : s.heap.StaysIn h' := fun b ob e => by
    by_cases hb : b ∈ n0.map (·.1)
    · obtain ⟨q, hq, rfl⟩ := List.mem_map.mp hb
      have e1 := (N q hq).1
      rw [e] at e1
      rw [Option.some.inj e1]
      exact (N' q (k q hq)).1
    · exact F'.keep b ob (hideAll_get _ e hb)
  refine ⟨tl, h', tk', rfl, o, ?_, stay, fun p hp => ⟨(N' p (j p hp).1).1, ?_⟩⟩
  · obtain ⟨oL, es, ep, hL, hLd, hLk, hLf⟩ := F.ns
    exact ⟨⟨oL, es, ep, stay L oL hL, hLd, hLk, hLf⟩, fun b o e => stay b o (F.keep b o e), F.above⟩
  · have e1 := (N' p (j p hp).1).2.2
    rwa [hideAll_ne _ fun q => ?_] at e1
    obtain ⟨q', hq', e'⟩ := List.mem_map.mp q
    exact (j p hp).2 q' hq' e'
end
theorem pure_useI {prog : Program} {w : World} {A : Around} {h₀ : Heap} {L : Addr} {m : Str → Option Value} {s : Shared} {f : Addr} {vs : List Value} {x : Int} {news : List (Addr × Obj)} {Q E : Value → Shared → Prop}
    (C : PureAt prog w A h₀ L m s f vs (fun r tl => tl = [] ∧ ∃ t, r = .int x t)) (N : News h₀ L s.heap news)
    (h : ∀ t h' tk', Fr h₀ L h' m → News h₀ L h' news → Q (.int x t) { s with heap := h', toks := tk' }) : wpAny (model prog w) A (call (.ref f) vs) Q E s := by
  refine wpAny_mono C (fun r s' hr => ?_) (fun _ _ x => x.elim)
  obtain ⟨tl, h', tk', rfl, ⟨rfl, t, rfl⟩, F', st, _⟩ := hr
  exact h t h' tk' F' fun p hp => ⟨st _ _ (N p hp).1, (N p hp).2.1, (N p hp).2.2⟩
theorem pure_useB {prog : Program} {w : World} {A : Around} {h₀ : Heap} {L : Addr} {m : Str → Option Value} {s : Shared} {f : Addr} {vs : List Value} {x : Bool} {news : List (Addr × Obj)} {Q E : Value → Shared → Prop}
    (C : PureAt prog w A h₀ L m s f vs (fun r tl => tl = [] ∧ r = .bool x)) (N : News h₀ L s.heap news)
    (h : ∀ h' tk', Fr h₀ L h' m → News h₀ L h' news → Q (.bool x) { s with heap := h', toks := tk' }) : wpAny (model prog w) A (call (.ref f) vs) Q E s := by
  refine wpAny_mono C (fun r s' hr => ?_) (fun _ _ x => x.elim)
  obtain ⟨tl, h', tk', rfl, ⟨rfl, rfl⟩, F', st, _⟩ := hr
  exact h h' tk' F' fun p hp => ⟨st _ _ (N p hp).1, (N p hp).2.1, (N p hp).2.2⟩
theorem pure_use {prog : Program} {w : World} {A : Around} {h₀ : Heap} {L : Addr} {m : Str → Option Value} {s : Shared} {f : Addr} {vs : List Value} {Out : Value → List (Addr × Obj) → Prop} {news : List (Addr × Obj)} {Q E : Value → Shared → Prop}
    (C : PureAt prog w A h₀ L m s f vs Out) (F : Fr h₀ L s.heap m) (N : News h₀ L s.heap news)
    (h : ∀ r tl h' tk', Out r tl → Fr h₀ L h' m → News h₀ L h' (tl ++ news) → (∀ p ∈ tl, ∀ q ∈ news, p.1 ≠ q.1) → Q r { s with heap := h', toks := tk' }) : wpAny (model prog w) A (call (.ref f) vs) Q E s := by
  refine wpAny_mono C (fun r s' hr => ?_) (fun _ _ x => x.elim)
  obtain ⟨tl, h', tk', rfl, o, F', st, nt⟩ := hr
  obtain ⟨oL, es, ep, hL, _⟩ := F.ns
  refine h r tl h' tk' o F' (fun p hp => ?_) fun p hp q hq e => ?_
  · rcases List.mem_append.mp hp with hp | hp
    · refine ⟨(nt p hp).1, fun e => ?_, ?_⟩
      · have := (nt p hp).2; rw [e, hL] at this; cases this
      · cases q : h₀.get? p.1 with
        | none => rfl
        | some o => have := (nt p hp).2; rw [F.keep _ _ q] at this; cases this
    · exact ⟨st _ _ (N p hp).1, (N p hp).2.1, (N p hp).2.2⟩
  · have := (nt p hp).2; rw [e, (N q hq).1] at this; cases this
/-- a goal that the walk is to leave alone -/
structure Stop (P : Prop) : Prop where
  out : P
theorem stop_ {P : Prop} (h : Stop P) : P := h.out
theorem sub_nil {α : Type} {l : List α} : ∀ p ∈ ([] : List α), p ∈ l := fun _ h => nomatch h
theorem new_nil {all n0 : List (Addr × Obj)} : ∀ p ∈ ([] : List (Addr × Obj)), p ∈ all ∧ ∀ q ∈ n0, q.1 ≠ p.1 := fun _ h => nomatch h
set_option maxRecDepth 100000
section
variable {prog : Program} {w : World} {A : Around} {E : Value → Shared → Prop} {env : Env} {h₀ : Heap} {target : Expr} {body : List Stmt} {Q : Flow → Shared → Prop}
/-- the end of a turn of m_loop -/
noncomputable def TEndN {σ : Type} (h₀ : Heap) (L : Addr) (s : Shared) (Led : σ → List (Addr × Obj)) (ps : σ → List (Str × Value)) (Facts : σ → Prop) (stored : List Str) (m₀ : Str → Option Value) (P : σ → Prop) (own : List (Addr × Obj)) (s₂ : Shared) : Prop :=
  ∃ (c' : σ) (h' : Heap) (tk : Nat) (m' : Str → Option Value) (news' : List (Addr × Obj)), s₂ = { s with heap := h', toks := tk } ∧ Fr h₀ L h' m' ∧ News h₀ L h' news' ∧ (∀ p ∈ Led c', p ∈ news') ∧ (∀ p ∈ own, p ∈ news') ∧ (∀ q ∈ Led c', ∀ p ∈ own, p.1 ≠ q.1) ∧ Facts c' ∧ (∀ p ∈ ps c', m' p.1 = some p.2) ∧ (∀ z, (∀ p ∈ ps c', z ≠ p.1) → stored.contains z = false → m' z = m₀ z) ∧ P c'
noncomputable def TEnd {σ : Type} (h₀ : Heap) (L : Addr) (s : Shared) (Led : σ → List (Addr × Obj)) (ps : σ → List (Str × Value)) (Facts : σ → Prop) (stored : List Str) (m₀ : Str → Option Value) (P : σ → Prop) (own : List (Addr × Obj)) (Q : Flow → Shared → Prop) (f : Flow) (s₂ : Shared) : Prop :=
  match f with
  | .ret v => Q (.ret v) s₂
  | .brk => Q .next s₂
  | _ => TEndN h₀ L s Led ps Facts stored m₀ P own s₂
theorem tend_ {σ : Type} {L : Addr} {s : Shared} {Led : σ → List (Addr × Obj)} {ps : σ → List (Str × Value)} {Facts : σ → Prop} {stored : List Str} {m₀ m' : Str → Option Value} {P : σ → Prop} {own news' : List (Addr × Obj)} {h' : Heap} {tk : Nat} (c' : σ)
    (F : Fr h₀ L h' m') (N : News h₀ L h' news') (hn : ∀ p ∈ Led c', p ∈ news') (ho : ∀ p ∈ own, p ∈ news') (hd : ∀ q ∈ Led c', ∀ p ∈ own, p.1 ≠ q.1) (hf : Facts c') (hk : ∀ p ∈ ps c', m' p.1 = some p.2) (hr : ∀ z, (∀ p ∈ ps c', z ≠ p.1) → stored.contains z = false → m' z = m₀ z) (hp : P c') :
    TEndN h₀ L s Led ps Facts stored m₀ P own { s with heap := h', toks := tk } := ⟨c', h', tk, m', news', rfl, F, N, hn, ho, hd, hf, hk, hr, hp⟩
theorem m_loop {s₂ : Shared} {I : Addr} {fp wr : List Addr} {n : Nat} {It Md : Nat → Value → Heap → Prop} {St : Nat → Heap → Prop} {σ : Type} (Led : σ → List (Addr × Obj)) (ps : σ → List (Str × Value)) (Facts : σ → Prop) (stored : List Str) (P : Nat → σ → Prop) (c₀ : σ) (keep : List (Addr × Obj)) {m₀ : Str → Option Value}
    (W : KTurns prog w A target I fp wr n It Md St) (hal : ∀ i h, St i h → ∀ b ∈ fp, ∃ o, h.get? b = some o) (hL : env.locals ∉ fp) (hwr : ∀ b ∈ wr, h₀.get? b = none) (hst : St 0 s₂.heap)
    (hkw : ∀ p ∈ keep, p.1 ∉ wr) (hk : ∀ c, ∀ p ∈ keep, p ∈ Led c) (h0 : ∀ q ∈ Led c₀, q.1 ∈ fp → q ∈ keep)
    (F : Fr h₀ env.locals s₂.heap m₀) (N : News h₀ env.locals s₂.heap (Led c₀)) (hf : Facts c₀) (hps : ∀ p ∈ ps c₀, m₀ p.1 = some p.2) (hp : P 0 c₀)
    (turn : ∀ (c : σ) i v (u : Str → Option Value) h tk own, i < n → It i v h → (∀ p ∈ own, p.1 ∈ fp) → (∀ q ∈ Led c, ∀ p ∈ own, p.1 ≠ q.1) → Facts c → P i c →
      Fr h₀ env.locals h (kstB (fun z => if stored.contains z then u z else m₀ z) (ps c)) → News h₀ env.locals h (Led c ++ own) →
      wpAny (model prog w) A (assign target env v) (fun _ s₃ => wpAny (model prog w) A (execs body env) (TEnd h₀ env.locals { s₂ with heap := h, toks := tk } Led ps Facts stored m₀ (P (i + 1)) own Q) E s₃) E { s₂ with heap := h, toks := tk })
    (done : ∀ (c : σ) (u : Str → Option Value) h tk, Facts c → P n c → Fr h₀ env.locals h (kstB (fun z => if stored.contains z then u z else m₀ z) (ps c)) → News h₀ env.locals h (Led c) → Q .next { s₂ with heap := h, toks := tk }) :
    TurnsAt prog w A h₀ env target body Q E (.ref I) s₂ := by
  have sub := W.sub
  refine ⟨I, fp, wr, n, It, Md, St, m₀, Led c₀, fun i m news => ∃ c, news = Led c ∧ Facts c ∧ (∀ p ∈ ps c, m p.1 = some p.2) ∧ (∀ z, (∀ p ∈ ps c, z ≠ p.1) → stored.contains z = false → m z = m₀ z) ∧ P i c ∧ (∀ q ∈ Led c, q.1 ∈ fp → q ∈ keep),
    rfl, W, hL, hwr, fun q hq hw => hkw q (h0 q hq (sub _ hw)) hw, hst, F, N, ⟨c₀, rfl, hf, hps, fun _ _ _ => rfl, hp, h0⟩, ?_, ?_⟩
  · rintro i v m₁ news₁ h₁ tk₁ own hi hIt ⟨c, rfl, hf', h1, h2, hp', hq'⟩ _ hown hget hall hst₁ F₁ N₁
    have N₂ : News h₀ env.locals h₁ (Led c ++ own.filter fun p => !(keep.map (·.1)).contains p.1) := fun p hp => by
      rcases List.mem_append.mp hp with hp | hp
      · exact N₁ p (List.mem_append_right _ hp)
      · exact N₁ p (List.mem_append_left _ (List.mem_filter.mp hp).1)
    have hd : ∀ q ∈ Led c, ∀ p ∈ own.filter fun p => !(keep.map (·.1)).contains p.1, p.1 ≠ q.1 := fun q hq p hp e => by
      have h3 := (List.mem_filter.mp hp).2
      have h4 : q ∈ keep := hq' q hq (e ▸ hown p (List.mem_filter.mp hp).1)
      simp only [Bool.not_eq_true'] at h3
      have h5 : (keep.map (·.1)).contains p.1 = true := List.contains_iff_mem.mpr (List.mem_map.mpr ⟨q, h4, e.symm⟩)
      rw [h5] at h3
      cases h3
    refine wpAny_mono (turn c i v m₁ h₁ tk₁ _ hi hIt (fun p hp => hown p (List.mem_filter.mp hp).1) hd hf' hp' (ksw_fr h1 h2 F₁) N₂) (fun _ s₃ hs => wpAny_mono hs (fun f s₄ h₄ => ?_) fun _ _ e => e) fun _ _ e => e
    have fin : TEndN h₀ env.locals { s₂ with heap := h₁, toks := tk₁ } Led ps Facts stored m₀ (P (i + 1)) (own.filter fun p => !(keep.map (·.1)).contains p.1) s₄ → LoopStepU h₀ env.locals wr own (fun m news => ∃ c, news = Led c ∧ Facts c ∧ (∀ p ∈ ps c, m p.1 = some p.2) ∧ (∀ z, (∀ p ∈ ps c, z ≠ p.1) → stored.contains z = false → m z = m₀ z) ∧ P (i + 1) c ∧ (∀ q ∈ Led c, q.1 ∈ fp → q ∈ keep)) { s₂ with heap := h₁, toks := tk₁ } .next s₄ := by
      rintro ⟨c', h', tk, m', news', rfl, F', N', hn, ho, hd', hf9, hk9, hr9, hp9⟩
      have hq9 : ∀ q ∈ Led c', q.1 ∈ fp → q ∈ keep := fun q hq hqf => by
        by_cases hkq : q.1 ∈ keep.map (·.1)
        · obtain ⟨q2, hq2, e2⟩ := List.mem_map.mp hkq
          have g1 := (N' q (hn q hq)).1
          have g2 := (N' q2 (hn q2 (hk c' q2 hq2))).1
          rw [e2, g1] at g2
          have : q = q2 := Prod.ext e2.symm (Option.some.inj g2)
          exact this ▸ hq2
        · obtain ⟨o, ho'⟩ := hal _ _ hst₁ q.1 hqf
          have h6 := hall q.1 hqf (N' q (hn q hq)).2.2 o ho'
          refine absurd rfl (hd' q hq (q.1, o) (List.mem_filter.mpr ⟨h6, ?_⟩))
          simp only [Bool.not_eq_true']
          cases hc : (keep.map (·.1)).contains q.1 with
          | false => rfl
          | true => exact absurd (List.contains_iff_mem.mp hc) hkq
      refine ⟨rfl, h', tk, m', Led c', rfl, F', fun p hp => ?_, fun q hq hw => hkw q (hq9 q hq (sub _ hw)) hw, c', rfl, hf9, hk9, hr9, hp9, hq9⟩
      rcases List.mem_append.mp hp with hp | hp
      · by_cases hkp : p.1 ∈ keep.map (·.1)
        · obtain ⟨q2, hq2, e2⟩ := List.mem_map.mp hkp
          have g1 := hget p hp
          have g2 := (N₁ q2 (List.mem_append_right _ (hk c q2 hq2))).1
          rw [e2, g1] at g2
          have : p = q2 := Prod.ext e2.symm (Option.some.inj g2)
          exact N' p (hn p (this ▸ hk c' q2 hq2))
        · refine N' p (ho p (List.mem_filter.mpr ⟨hp, ?_⟩))
          simp only [Bool.not_eq_true']
          cases hc : (keep.map (·.1)).contains p.1 with
          | false => rfl
          | true => exact absurd (List.contains_iff_mem.mp hc) hkp
      · exact N' p (hn p hp)
    cases f with
    | ret v => exact .ret h₄
    | brk => exact .brk h₄
    | next => exact .next (fin h₄)
    | cont => exact .cont (fin h₄)
  · rintro h' tk m' news' F' N' _ ⟨c, rfl, hf', h1, h2, hp', _⟩
    exact done c m' h' tk hf' hp' (ksw_fr h1 h2 F') N'
theorem next_new {L b : Addr} {h : Heap} {m : Str → Option Value} (F : Fr h₀ L h m) (hb : h.objs.size ≤ b) : h₀.get? b = none := by
  cases e : h₀.get? b with
  | none => rfl
  | some o => exact absurd (Heap.lt_size (F.keep _ _ e)) (Nat.not_lt.mpr hb)
/-- a for over a text's signs -/
theorem m_str {s : Shared} {x : Str} {t : Tok} {y : Str} {py : Pos} {σ : Type} (Led : σ → List (Addr × Obj)) (ps : σ → List (Str × Value)) (Facts : σ → Prop) (stored : List Str) (P : Nat → σ → Prop) (c₀ : σ) {m₀ : Str → Option Value}
    (ha : x.cps.all (· < 128) = true) (hh : A.handled = none)
    (F : Fr h₀ env.locals s.heap m₀) (N : News h₀ env.locals s.heap (Led c₀)) (hf : Facts c₀) (hps : ∀ p ∈ ps c₀, m₀ p.1 = some p.2) (hp : P 0 c₀)
    (turn : ∀ (c : σ) i ch tv (u : Str → Option Value) h tk own, x.cps[i]? = some ch → (∀ q ∈ Led c, ∀ p ∈ own, p.1 ≠ q.1) → Facts c → P i c →
      Fr h₀ env.locals h (kstB (fun z => if stored.contains z then u z else m₀ z) (ps c)) → News h₀ env.locals h (Led c ++ own) →
      wpAny (model prog w) A (assign (.Name y py) env (.str ⟨#[ch]⟩ tv)) (fun _ s₃ => wpAny (model prog w) A (execs body env) (TEnd h₀ env.locals { s with heap := h, toks := tk } Led ps Facts stored m₀ (P (i + 1)) own Q) E s₃) E { s with heap := h, toks := tk })
    (done : ∀ (c : σ) (u : Str → Option Value) h tk, Facts c → P x.cps.size c → Fr h₀ env.locals h (kstB (fun z => if stored.contains z then u z else m₀ z) (ps c)) → News h₀ env.locals h (Led c) → Q .next { s with heap := h, toks := tk }) :
    wpAny (model prog w) A (pyIter (.str x t)) (fun it s₂ => TurnsAt prog w A h₀ env (.Name y py) body Q E it s₂) E s := by
  have hS : ∀ a : Addr, a < s.heap.objs.size → a ≠ s.heap.objs.size := fun a h => Nat.ne_of_lt h
  refine wpAny_pyIter_ascii ha ?_
  refine m_loop Led ps Facts stored P c₀ [] (KTurns.ofWalks (Walks.strAscii hh s.heap.objs.size x t) fun i v s Q E st q => ?_) (fun i h st b hb => ?_) (fun hm => ?_) (fun b hb => ?_) ⟨_, Heap.get?_push_size _ rfl, rfl, rfl⟩ (fun p hp => nomatch hp) (fun c p hp => nomatch hp) (fun q hq hm => ?_) (F.push _) (fun p hp => ⟨Heap.get?_push_of_some _ (N p hp).1, (N p hp).2⟩) hf hps hp (fun c i v u h tk own hi hIt hown hd hf' hp' F' N' => ?_) done
  · exact wpAny_pure q
  · obtain ⟨o, ho, _⟩ := st
    rw [List.mem_singleton.mp hb]
    exact ⟨o, ho⟩
  · exact absurd F.ns.lt (by rw [List.mem_singleton.mp hm]; exact Nat.lt_irrefl _)
  · rw [List.mem_singleton.mp hb]
    exact next_new F (Nat.le_refl _)
  · exact absurd (Heap.lt_size (N q hq).1) (by rw [List.mem_singleton.mp hm]; exact Nat.lt_irrefl _)
  · obtain ⟨ch, tv, e, rfl⟩ := hIt
    exact turn c i ch tv u h tk own e hd hf' hp' F' N'
end
set_option maxRecDepth 100000
section
variable {prog : Program} {w : World} {A : Around} {E : Value → Shared → Prop} {s : Shared} {env : Env} {h₀ : Heap} {target : Expr} {body orelse : List Stmt} {Q : Flow → Shared → Prop}
/-- a for that always leaves by return or break: what stands behind its else is not reached -/
theorem leaving_loop {R : Result → Shared → Prop} {I : Addr} {fp wr : List Addr} {n : Nat} {It Md : Nat → Value → Heap → Prop} {St : Nat → Heap → Prop} {m : Str → Option Value} {news : List (Addr × Obj)} (W : KTurns prog w A target I fp wr n It Md St)
    (hL : env.locals ∉ fp) (hwr : ∀ b ∈ wr, h₀.get? b = none) (hnw : ∀ p ∈ news, p.1 ∉ wr) (hst : St 0 s.heap) (F : Fr h₀ env.locals s.heap m) (N : News h₀ env.locals s.heap news)
    (J : Nat → (Str → Option Value) → Prop) (h0 : J 0 m)
    (step : ∀ i v m₁ h₁ tk₁, i < n → It i v h₁ → J i m₁ → St (i + 1) h₁ → Fr h₀ env.locals h₁ m₁ → News h₀ env.locals h₁ news →
      wpAny (model prog w) A (assign target env v) (fun _ s₂ => wpAny (model prog w) A (execs body env)
        (fun f s₃ => match f with
          | .ret v => R (.ok (.ret v)) s₃
          | .brk => R (.ok .next) s₃
          | _ => ∃ h' tk m', s₃ = { s with heap := h', toks := tk } ∧ Fr h₀ env.locals h' m' ∧ News h₀ env.locals h' news ∧ J (i + 1) m' ∧ (∀ b ∈ fp, ∀ o, h₁.get? b = some o → h'.get? b = some o)) (notedBy (model prog w) A env fun e s' => R (.error e) s') s₂) (notedBy (model prog w) A env fun e s' => R (.error e) s') { s with heap := h₁, toks := tk₁ })
    (no : ∀ m', J n m' → False) : codeAny (model prog w) A (.forLoop target (.ref I) body orelse env) R s := by
  have hLw : env.locals ∉ wr := fun h => hL (W.sub _ h)
  have old : ∀ b o, h₀.get? b = some o → b ∉ wr := fun b o e hb => by rw [hwr b hb] at e; cases e
  refine codeAny_forLoop_any (fun k s' => ∃ h' tk m' i, s' = { s with heap := h', toks := tk } ∧ St i h' ∧ Fr h₀ env.locals h' m' ∧ News h₀ env.locals h' news ∧ J i m' ∧ i ≤ n ∧ k = n - i) ?_ n
    ⟨s.heap, s.toks, m, 0, rfl, hst, F, N, h0, Nat.zero_le _, rfl⟩
  rintro k s' ⟨h', tk, m', i, rfl, hst', F', N', hJ, hi, rfl⟩
  have lt : i < n := by
    rcases Nat.lt_or_ge i n with h | h
    · exact h
    · have : i = n := Nat.le_antisymm hi h
      subst this
      exact (no m' hJ).elim
  have keep : ∀ h₁ : Heap, (∀ b o, b ∉ wr → h'.get? b = some o → h₁.get? b = some o) → Fr h₀ env.locals h₁ m' ∧ News h₀ env.locals h₁ news := fun h₁ hk =>
    ⟨⟨F'.ns.at' fun o e => hk _ o hLw e, fun b o e => hk b o (old b o e) (F'.keep b o e), F'.above⟩, fun p hp => ⟨hk _ _ (hnw p hp) (N' p hp).1, (N' p hp).2⟩⟩
  refine W.item i _ _ _ lt hst' fun v h₁ tk₁ hMd hk₁ => ?_
  refine W.go i v _ _ _ hMd fun h₂ hP hst₂ hk₂ => ?_
  obtain ⟨F₂, N₂⟩ := keep h₂ fun b o hb x => hk₂ b o hb (hk₁ b o hb x)
  refine wpAny_mono (step i v m' h₂ tk₁ lt hP hJ hst₂ F₂ N₂) (fun _ s₂ g => wpAny_mono g (fun f s₃ g₃ => ?_) fun _ _ e => e) fun _ _ e => e
  cases f with
  | ret v => exact g₃
  | brk => exact g₃
  | cont =>
    obtain ⟨h₃, tk₃, m₃, rfl, F₃, N₃, J₃, keep₃⟩ := g₃
    exact ⟨n - (i + 1), by omega, h₃, tk₃, m₃, i + 1, rfl, W.frame _ _ _ hst₂ keep₃, F₃, N₃, J₃, lt, rfl⟩
  | next =>
    obtain ⟨h₃, tk₃, m₃, rfl, F₃, N₃, J₃, keep₃⟩ := g₃
    exact ⟨n - (i + 1), by omega, h₃, tk₃, m₃, i + 1, rfl, W.frame _ _ _ hst₂ keep₃, F₃, N₃, J₃, lt, rfl⟩
/-- for i, j in enumerate(text): ..., leaving always, whatever its else says -/
theorem enum_str {elts : List Expr} {k : Nat} {pos : Pos} {x : Str} {t : Tok} {R : Result → Shared → Prop} {m : Str → Option Value} {news : List (Addr × Obj)}
    (ha : strIterType x = "str_ascii_iterator") (hh : A.handled = none) (F : Fr h₀ env.locals s.heap m) (N : News h₀ env.locals s.heap news)
    (J : Nat → (Str → Option Value) → Prop) (h0 : J 0 m)
    (step : ∀ (i : Nat) T ch u v m₁ h₁ tk₁ (fp : List Addr), x.cps[i]? = some ch → IsTup h₁ T #[.int i u, .str ⟨#[ch]⟩ v] → J i m₁ → Fr h₀ env.locals h₁ m₁ → News h₀ env.locals h₁ news →
      wpAny (model prog w) A (assign (.Tuple elts k pos) env (.ref T)) (fun _ s₂ => wpAny (model prog w) A (execs body env)
        (fun f s₃ => match f with
          | .ret v => R (.ok (.ret v)) s₃
          | .brk => R (.ok .next) s₃
          | _ => ∃ h' tk m', s₃ = { s with heap := h', toks := tk } ∧ Fr h₀ env.locals h' m' ∧ News h₀ env.locals h' news ∧ J (i + 1) m' ∧ (∀ b ∈ fp, ∀ o, h₁.get? b = some o → h'.get? b = some o)) (notedBy (model prog w) A env fun e s' => R (.error e) s') s₂) (notedBy (model prog w) A env fun e s' => R (.error e) s') { s with heap := h₁, toks := tk₁ })
    (no : ∀ m', J x.cps.size m' → False) :
    wpAny (model prog w) A (call (.type "enumerate") [.str x t]) (fun xv s₁ => wpAny (model prog w) A (pyIter xv) (fun it s₂ => codeAny (model prog w) A (.forLoop (.Tuple elts k pos) it body orelse env) R s₂) E s₁) E s := by
  refine call_enumerate_str fun h' hE hI hsz hk => ?_
  rw [ha] at hI
  refine wpAny_pyIter_enum hE ?_
  have hLs : env.locals < s.heap.objs.size := F.ns.lt
  have D := Draws.strAscii (prog := prog) (w := w) (A := A.in1) (by exact hh) s.heap.objs.size x t
  have W := KTurns.ofWalksU (elts := elts) (k := k) (pos := pos) (WalksT.enumerateD D (s.heap.objs.size + 1) (Nat.succ_ne_self _) (by simp) (by simp)).toU
  refine leaving_loop (s := { s with heap := h' }) W ?_ ?_ ?_ ⟨⟨_, hE⟩, hI⟩ (F.keeps hk) (N.grown hk) J h0 ?_ no
  · intro hm
    rcases List.mem_cons.mp hm with e | hm
    · rw [e] at hLs; exact absurd hLs (Nat.not_lt.mpr (Nat.le_succ _))
    · rw [List.mem_singleton.mp hm] at hLs; exact absurd hLs (Nat.lt_irrefl _)
  · intro b hb
    rcases List.mem_cons.mp hb with rfl | hb
    · exact next_new F (Nat.le_succ _)
    · rw [List.mem_singleton.mp hb]; exact next_new F (Nat.le_refl _)
  · intro p hp hm
    have := Heap.lt_size (N p hp).1
    rcases List.mem_cons.mp hm with e | hm
    · rw [e] at this; exact absurd this (Nat.not_lt.mpr (Nat.le_succ _))
    · rw [List.mem_singleton.mp hm] at this; exact absurd this (Nat.lt_irrefl _)
  · rintro i v m₁ h₁ tk₁ hi ⟨T, vals, rfl, ⟨u, y, ⟨ch, v, e, rfl⟩, rfl⟩, hT⟩ hJ _ F₁ N₁
    exact step i T ch u v m₁ h₁ tk₁ _ e hT hJ F₁ N₁
end
set_option maxRecDepth 100000
section
variable {prog : Program} {w : World} {A : Around} {E : Value → Shared → Prop} {s : Shared}
/-- enumerate's next over a text: the sign's token is the fresh one -/
theorem enum_next_sign {e it : Addr} {x : Str} {t : Tok} {i c : Nat} {old : Value} {Q : Value → Shared → Prop}
    (he : IsEnum s.heap e it i old) (hit : s.heap.IsStrIter it "str_ascii_iterator" x t i) (hc : x.cps[i]? = some c) (hne : e ≠ it)
    (hQ : ∀ h', IsEnumOut h' e it ((i : Int) + 1) (.str ⟨#[c]⟩ s.toks) s.heap.objs.size → h'.IsStrIter it "str_ascii_iterator" x t (i + 1) →
      h'.get? s.heap.objs.size = some { cls := .type "tuple", data := .seq #[.int i (s.toks + 1), .str ⟨#[c]⟩ s.toks] } → h'.objs.size = s.heap.objs.size + 1 →
      (∀ b o, b ≠ e → b ≠ it → s.heap.get? b = some o → h'.get? b = some o) → Q (.ref s.heap.objs.size) { s with heap := h', toks := s.toks + 2 }) :
    wpAny (model prog w) A (Builtin.«enumerate.__next__» ⟨[.ref e], []⟩) (fun fin s' => ∃ v, fin = .done (.ret v) ∧ Q v s') E s := by
  obtain ⟨hp, g, d, tk, os⟩ := s
  have hel : e < hp.objs.size := Heap.lt_size he
  have hil : it < hp.objs.size := by obtain ⟨o, ho, _⟩ := id hit; exact Heap.lt_size ho
  show wpAny _ _ (field (.ref e) 2 >>= _) _ _ _
  refine wpAny_bind (wpAny_field he rfl (x := .ref it) rfl (wpAny_bind (wpAny_nextOf_ascii_item hit hc fun h₁ hit₁ hs₁ => ?_)))
  replace hs₁ : Heap.SameBut it hp h₁ := hs₁
  have he₁ : IsEnum h₁ e it i old := (hs₁.2 e hne).trans he
  refine wpAny_bind (wpAny_field he₁ rfl (x := rawInt i) rfl ?_)
  refine wpAny_bind (wpAny_field he₁ rfl (x := .none) rfl ?_)
  refine wpAny_bind (m := mkInt i) (wpAny_mkInt ?_)
  refine wpAny_bind (wpAny_setField_rec he₁ (by simp) fun h₂ he₂ hs₂ => ?_)
  replace hs₂ : Heap.SameBut e h₁ h₂ := hs₂
  replace he₂ : IsEnum h₂ e it ((i : Int) + 1) old := he₂
  refine wpAny_bind (wpAny_setField_rec he₂ (by simp) fun h₃ he₃ hs₃ => ?_)
  replace hs₃ : Heap.SameBut e h₂ h₃ := hs₃
  replace he₃ : IsEnum h₃ e it ((i : Int) + 1) old := he₃
  have hsz : h₃.objs.size = hp.objs.size := by rw [hs₃.1, hs₂.1, hs₁.1]
  refine wpAny_bind (wpAny_newTuple ?_)
  rw [hsz]
  generalize hh₄ : h₃.push { cls := .type "tuple", data := .seq #[.int i (tk + 1), .str ⟨#[c]⟩ tk] } = h₄
  have up : ∀ b o, h₃.get? b = some o → h₄.get? b = some o := fun b o q => by rw [← hh₄]; exact Heap.get?_push_of_some _ q
  have he₄ : IsEnum h₄ e it ((i : Int) + 1) old := up _ _ he₃
  have ht₄ : h₄.get? hp.objs.size = some { cls := .type "tuple", data := .seq #[.int i (tk + 1), .str ⟨#[c]⟩ tk] } := by rw [← hh₄, ← hsz]; exact Heap.get?_push_size _ rfl
  have hz₄ : h₄.objs.size = hp.objs.size + 1 := by rw [← hh₄, Heap.size_push, hsz]
  have far : ∀ b o, b ≠ e → b ≠ it → hp.get? b = some o → h₄.get? b = some o := fun b o q1 q2 q => up b o (hs₃.extBut b o q1 (hs₂.extBut b o q1 (hs₁.extBut b o q2 q)))
  have hit₄ : h₄.IsStrIter it "str_ascii_iterator" x t (i + 1) := by
    obtain ⟨o, ho, r⟩ := hit₁
    exact ⟨o, up _ _ (hs₃.extBut it o (Ne.symm hne) (hs₂.extBut it o (Ne.symm hne) ho)), r⟩
  refine wpAny_bind ?_
  unfold Builtin.SmallTypes.ownedTupleIsFree
  refine wpAny_bind (wpAny_field he₄ rfl (x := .none) rfl (wpAny_pure ?_))
  simp only [if_true]
  refine wpAny_bind (wpAny_rule (wpAny_bind (wpAny_field he₄ rfl (x := old) rfl ?_)))
  refine wpAny_bind (wpAny_setField_rec he₄ (by simp) fun h₅ he₅ hs₅ => ?_)
  replace hs₅ : Heap.SameBut e h₄ h₅ := hs₅
  replace he₅ : IsEnum h₅ e it ((i : Int) + 1) (.str ⟨#[c]⟩ tk) := he₅
  refine wpAny_bind ?_
  unfold Builtin.SmallTypes.ownedTupleHandOut
  refine wpAny_bind (wpAny_setField_rec he₅ (by simp) fun h₆ he₆ hs₆ => ?_)
  replace hs₆ : Heap.SameBut e h₅ h₆ := hs₆
  replace he₆ : IsEnumOut h₆ e it ((i : Int) + 1) (.str ⟨#[c]⟩ tk) hp.objs.size := he₆
  refine wpAny_setField_rec he₆ (by simp) fun h₇ he₇ hs₇ => ?_
  replace hs₇ : Heap.SameBut e h₆ h₇ := hs₇
  replace he₇ : IsEnumOut h₇ e it ((i : Int) + 1) (.str ⟨#[c]⟩ tk) hp.objs.size := he₇
  have out : ∀ b o, b ≠ e → h₄.get? b = some o → h₇.get? b = some o := fun b o q1 q => hs₇.extBut b o q1 (hs₆.extBut b o q1 (hs₅.extBut b o q1 q))
  refine wpAny_bind (wpAny_letGo (wpAny_pure ⟨_, rfl, hQ h₇ he₇ ?_ (out _ _ (Nat.ne_of_gt hel) ht₄) ?_ fun b o q1 q2 q => out b o q1 (far b o q1 q2 q)⟩))
  · obtain ⟨o, ho, r⟩ := hit₄
    exact ⟨o, out _ _ (Ne.symm hne) ho, r⟩
  · rw [hs₇.1, hs₆.1, hs₅.1, hz₄]
theorem next_sign {e it : Addr} {x : Str} {t : Tok} {i c : Nat} {old : Value} {Q : Option Value → Shared → Prop}
    (he : IsEnum s.heap e it i old) (hit : s.heap.IsStrIter it "str_ascii_iterator" x t i) (hc : x.cps[i]? = some c) (hne : e ≠ it)
    (hQ : ∀ h', IsEnumOut h' e it ((i : Int) + 1) (.str ⟨#[c]⟩ s.toks) s.heap.objs.size → h'.IsStrIter it "str_ascii_iterator" x t (i + 1) →
      h'.get? s.heap.objs.size = some { cls := .type "tuple", data := .seq #[.int i (s.toks + 1), .str ⟨#[c]⟩ s.toks] } → h'.objs.size = s.heap.objs.size + 1 →
      (∀ b o, b ≠ e → b ≠ it → s.heap.get? b = some o → h'.get? b = some o) → Q (some (.ref s.heap.objs.size)) { s with heap := h', toks := s.toks + 2 }) :
    wpAny (model prog w) A (pyNext (.ref e)) Q E s := by
  have hT : s.TypeIs (.ref e) "enumerate" := ⟨_, he, rfl⟩
  unfold pyNext
  exact wpAny_bind (wpAny_attempt (wpAny_callSpecial?_slot (name := Str.ofString "__next__") hT F.slot_enumerate_next
    (wpAny_call_entry F.slot_enumerate_next hT F.entry_enumerate_next
      (enum_next_sign he hit hc hne fun h' a b c d k => wpAny_pure (hQ h' a b c d k)) (F.args_enumerate_next_1 _))))
/-- for i, j in enumerate(text), leaving always; the signs' tokens are fresh -/
theorem sign_loop {elts : List Expr} {l : Nat} {pos : Pos} {x : Str} {t : Tok} {R : Result → Shared → Prop} {m₀ : Str → Option Value} {news : List (Addr × Obj)} {env : Env} {h₀ : Heap} {body orelse : List Stmt} (k : Nat) (stored : List Str)
    (hk : k < x.cps.size) (ha : strIterType x = "str_ascii_iterator") (F : Fr h₀ env.locals s.heap m₀) (N : News h₀ env.locals s.heap news)
    (step : ∀ (i : Nat) T ch u v (um : Str → Option Value) h₁ tk₁ own, i ≤ k → s.toks ≤ v → (∀ q ∈ news, ∀ p ∈ own, p.1 ≠ q.1) → x.cps[i]? = some ch → IsTup h₁ T #[.int i u, .str ⟨#[ch]⟩ v] → Fr h₀ env.locals h₁ (kstB (fun z => if stored.contains z then um z else m₀ z) []) → News h₀ env.locals h₁ (news ++ own) →
      wpAny (model prog w) A (assign (.Tuple elts l pos) env (.ref T)) (fun _ s₂ => wpAny (model prog w) A (execs body env)
        (fun f s₃ => match f with
          | .ret v => R (.ok (.ret v)) s₃
          | .brk => R (.ok .next) s₃
          | _ => i < k ∧ ∃ h' tk m' news', s₃ = { s with heap := h', toks := tk } ∧ tk₁ ≤ tk ∧ Fr h₀ env.locals h' m' ∧ News h₀ env.locals h' news' ∧ (∀ p ∈ news, p ∈ news') ∧ (∀ p ∈ own, p ∈ news') ∧ (∀ z, stored.contains z = false → m' z = m₀ z))
        (notedBy (model prog w) A env fun e s' => R (.error e) s') s₂) (notedBy (model prog w) A env fun e s' => R (.error e) s') { s with heap := h₁, toks := tk₁ }) :
    wpAny (model prog w) A (call (.type "enumerate") [.str x t]) (fun xv s₁ => wpAny (model prog w) A (pyIter xv) (fun it s₂ => codeAny (model prog w) A (.forLoop (.Tuple elts l pos) it body orelse env) R s₂) E s₁) E s := by
  refine call_enumerate_str fun h' hE hI hsz hk' => ?_
  rw [ha] at hI
  refine wpAny_pyIter_enum hE ?_
  have hLs : env.locals < s.heap.objs.size := F.ns.lt
  generalize he : s.heap.objs.size + 1 = e at hE
  generalize hi : s.heap.objs.size = it at hE hI
  have hne : e ≠ it := by rw [← he, hi]; exact Nat.succ_ne_self _
  have hLe : env.locals ≠ e := fun q => absurd hLs (by rw [q, ← he]; exact Nat.not_lt.mpr (Nat.le_succ _))
  have hLi : env.locals ≠ it := fun q => absurd hLs (by rw [q, hi]; exact Nat.lt_irrefl _)
  have he0 : h₀.get? e = none := next_new F (by rw [← he]; exact Nat.le_succ _)
  have hi0 : h₀.get? it = none := next_new F (by rw [hi]; exact Nat.le_refl _)
  have hn : ∀ p ∈ news, p.1 ≠ e ∧ p.1 ≠ it := fun p hp => by
    have := Heap.lt_size (N p hp).1
    exact ⟨fun q => absurd this (by rw [q, ← he]; exact Nat.not_lt.mpr (Nat.le_succ _)), fun q => absurd this (by rw [q, hi]; exact Nat.lt_irrefl _)⟩
  refine codeAny_forLoop_any (fun n s' => ∃ h' tk m' i old, s' = { s with heap := h', toks := tk } ∧ s.toks ≤ tk ∧ IsEnum h' e it (i : Nat) old ∧ h'.IsStrIter it "str_ascii_iterator" x t i ∧ Fr h₀ env.locals h' m' ∧ News h₀ env.locals h' news ∧ (∀ z, stored.contains z = false → m' z = m₀ z) ∧ i ≤ k ∧ n = k - i) ?_ k
    ⟨h', s.toks, m₀, 0, .none, rfl, Nat.le_refl _, hE, hI, F.keeps hk', N.grown hk', fun _ _ => rfl, Nat.zero_le _, rfl⟩
  rintro n s' ⟨h₁, tk, m₁, i, old, rfl, htk, hE₁, hI₁, F₁, N₁, hm₁, hik, rfl⟩
  have hix : i < x.cps.size := Nat.lt_of_le_of_lt hik hk
  have keep : ∀ h₂ : Heap, (∀ b o, b ≠ e → b ≠ it → h₁.get? b = some o → h₂.get? b = some o) → Fr h₀ env.locals h₂ m₁ ∧ News h₀ env.locals h₂ news := fun h₂ q =>
    ⟨⟨F₁.ns.at' fun o z => q _ o hLe hLi z, fun b o z => q b o (fun y => by rw [y, he0] at z; cases z) (fun y => by rw [y, hi0] at z; cases z) (F₁.keep b o z), F₁.above⟩, fun p hp => ⟨q _ _ (hn p hp).1 (hn p hp).2 (N₁ p hp).1, (N₁ p hp).2⟩⟩
  have hsL : env.locals < h₁.objs.size := F₁.ns.lt
  have hse : e < h₁.objs.size := Heap.lt_size hE₁
  have hsi : it < h₁.objs.size := by obtain ⟨o, ho, _⟩ := id hI₁; exact Heap.lt_size ho
  refine next_sign hE₁ hI₁ (Array.getElem?_eq_getElem hix) hne fun h₂ hE₂ hI₂ hT₂ hz₂ q₂ => ?_
  refine wpAny_letOwnedTupleGo_enum hE₂ fun h₃ hE₃ hs₃ => ?_
  obtain ⟨F₃, N₃⟩ := keep h₃ fun b o q1 q2 q => (hs₃.2 b q1).trans (q₂ b o q1 q2 q)
  have hI₃ : h₃.IsStrIter it "str_ascii_iterator" x t (i + 1) := by
    obtain ⟨o, ho, r⟩ := hI₂
    exact ⟨o, (hs₃.2 it (Ne.symm hne)).trans ho, r⟩
  obtain ⟨oi, hoi, hri⟩ := id hI₃
  have hT₃ : IsTup h₃ h₁.objs.size #[.int i (tk + 1), .str ⟨#[x.cps[i]]⟩ tk] := ⟨_, (hs₃.2 _ (Nat.ne_of_gt hse)).trans hT₂, rfl, _, rfl⟩
  have F9 : Fr h₀ env.locals h₃ (kstB (fun z => if stored.contains z then m₁ z else m₀ z) []) := ksw_fr (fun p hp => nomatch hp) (fun z _ hz => hm₁ z hz) F₃
  have own : ∀ p ∈ [(e, ({ cls := .type "enumerate", dict := none, data := .fields #[.none, .bool false, .ref it, rawInt ((i : Int) + 1), .none, .str ⟨#[x.cps[i]]⟩ tk], slots := #[] } : Obj)), (it, oi)], h₃.get? p.1 = some p.2 ∧ p.1 ≠ env.locals ∧ h₀.get? p.1 = none := fun p hp => by
    rcases List.mem_cons.mp hp with rfl | hp
    · exact ⟨hE₃, Ne.symm hLe, he0⟩
    · rw [List.mem_singleton.mp hp]; exact ⟨hoi, Ne.symm hLi, hi0⟩
  refine wpAny_mono (step i _ _ (tk + 1) tk m₁ h₃ (tk + 2) _ hik htk ?_ (Array.getElem?_eq_getElem hix) hT₃ F9 fun p hp => (List.mem_append.mp hp).elim (N₃ p) (own p)) (fun _ s₂ g => wpAny_mono g (fun f s₃ g₃ => ?_) fun _ _ e => e) fun _ _ e => e
  · intro q hq p hp
    rcases List.mem_cons.mp hp with rfl | hp
    · exact Ne.symm (hn q hq).1
    · rw [List.mem_singleton.mp hp]; exact Ne.symm (hn q hq).2
  · have fin : (i < k ∧ ∃ h' tk' m' news', s₃ = { s with heap := h', toks := tk' } ∧ tk + 2 ≤ tk' ∧ Fr h₀ env.locals h' m' ∧ News h₀ env.locals h' news' ∧ (∀ p ∈ news, p ∈ news') ∧ (∀ p ∈ [(e, ({ cls := .type "enumerate", dict := none, data := .fields #[.none, .bool false, .ref it, rawInt ((i : Int) + 1), .none, .str ⟨#[x.cps[i]]⟩ tk], slots := #[] } : Obj)), (it, oi)], p ∈ news') ∧ (∀ z, stored.contains z = false → m' z = m₀ z)) →
        ∃ n, n < k - i ∧ ∃ h' tk m' i old, s₃ = { s with heap := h', toks := tk } ∧ s.toks ≤ tk ∧ IsEnum h' e it (i : Nat) old ∧ h'.IsStrIter it "str_ascii_iterator" x t i ∧ Fr h₀ env.locals h' m' ∧ News h₀ env.locals h' news ∧ (∀ z, stored.contains z = false → m' z = m₀ z) ∧ i ≤ k ∧ n = k - i := by
      rintro ⟨hlt, h', tk', m', news', rfl, ht, F', N', a, b, c⟩
      exact ⟨k - (i + 1), by omega, h', tk', m', i + 1, _, rfl, Nat.le_trans htk (Nat.le_trans (Nat.le_add_right _ _) ht), (N' _ (b _ (.head _))).1, ⟨oi, (N' _ (b _ (.tail _ (.head _)))).1, hri⟩, F', fun p hp => N' p (a p hp), c, hlt, rfl⟩
    cases f with
    | ret v => exact g₃
    | brk => exact g₃
    | cont => exact fin g₃
    | next => exact fin g₃
end
set_option maxRecDepth 100000
section
variable {prog : Program} {w : World} {A : Around} {E : Value → Shared → Prop} {env : Env} {h₀ : Heap} {target : Expr} {body : List Stmt} {Q : Flow → Shared → Prop}
/-- the end of a turn, with a bound TB of the tokens told so far -/
noncomputable def XEndN {σ : Type} (h₀ : Heap) (L : Addr) (s : Shared) (Led : σ → List (Addr × Obj)) (ps : σ → List (Str × Value)) (Facts : σ → Prop) (stored : List Str) (m₀ : Str → Option Value) (P : σ → Prop) (TB : σ → Nat) (own : List (Addr × Obj)) (s₂ : Shared) : Prop :=
  ∃ (c' : σ) (h' : Heap) (tk : Nat) (m' : Str → Option Value) (news' : List (Addr × Obj)), s₂ = { s with heap := h', toks := tk } ∧ Fr h₀ L h' m' ∧ News h₀ L h' news' ∧ (∀ p ∈ Led c', p ∈ news') ∧ (∀ p ∈ own, p ∈ news') ∧ (∀ q ∈ Led c', ∀ p ∈ own, p.1 ≠ q.1) ∧ Facts c' ∧ (∀ p ∈ ps c', m' p.1 = some p.2) ∧ (∀ z, (∀ p ∈ ps c', z ≠ p.1) → stored.contains z = false → m' z = m₀ z) ∧ P c' ∧ TB c' ≤ tk
noncomputable def XEnd {σ : Type} (h₀ : Heap) (L : Addr) (s : Shared) (Led : σ → List (Addr × Obj)) (ps : σ → List (Str × Value)) (Facts : σ → Prop) (stored : List Str) (m₀ : Str → Option Value) (P : σ → Prop) (TB : σ → Nat) (own : List (Addr × Obj)) (Q : Flow → Shared → Prop) (f : Flow) (s₂ : Shared) : Prop :=
  match f with
  | .ret v => Q (.ret v) s₂
  | .brk => Q .next s₂
  | _ => XEndN h₀ L s Led ps Facts stored m₀ P TB own s₂
theorem xend_ {σ : Type} {L : Addr} {s : Shared} {Led : σ → List (Addr × Obj)} {ps : σ → List (Str × Value)} {Facts : σ → Prop} {stored : List Str} {m₀ m' : Str → Option Value} {P : σ → Prop} {TB : σ → Nat} {own news' : List (Addr × Obj)} {h' : Heap} {tk : Nat} (c' : σ)
    (F : Fr h₀ L h' m') (N : News h₀ L h' news') (hn : ∀ p ∈ Led c', p ∈ news') (ho : ∀ p ∈ own, p ∈ news') (hd : ∀ q ∈ Led c', ∀ p ∈ own, p.1 ≠ q.1) (hf : Facts c') (hk : ∀ p ∈ ps c', m' p.1 = some p.2) (hr : ∀ z, (∀ p ∈ ps c', z ≠ p.1) → stored.contains z = false → m' z = m₀ z) (hp : P c') (ht : TB c' ≤ tk) :
    XEndN h₀ L s Led ps Facts stored m₀ P TB own { s with heap := h', toks := tk } := ⟨c', h', tk, m', news', rfl, F, N, hn, ho, hd, hf, hk, hr, hp, ht⟩
/-- a for over what W walks: its ledger, its names and its word are ours; the tokens told stay under the state's -/
theorem x_loop {s : Shared} {I : Addr} {fp wr : List Addr} {n : Nat} {It Md : Nat → Value → Heap → Prop} {St : Nat → Heap → Prop} {σ : Type} (Led : σ → List (Addr × Obj)) (ps : σ → List (Str × Value)) (Facts : σ → Prop) (stored : List Str) (P : Nat → σ → Prop) (TB : σ → Nat) (c₀ : σ) (keep : List (Addr × Obj)) {m₀ : Str → Option Value}
    (W : KTurns prog w A target I fp wr n It Md St) (hal : ∀ i h, St i h → ∀ b ∈ fp, ∃ o, h.get? b = some o) (hL : env.locals ∉ fp) (hwr : ∀ b ∈ wr, h₀.get? b = none) (hst : St 0 s.heap)
    (hkw : ∀ p ∈ keep, p.1 ∉ wr) (hk : ∀ c, ∀ p ∈ keep, p ∈ Led c) (h0 : ∀ q ∈ Led c₀, q.1 ∈ fp → q ∈ keep)
    (F : Fr h₀ env.locals s.heap m₀) (N : News h₀ env.locals s.heap (Led c₀)) (hf : Facts c₀) (hps : ∀ p ∈ ps c₀, m₀ p.1 = some p.2) (hp : P 0 c₀) (htb : TB c₀ ≤ s.toks) (hE : PassesOwn (model prog w) A env E)
    (turn : ∀ (c : σ) i v (u : Str → Option Value) h tk own, i < n → It i v h → (∀ p ∈ own, p.1 ∈ fp) → (∀ q ∈ Led c, ∀ p ∈ own, p.1 ≠ q.1) → Facts c → P i c → TB c ≤ tk →
      Fr h₀ env.locals h (kstB (fun z => if stored.contains z then u z else m₀ z) (ps c)) → News h₀ env.locals h (Led c ++ own) →
      wpAny (model prog w) A (assign target env v) (fun _ s₃ => wpAny (model prog w) A (execs body env) (XEnd h₀ env.locals { s with heap := h, toks := tk } Led ps Facts stored m₀ (P (i + 1)) TB own Q) E s₃) E { s with heap := h, toks := tk })
    (done : ∀ (c : σ) (u : Str → Option Value) h tk, Facts c → P n c → TB c ≤ tk → Fr h₀ env.locals h (kstB (fun z => if stored.contains z then u z else m₀ z) (ps c)) → News h₀ env.locals h (Led c) → Q .next { s with heap := h, toks := tk }) :
    codeAny (model prog w) A (.forLoop target (.ref I) body [] env) (fun r s' => match r with | .ok f => Q f s' | .error e => cameBackBy (model prog w) A env E e s') s := by
  have hLw : env.locals ∉ wr := fun h => hL (W.sub _ h)
  have old : ∀ b o, h₀.get? b = some o → b ∉ wr := fun b o e hb => by rw [hwr b hb] at e; cases e
  refine codeAny_forLoop_any
    (fun k s' => ∃ h' tk m' c i, s' = { s with heap := h', toks := tk } ∧ St i h' ∧ Fr h₀ env.locals h' m' ∧ News h₀ env.locals h' (Led c) ∧ Facts c ∧ (∀ p ∈ ps c, m' p.1 = some p.2) ∧ (∀ z, (∀ p ∈ ps c, z ≠ p.1) → stored.contains z = false → m' z = m₀ z) ∧ P i c ∧ (∀ q ∈ Led c, q.1 ∈ fp → q ∈ keep) ∧ TB c ≤ tk ∧ i ≤ n ∧ k = n + 1 - i) ?_ (n + 1)
    ⟨s.heap, s.toks, m₀, c₀, 0, rfl, hst, F, N, hf, hps, fun _ _ _ => rfl, hp, h0, htb, Nat.zero_le _, rfl⟩
  rintro k s' ⟨h', tk, m', c, i, rfl, hst', F', N', hf', h1, h2, hp', hq', ht', hi, rfl⟩
  have next : ∀ h₁ : Heap, (∀ b o, b ∉ wr → h'.get? b = some o → h₁.get? b = some o) → Fr h₀ env.locals h₁ m' ∧ News h₀ env.locals h₁ (Led c) := fun h₁ hk₁ =>
    ⟨⟨F'.ns.at' fun o e => hk₁ _ o hLw e, fun b o e => hk₁ b o (old b o e) (F'.keep b o e), F'.above⟩, fun p hp => ⟨hk₁ _ _ (fun hw => hkw p (hq' p hp (W.sub _ hw)) hw) (N' p hp).1, (N' p hp).2⟩⟩
  by_cases hlt : i < n
  · refine wpAny_with_toks (n := tk) (Nat.le_refl _) (W.item i _ _ _ hlt hst' fun v h₁ tk₁ hMd hk₁ hle => ?_)
    refine W.go i v _ _ _ hMd fun h₂ hP hst₂ hk₂ => ?_
    obtain ⟨F₂, N₂⟩ := next h₂ fun b o hb x => hk₂ b o hb (hk₁ b o hb x)
    have Nown : News h₀ env.locals h₂ (PyProof.Rows.ownOf h₀ fp h₂) := news_ownOf hL
    have N₃ : News h₀ env.locals h₂ (Led c ++ (PyProof.Rows.ownOf h₀ fp h₂).filter fun p => !(keep.map (·.1)).contains p.1) := fun p hp => by
      rcases List.mem_append.mp hp with hp | hp
      · exact N₂ p hp
      · exact Nown p (List.mem_filter.mp hp).1
    have hown : ∀ p ∈ PyProof.Rows.ownOf h₀ fp h₂, p.1 ∈ fp := ownOf_sub
    have hd : ∀ q ∈ Led c, ∀ p ∈ (PyProof.Rows.ownOf h₀ fp h₂).filter fun p => !(keep.map (·.1)).contains p.1, p.1 ≠ q.1 := fun q hq p hp e => by
      have h3 := (List.mem_filter.mp hp).2
      have h4 : q ∈ keep := hq' q hq (e ▸ hown p (List.mem_filter.mp hp).1)
      simp only [Bool.not_eq_true'] at h3
      have h5 : (keep.map (·.1)).contains p.1 = true := List.contains_iff_mem.mpr (List.mem_map.mpr ⟨q, h4, e.symm⟩)
      rw [h5] at h3
      cases h3
    refine wpAny_mono (turn c i v m' h₂ tk₁ _ hlt hP (fun p hp => hown p (List.mem_filter.mp hp).1) hd hf' hp' (Nat.le_trans ht' hle) (ksw_fr h1 h2 F₂) N₃) (fun _ s₂ g => wpAny_mono (wpAny_passesOwn hE g) (fun f s₃ g₃ => ?_) fun _ _ e => e) hE
    have fin : XEndN h₀ env.locals { s with heap := h₂, toks := tk₁ } Led ps Facts stored m₀ (P (i + 1)) TB ((PyProof.Rows.ownOf h₀ fp h₂).filter fun p => !(keep.map (·.1)).contains p.1) s₃ →
        ∃ k, k < n + 1 - i ∧ ∃ h' tk m' c i, s₃ = { s with heap := h', toks := tk } ∧ St i h' ∧ Fr h₀ env.locals h' m' ∧ News h₀ env.locals h' (Led c) ∧ Facts c ∧ (∀ p ∈ ps c, m' p.1 = some p.2) ∧ (∀ z, (∀ p ∈ ps c, z ≠ p.1) → stored.contains z = false → m' z = m₀ z) ∧ P i c ∧ (∀ q ∈ Led c, q.1 ∈ fp → q ∈ keep) ∧ TB c ≤ tk ∧ i ≤ n ∧ k = n + 1 - i := by
      rintro ⟨c', h₃, tk₃, m₃, news₃, rfl, F₃, N₃', hn, ho, hd', hf9, hk9, hr9, hp9, ht9⟩
      have inown : ∀ b ∈ fp, ∀ o, h₂.get? b = some o → h₀.get? b = none → b ∉ keep.map (·.1) → (b, o) ∈ (PyProof.Rows.ownOf h₀ fp h₂).filter fun p => !(keep.map (·.1)).contains p.1 := fun b hb o e hn hkb => by
        refine List.mem_filter.mpr ⟨mem_ownOf hb hn e, ?_⟩
        simp only [Bool.not_eq_true']
        cases hc : (keep.map (·.1)).contains b with
        | false => rfl
        | true => exact absurd (List.contains_iff_mem.mp hc) hkb
      have kept : ∀ b ∈ keep.map (·.1), ∃ q ∈ keep, q.1 = b ∧ h₂.get? b = some q.2 ∧ h₃.get? b = some q.2 := fun b hb => by
        obtain ⟨q, hq, rfl⟩ := List.mem_map.mp hb
        exact ⟨q, hq, rfl, (N₂ q (hk c q hq)).1, (N₃' q (hn q (hk c' q hq))).1⟩
      refine ⟨n + 1 - (i + 1), by omega, h₃, tk₃, m₃, c', i + 1, rfl, ?_, F₃, fun p hp => N₃' p (hn p hp), hf9, hk9, hr9, hp9, fun q hq hqf => ?_, ht9, hlt, rfl⟩
      · refine W.frame _ _ _ hst₂ fun b hb o e => ?_
        cases hn0 : h₀.get? b with
        | some o₀ =>
          have : o₀ = o := by have q := F₂.keep b o₀ hn0; rw [e] at q; exact (Option.some.inj q).symm
          exact this ▸ F₃.keep b o₀ hn0
        | none =>
          by_cases hkb : b ∈ keep.map (·.1)
          · obtain ⟨q, hq, _, e2, e3⟩ := kept b hkb
            rw [e] at e2
            rw [e3, e2]
          · exact (N₃' _ (ho _ (inown b hb o e hn0 hkb))).1
      · by_cases hkb : q.1 ∈ keep.map (·.1)
        · obtain ⟨q2, hq2, e1, e2, e3⟩ := kept q.1 hkb
          have g1 := (N₃' q (hn q hq)).1
          rw [e3] at g1
          have : q = q2 := Prod.ext e1.symm (Option.some.inj g1).symm
          exact this ▸ hq2
        · obtain ⟨o, ho'⟩ := hal _ _ hst₂ q.1 hqf
          exact absurd rfl (hd' q hq (q.1, o) (inown q.1 hqf o ho' (N₃' q (hn q hq)).2.2 hkb))
    cases f with
    | ret v => exact g₃
    | brk => exact g₃
    | cont => exact fin g₃
    | next => exact fin g₃
  · have hin : i = n := by omega
    subst hin
    refine wpAny_with_toks (n := tk) (Nat.le_refl _) (W.done _ _ _ hst' fun h₁ tk₁ hk₁ hle => wpAny_execs_nil ?_)
    obtain ⟨F₁, N₁⟩ := next h₁ hk₁
    exact done c m' h₁ tk₁ hf' hp' (Nat.le_trans ht' hle) (ksw_fr h1 h2 F₁) N₁
end
set_option maxRecDepth 100000
section
variable {prog : Program} {w : World} {A : Around} {E : Value → Shared → Prop} {env : Env} {h₀ : Heap} {body : List Stmt} {Q : Flow → Shared → Prop} {s : Shared}
/-- a for over a list; keep: the list's own entry, if the ledger holds it -/
theorem x_list {target : Expr} {l : Addr} {items : Array Value} {σ : Type} (Led : σ → List (Addr × Obj)) (ps : σ → List (Str × Value)) (Facts : σ → Prop) (stored : List Str) (P : Nat → σ → Prop) (TB : σ → Nat) (c₀ : σ) (keep : List (Addr × Obj)) {m₀ : Str → Option Value}
    (hgo : (∃ y py, target = .Name y py) ∨ ∃ el k py, target = .Tuple el k py) (hl : s.heap.IsList l items) (hh : A.handled = none) (hkl : ∀ p ∈ keep, p.1 = l) (hk : ∀ c, ∀ p ∈ keep, p ∈ Led c) (h0 : ∀ q ∈ Led c₀, q.1 = l → q ∈ keep)
    (F : Fr h₀ env.locals s.heap m₀) (N : News h₀ env.locals s.heap (Led c₀)) (hL : env.locals ≠ l) (hf : Facts c₀) (hps : ∀ p ∈ ps c₀, m₀ p.1 = some p.2) (hp : P 0 c₀) (htb : TB c₀ ≤ s.toks) (hE : PassesOwn (model prog w) A env E)
    (turn : ∀ (c : σ) i v (u : Str → Option Value) h tk own, items[i]? = some v → (∀ q ∈ Led c, ∀ p ∈ own, p.1 ≠ q.1) → Facts c → P i c → TB c ≤ tk →
      Fr h₀ env.locals h (kstB (fun z => if stored.contains z then u z else m₀ z) (ps c)) → News h₀ env.locals h (Led c ++ own) →
      wpAny (model prog w) A (assign target env v) (fun _ s₃ => wpAny (model prog w) A (execs body env) (XEnd h₀ env.locals { s with heap := h, toks := tk } Led ps Facts stored m₀ (P (i + 1)) TB own Q) E s₃) E { s with heap := h, toks := tk })
    (done : ∀ (c : σ) (u : Str → Option Value) h tk, Facts c → P items.size c → TB c ≤ tk → Fr h₀ env.locals h (kstB (fun z => if stored.contains z then u z else m₀ z) (ps c)) → News h₀ env.locals h (Led c) → Q .next { s with heap := h, toks := tk }) :
    wpAny (model prog w) A (pyIter (.ref l)) (fun it s₂ => codeAny (model prog w) A (.forLoop target it body [] env) (fun r s' => match r with | .ok f => Q f s' | .error e => cameBackBy (model prog w) A env E e s') s₂) E s := by
  have hlt : l < s.heap.objs.size := by obtain ⟨o, ho, _⟩ := hl; exact Heap.lt_size ho
  have hne : l ≠ s.heap.objs.size := Nat.ne_of_lt hlt
  refine wpAny_pyIter_list hl ?_
  refine x_loop (s := { s with heap := s.heap.push { cls := .type "list_iterator", data := .fields #[.ref l, .int 0 0] } }) Led ps Facts stored P TB c₀ keep (KTurns.ofWalks (Walks.list hh s.heap.objs.size l hne items) fun i v s Q E st q => ?_) (fun i h st b hb => ?_) (fun hm => ?_) (fun b hb => ?_) ⟨⟨_, Heap.get?_push_size _ rfl, rfl, rfl⟩, hl.push _⟩ (fun p hp hm => ?_) hk (fun q hq hm => ?_) (F.push _) (fun p hp => ⟨Heap.get?_push_of_some _ (N p hp).1, (N p hp).2⟩) hf hps hp htb hE (fun c i v u h tk own hi hIt hown hd hf' hp' ht' F' N' => ?_) done
  · rcases hgo with ⟨y, py, rfl⟩ | ⟨el, k, py, rfl⟩
    · exact wpAny_pure q
    · cases v <;> first | exact wpAny_letOwnedTupleGo_listiter st.1 q | exact wpAny_pure q
  · rcases List.mem_cons.mp hb with rfl | hb
    · obtain ⟨o, ho, _⟩ := st.1
      exact ⟨o, ho⟩
    · rw [List.mem_singleton.mp hb]
      obtain ⟨o, ho, _⟩ := st.2
      exact ⟨o, ho⟩
  · rcases List.mem_cons.mp hm with hm | hm
    · exact absurd F.ns.lt (by rw [hm]; exact Nat.lt_irrefl _)
    · exact hL (List.mem_singleton.mp hm)
  · rw [List.mem_singleton.mp hb]
    exact next_new F (Nat.le_refl _)
  · exact hne ((hkl p hp).symm.trans (List.mem_singleton.mp hm))
  · rcases List.mem_cons.mp hm with hm | hm
    · exact absurd (Heap.lt_size (N q hq).1) (by rw [hm]; exact Nat.lt_irrefl _)
    · exact h0 q hq (List.mem_singleton.mp hm)
  · exact turn c i v u h tk own hIt hd hf' hp' ht' F' N'
/-- a for over a range by ones -/
theorem x_range {y : Str} {py : Pos} {r : Addr} {a₀ b₀ : Int} {t₀ u₀ v₀ : Tok} {n : Nat} {σ : Type} (Led : σ → List (Addr × Obj)) (ps : σ → List (Str × Value)) (Facts : σ → Prop) (stored : List Str) (P : Nat → σ → Prop) (TB : σ → Nat) (c₀ : σ) {m₀ : Str → Option Value}
    (hr : IsRange s.heap r a₀ b₀ 1 t₀ u₀ v₀) (hsmall : Builtin.Range.small a₀ b₀ 1 = true) (hn : Builtin.Range.rangeSize a₀ b₀ 1 = (n : Int)) (hh : A.handled = none)
    (F : Fr h₀ env.locals s.heap m₀) (N : News h₀ env.locals s.heap (Led c₀)) (hf : Facts c₀) (hps : ∀ p ∈ ps c₀, m₀ p.1 = some p.2) (hp : P 0 c₀) (htb : TB c₀ ≤ s.toks) (hE : PassesOwn (model prog w) A env E)
    (turn : ∀ (c : σ) (i : Nat) t (u : Str → Option Value) h tk own, i < n → (∀ q ∈ Led c, ∀ p ∈ own, p.1 ≠ q.1) → Facts c → P i c → TB c ≤ tk →
      Fr h₀ env.locals h (kstB (fun z => if stored.contains z then u z else m₀ z) (ps c)) → News h₀ env.locals h (Led c ++ own) →
      wpAny (model prog w) A (assign (.Name y py) env (.int (a₀ + (i : Nat)) t)) (fun _ s₃ => wpAny (model prog w) A (execs body env) (XEnd h₀ env.locals { s with heap := h, toks := tk } Led ps Facts stored m₀ (P (i + 1)) TB own Q) E s₃) E { s with heap := h, toks := tk })
    (done : ∀ (c : σ) (u : Str → Option Value) h tk, Facts c → P n c → TB c ≤ tk → Fr h₀ env.locals h (kstB (fun z => if stored.contains z then u z else m₀ z) (ps c)) → News h₀ env.locals h (Led c) → Q .next { s with heap := h, toks := tk }) :
    wpAny (model prog w) A (pyIter (.ref r)) (fun it s₂ => codeAny (model prog w) A (.forLoop (.Name y py) it body [] env) (fun r s' => match r with | .ok f => Q f s' | .error e => cameBackBy (model prog w) A env E e s') s₂) E s := by
  refine wpAny_pyIter_range hr hsmall ?_
  have hst : IsRangeIter (s.heap.push { cls := .type "range_iterator", data := .fields #[rawInt a₀, rawInt (Builtin.Range.rangeSize a₀ b₀ 1), rawInt 1] }) s.heap.objs.size (a₀ + (0 : Nat) * 1) ((n : Int) - (0 : Nat)) 1 := by
    show IsRangeIter _ _ _ _ _
    rw [hn]
    simpa using Heap.get?_push_size _ rfl
  refine x_loop (s := { s with heap := s.heap.push { cls := .type "range_iterator", data := .fields #[rawInt a₀, rawInt (Builtin.Range.rangeSize a₀ b₀ 1), rawInt 1] } }) Led ps Facts stored P TB c₀ [] (KTurns.ofWalks (Walks.range hh s.heap.objs.size a₀ 1 n) fun i v s Q E st q => ?_) (fun i h st b hb => ?_) (fun hm => ?_) (fun b hb => ?_) hst (fun p hp => nomatch hp) (fun _ p hp => nomatch hp) (fun q hq hm => ?_) (F.push _) (fun p hp => ⟨Heap.get?_push_of_some _ (N p hp).1, (N p hp).2⟩) hf hps hp htb hE (fun c i v u h tk own hi hIt hown hd hf' hp' ht' F' N' => ?_) done
  · exact wpAny_pure q
  · rw [List.mem_singleton.mp hb]
    exact ⟨_, st⟩
  · exact absurd F.ns.lt (by rw [List.mem_singleton.mp hm]; exact Nat.lt_irrefl _)
  · rw [List.mem_singleton.mp hb]
    exact next_new F (Nat.le_refl _)
  · exact absurd (Heap.lt_size (N q hq).1) (by rw [List.mem_singleton.mp hm]; exact Nat.lt_irrefl _)
  · obtain ⟨t, rfl⟩ := hIt
    have e : a₀ + (i : Int) * 1 = a₀ + (i : Nat) := by rw [Int.mul_one]
    rw [e]
    exact turn c i t u h tk own hi hd hf' hp' ht' F' N'
/-- a for over enumerate(list), the list told by the base -/
theorem x_enum {el : List Expr} {k : Nat} {py : Pos} {l : Addr} {items : Array Value} {σ : Type} (Led : σ → List (Addr × Obj)) (ps : σ → List (Str × Value)) (Facts : σ → Prop) (stored : List Str) (P : Nat → σ → Prop) (TB : σ → Nat) (c₀ : σ) {m₀ : Str → Option Value}
    (hl : h₀.IsList l items) (hh : A.handled = none)
    (F : Fr h₀ env.locals s.heap m₀) (N : News h₀ env.locals s.heap (Led c₀)) (hf : Facts c₀) (hps : ∀ p ∈ ps c₀, m₀ p.1 = some p.2) (hp : P 0 c₀) (htb : TB c₀ ≤ s.toks) (hE : PassesOwn (model prog w) A env E)
    (turn : ∀ (c : σ) (i : Nat) T t x (u : Str → Option Value) h tk own, items[i]? = some x → h.IsTuple T #[.int i t, x] → (∀ q ∈ Led c, ∀ p ∈ own, p.1 ≠ q.1) → Facts c → P i c → TB c ≤ tk →
      Fr h₀ env.locals h (kstB (fun z => if stored.contains z then u z else m₀ z) (ps c)) → News h₀ env.locals h (Led c ++ own) →
      wpAny (model prog w) A (assign (.Tuple el k py) env (.ref T)) (fun _ s₃ => wpAny (model prog w) A (execs body env) (XEnd h₀ env.locals { s with heap := h, toks := tk } Led ps Facts stored m₀ (P (i + 1)) TB own Q) E s₃) E { s with heap := h, toks := tk })
    (done : ∀ (c : σ) (u : Str → Option Value) h tk, Facts c → P items.size c → TB c ≤ tk → Fr h₀ env.locals h (kstB (fun z => if stored.contains z then u z else m₀ z) (ps c)) → News h₀ env.locals h (Led c) → Q .next { s with heap := h, toks := tk }) :
    wpAny (model prog w) A (call (.type "enumerate") [.ref l]) (fun xv s₁ => wpAny (model prog w) A (pyIter xv) (fun it s₂ => codeAny (model prog w) A (.forLoop (.Tuple el k py) it body [] env) (fun r s' => match r with | .ok f => Q f s' | .error e => cameBackBy (model prog w) A env E e s') s₂) E s₁) E s := by
  have hl' := hl.at fun o e => F.keep l o e
  have hlt : l < s.heap.objs.size := by obtain ⟨o, ho, _⟩ := hl'; exact Heap.lt_size ho
  refine call_enumerate_list hl' fun h' hEn hI hsz hk' => ?_
  refine wpAny_pyIter_enum hEn ?_
  have hLs : env.locals < s.heap.objs.size := F.ns.lt
  have hLl : env.locals ≠ l := fun q => by
    obtain ⟨o, ho, _⟩ := hl
    exact absurd (Heap.lt_size ho) (by rw [← q]; exact Nat.not_lt.mpr F.above)
  refine x_loop (s := { s with heap := h' }) Led ps Facts stored P TB c₀ [] (KTurns.ofWalksU (WalksT.toU (WalksT.enumerate hh (s.heap.objs.size + 1) s.heap.objs.size l (Nat.succ_ne_self _) (Nat.ne_of_lt (Nat.lt_succ_of_lt hlt)) (Nat.ne_of_lt hlt) items))) (fun i h st b hb => ?_) (fun hm => ?_) (fun b hb => ?_) ⟨⟨_, hEn⟩, hI, hl'.at fun o e => hk' _ _ e⟩ (fun p hp => nomatch hp) (fun _ p hp => nomatch hp) (fun q hq hm => ?_) (F.keeps hk') (N.grown hk') hf hps hp htb hE (fun c i v u h tk own hi hIt hown hd hf' hp' ht' F' N' => ?_) done
  · obtain ⟨⟨old, he⟩, hit, hll⟩ := st
    rcases List.mem_cons.mp hb with rfl | hb
    · exact ⟨_, he⟩
    rcases List.mem_cons.mp hb with rfl | hb
    · obtain ⟨o, ho, _⟩ := hit
      exact ⟨o, ho⟩
    · rw [List.mem_singleton.mp hb]
      obtain ⟨o, ho, _⟩ := hll
      exact ⟨o, ho⟩
  · rcases List.mem_cons.mp hm with hm | hm
    · exact absurd hLs (by rw [hm]; exact Nat.not_lt.mpr (Nat.le_succ _))
    rcases List.mem_cons.mp hm with hm | hm
    · exact absurd hLs (by rw [hm]; exact Nat.lt_irrefl _)
    · exact hLl (List.mem_singleton.mp hm)
  · rcases List.mem_cons.mp hb with rfl | hb
    · exact next_new F (Nat.le_succ _)
    · rw [List.mem_singleton.mp hb]
      exact next_new F (Nat.le_refl _)
  · have := Heap.lt_size (N q hq).1
    rcases List.mem_cons.mp hm with hm | hm
    · exact absurd this (by rw [hm]; exact Nat.not_lt.mpr (Nat.le_succ _))
    rcases List.mem_cons.mp hm with hm | hm
    · exact absurd this (by rw [hm]; exact Nat.lt_irrefl _)
    · have hz := (N q hq).2.2
      obtain ⟨o, ho, _⟩ := hl
      rw [List.mem_singleton.mp hm, ho] at hz
      cases hz
  · obtain ⟨T, vals, rfl, ⟨t, x, hx, rfl⟩, hT⟩ := hIt
    exact turn c i T t x u h tk own hx hT hd hf' hp' ht' F' N'
/-- a for over a text's signs -/
theorem x_str {y : Str} {py : Pos} {x : Str} {t : Tok} {σ : Type} (Led : σ → List (Addr × Obj)) (ps : σ → List (Str × Value)) (Facts : σ → Prop) (stored : List Str) (P : Nat → σ → Prop) (TB : σ → Nat) (c₀ : σ) {m₀ : Str → Option Value}
    (ha : x.cps.all (· < 128) = true) (hh : A.handled = none)
    (F : Fr h₀ env.locals s.heap m₀) (N : News h₀ env.locals s.heap (Led c₀)) (hf : Facts c₀) (hps : ∀ p ∈ ps c₀, m₀ p.1 = some p.2) (hp : P 0 c₀) (htb : TB c₀ ≤ s.toks) (hE : PassesOwn (model prog w) A env E)
    (turn : ∀ (c : σ) (i : Nat) ch tv (u : Str → Option Value) h tk own, x.cps[i]? = some ch → (∀ q ∈ Led c, ∀ p ∈ own, p.1 ≠ q.1) → Facts c → P i c → TB c ≤ tk →
      Fr h₀ env.locals h (kstB (fun z => if stored.contains z then u z else m₀ z) (ps c)) → News h₀ env.locals h (Led c ++ own) →
      wpAny (model prog w) A (assign (.Name y py) env (.str ⟨#[ch]⟩ tv)) (fun _ s₃ => wpAny (model prog w) A (execs body env) (XEnd h₀ env.locals { s with heap := h, toks := tk } Led ps Facts stored m₀ (P (i + 1)) TB own Q) E s₃) E { s with heap := h, toks := tk })
    (done : ∀ (c : σ) (u : Str → Option Value) h tk, Facts c → P x.cps.size c → TB c ≤ tk → Fr h₀ env.locals h (kstB (fun z => if stored.contains z then u z else m₀ z) (ps c)) → News h₀ env.locals h (Led c) → Q .next { s with heap := h, toks := tk }) :
    wpAny (model prog w) A (pyIter (.str x t)) (fun it s₂ => codeAny (model prog w) A (.forLoop (.Name y py) it body [] env) (fun r s' => match r with | .ok f => Q f s' | .error e => cameBackBy (model prog w) A env E e s') s₂) E s := by
  refine wpAny_pyIter_ascii ha ?_
  refine x_loop (s := { s with heap := s.heap.push { cls := .type "str_ascii_iterator", data := .fields #[.str x t, .int 0 0] } }) Led ps Facts stored P TB c₀ [] (KTurns.ofWalks (Walks.strAscii hh s.heap.objs.size x t) fun i v s Q E st q => ?_) (fun i h st b hb => ?_) (fun hm => ?_) (fun b hb => ?_) ⟨_, Heap.get?_push_size _ rfl, rfl, rfl⟩ (fun p hp => nomatch hp) (fun _ p hp => nomatch hp) (fun q hq hm => ?_) (F.push _) (fun p hp => ⟨Heap.get?_push_of_some _ (N p hp).1, (N p hp).2⟩) hf hps hp htb hE (fun c i v u h tk own hi hIt hown hd hf' hp' ht' F' N' => ?_) done
  · exact wpAny_pure q
  · obtain ⟨o, ho, _⟩ := st
    rw [List.mem_singleton.mp hb]
    exact ⟨o, ho⟩
  · exact absurd F.ns.lt (by rw [List.mem_singleton.mp hm]; exact Nat.lt_irrefl _)
  · rw [List.mem_singleton.mp hb]
    exact next_new F (Nat.le_refl _)
  · exact absurd (Heap.lt_size (N q hq).1) (by rw [List.mem_singleton.mp hm]; exact Nat.lt_irrefl _)
  · obtain ⟨ch, tv, e, rfl⟩ := hIt
    exact turn c i ch tv u h tk own e hd hf' hp' ht' F' N'
end
set_option maxRecDepth 100000
section
variable {prog : Program} {w : World} {A : Around} {E : Value → Shared → Prop} {env : Env} {h₀ : Heap} {target : Expr} {body : List Stmt} {Q : Flow → Shared → Prop}
/-- the end of a turn, with a bound TB of the tokens told so far -/
noncomputable def YEndN {σ : Type} (h₀ : Heap) (L : Addr) (s : Shared) (Led : σ → List (Addr × Obj)) (ps : σ → List (Str × Value)) (Facts : σ → Prop) (P : σ → Prop) (TB : σ → Nat) (own : List (Addr × Obj)) (s₂ : Shared) : Prop :=
  s.toks ≤ s₂.toks → ∃ (c' : σ) (h' : Heap) (tk : Nat) (m' : Str → Option Value) (news' : List (Addr × Obj)), s₂ = { s with heap := h', toks := tk } ∧ Fr h₀ L h' m' ∧ News h₀ L h' news' ∧ (∀ p ∈ Led c', p ∈ news') ∧ (∀ p ∈ own, p ∈ news') ∧ (∀ q ∈ Led c', ∀ p ∈ own, p.1 ≠ q.1) ∧ Facts c' ∧ (∀ p ∈ ps c', m' p.1 = some p.2) ∧ P c' ∧ TB c' ≤ tk
noncomputable def YEnd {σ : Type} (h₀ : Heap) (L : Addr) (s : Shared) (Led : σ → List (Addr × Obj)) (ps : σ → List (Str × Value)) (Facts : σ → Prop) (P : σ → Prop) (TB : σ → Nat) (own : List (Addr × Obj)) (Q : Flow → Shared → Prop) (f : Flow) (s₂ : Shared) : Prop :=
  match f with
  | .ret v => Q (.ret v) s₂
  | .brk => Q .next s₂
  | _ => YEndN h₀ L s Led ps Facts P TB own s₂
theorem fr_names {h₀ h : Heap} {L : Addr} {m : Str → Option Value} {ps : List (Str × Value)} (h1 : ∀ p ∈ ps, m p.1 = some p.2) (F : Fr h₀ L h m) : Fr h₀ L h (kstB m ps) := by
  have e : kstB m ps = m := funext fun y => kstB_eq h1 fun _ => rfl
  rw [e]; exact F
theorem yend_ {σ : Type} {L : Addr} {s : Shared} {Led : σ → List (Addr × Obj)} {ps : σ → List (Str × Value)} {Facts : σ → Prop} {m' : Str → Option Value} {P : σ → Prop} {TB : σ → Nat} {own news' : List (Addr × Obj)} {h' : Heap} {tk : Nat} (c' : σ)
    (F : Fr h₀ L h' m') (N : News h₀ L h' news') (hn : ∀ p ∈ Led c', p ∈ news') (ho : ∀ p ∈ own, p ∈ news') (hd : ∀ q ∈ Led c', ∀ p ∈ own, p.1 ≠ q.1) (hf : Facts c') (hk : ∀ p ∈ ps c', m' p.1 = some p.2) (hp : P c') (ht : s.toks ≤ tk → TB c' ≤ tk) :
    YEndN h₀ L s Led ps Facts P TB own { s with heap := h', toks := tk } := fun hle => ⟨c', h', tk, m', news', rfl, F, N, hn, ho, hd, hf, hk, hp, ht hle⟩
/-- a for over what W walks: its ledger, its names and its word are ours; the tokens told stay under the state's -/
theorem y_loop {s : Shared} {I : Addr} {fp wr : List Addr} {n : Nat} {It Md : Nat → Value → Heap → Prop} {St : Nat → Heap → Prop} {σ : Type} (Led : σ → List (Addr × Obj)) (ps : σ → List (Str × Value)) (Facts : σ → Prop) (P : Nat → σ → Prop) (TB : σ → Nat) (c₀ : σ) (keep : List (Addr × Obj)) {m₀ : Str → Option Value}
    (W : KTurns prog w A target I fp wr n It Md St) (hal : ∀ i h, St i h → ∀ b ∈ fp, ∃ o, h.get? b = some o) (hL : env.locals ∉ fp) (hwr : ∀ b ∈ wr, h₀.get? b = none) (hst : St 0 s.heap)
    (hkw : ∀ p ∈ keep, p.1 ∉ wr) (hk : ∀ c, ∀ p ∈ keep, p ∈ Led c) (h0 : ∀ q ∈ Led c₀, q.1 ∈ fp → q ∈ keep)
    (F : Fr h₀ env.locals s.heap m₀) (N : News h₀ env.locals s.heap (Led c₀)) (hf : Facts c₀) (hps : ∀ p ∈ ps c₀, m₀ p.1 = some p.2) (hp : P 0 c₀) (htb : TB c₀ ≤ s.toks) (hE : PassesOwn (model prog w) A env E)
    (turn : ∀ (c : σ) i v (u : Str → Option Value) h tk own, i < n → It i v h → (∀ p ∈ own, p.1 ∈ fp) → (∀ q ∈ Led c, ∀ p ∈ own, p.1 ≠ q.1) → Facts c → P i c → TB c ≤ tk →
      Fr h₀ env.locals h (kstB u (ps c)) → News h₀ env.locals h (Led c ++ own) →
      wpAny (model prog w) A (assign target env v) (fun _ s₃ => wpAny (model prog w) A (execs body env) (YEnd h₀ env.locals { s with heap := h, toks := tk } Led ps Facts (P (i + 1)) TB own Q) E s₃) E { s with heap := h, toks := tk })
    (done : ∀ (c : σ) (u : Str → Option Value) h tk, Facts c → P n c → TB c ≤ tk → Fr h₀ env.locals h (kstB u (ps c)) → News h₀ env.locals h (Led c) → Q .next { s with heap := h, toks := tk }) :
    codeAny (model prog w) A (.forLoop target (.ref I) body [] env) (fun r s' => match r with | .ok f => Q f s' | .error e => cameBackBy (model prog w) A env E e s') s := by
  have hLw : env.locals ∉ wr := fun h => hL (W.sub _ h)
  have old : ∀ b o, h₀.get? b = some o → b ∉ wr := fun b o e hb => by rw [hwr b hb] at e; cases e
  refine codeAny_forLoop_any
    (fun k s' => ∃ h' tk m' c i, s' = { s with heap := h', toks := tk } ∧ St i h' ∧ Fr h₀ env.locals h' m' ∧ News h₀ env.locals h' (Led c) ∧ Facts c ∧ (∀ p ∈ ps c, m' p.1 = some p.2) ∧ P i c ∧ (∀ q ∈ Led c, q.1 ∈ fp → q ∈ keep) ∧ TB c ≤ tk ∧ i ≤ n ∧ k = n + 1 - i) ?_ (n + 1)
    ⟨s.heap, s.toks, m₀, c₀, 0, rfl, hst, F, N, hf, hps, hp, h0, htb, Nat.zero_le _, rfl⟩
  rintro k s' ⟨h', tk, m', c, i, rfl, hst', F', N', hf', h1, hp', hq', ht', hi, rfl⟩
  have next : ∀ h₁ : Heap, (∀ b o, b ∉ wr → h'.get? b = some o → h₁.get? b = some o) → Fr h₀ env.locals h₁ m' ∧ News h₀ env.locals h₁ (Led c) := fun h₁ hk₁ =>
    ⟨⟨F'.ns.at' fun o e => hk₁ _ o hLw e, fun b o e => hk₁ b o (old b o e) (F'.keep b o e), F'.above⟩, fun p hp => ⟨hk₁ _ _ (fun hw => hkw p (hq' p hp (W.sub _ hw)) hw) (N' p hp).1, (N' p hp).2⟩⟩
  by_cases hlt : i < n
  · refine wpAny_with_toks (n := tk) (Nat.le_refl _) (W.item i _ _ _ hlt hst' fun v h₁ tk₁ hMd hk₁ hle => ?_)
    refine W.go i v _ _ _ hMd fun h₂ hP hst₂ hk₂ => ?_
    obtain ⟨F₂, N₂⟩ := next h₂ fun b o hb x => hk₂ b o hb (hk₁ b o hb x)
    have Nown : News h₀ env.locals h₂ (PyProof.Rows.ownOf h₀ fp h₂) := news_ownOf hL
    have N₃ : News h₀ env.locals h₂ (Led c ++ (PyProof.Rows.ownOf h₀ fp h₂).filter fun p => !(keep.map (·.1)).contains p.1) := fun p hp => by
      rcases List.mem_append.mp hp with hp | hp
      · exact N₂ p hp
      · exact Nown p (List.mem_filter.mp hp).1
    have hown : ∀ p ∈ PyProof.Rows.ownOf h₀ fp h₂, p.1 ∈ fp := ownOf_sub
    have hd : ∀ q ∈ Led c, ∀ p ∈ (PyProof.Rows.ownOf h₀ fp h₂).filter fun p => !(keep.map (·.1)).contains p.1, p.1 ≠ q.1 := fun q hq p hp e => by
      have h3 := (List.mem_filter.mp hp).2
      have h4 : q ∈ keep := hq' q hq (e ▸ hown p (List.mem_filter.mp hp).1)
      simp only [Bool.not_eq_true'] at h3
      have h5 : (keep.map (·.1)).contains p.1 = true := List.contains_iff_mem.mpr (List.mem_map.mpr ⟨q, h4, e.symm⟩)
      rw [h5] at h3
      cases h3
    refine wpAny_mono (wpAny_toks (turn c i v m' h₂ tk₁ _ hlt hP (fun p hp => hown p (List.mem_filter.mp hp).1) hd hf' hp' (Nat.le_trans ht' hle) (fr_names h1 F₂) N₃)) (fun _ s₂ g => wpAny_mono (wpAny_toks (wpAny_passesOwn hE g.2)) (fun f s₃ g₃ => ?_) fun _ _ e => e.2) (fun e s5 q => hE e s5 q.2)
    have fin : YEndN h₀ env.locals { s with heap := h₂, toks := tk₁ } Led ps Facts (P (i + 1)) TB ((PyProof.Rows.ownOf h₀ fp h₂).filter fun p => !(keep.map (·.1)).contains p.1) s₃ →
        ∃ k, k < n + 1 - i ∧ ∃ h' tk m' c i, s₃ = { s with heap := h', toks := tk } ∧ St i h' ∧ Fr h₀ env.locals h' m' ∧ News h₀ env.locals h' (Led c) ∧ Facts c ∧ (∀ p ∈ ps c, m' p.1 = some p.2) ∧ P i c ∧ (∀ q ∈ Led c, q.1 ∈ fp → q ∈ keep) ∧ TB c ≤ tk ∧ i ≤ n ∧ k = n + 1 - i := by
      intro hY
      obtain ⟨c', h₃, tk₃, m₃, news₃, rfl, F₃, N₃', hn, ho, hd', hf9, hk9, hp9, ht9⟩ := hY (Nat.le_trans g.1 g₃.1)
      have inown : ∀ b ∈ fp, ∀ o, h₂.get? b = some o → h₀.get? b = none → b ∉ keep.map (·.1) → (b, o) ∈ (PyProof.Rows.ownOf h₀ fp h₂).filter fun p => !(keep.map (·.1)).contains p.1 := fun b hb o e hn hkb => by
        refine List.mem_filter.mpr ⟨mem_ownOf hb hn e, ?_⟩
        simp only [Bool.not_eq_true']
        cases hc : (keep.map (·.1)).contains b with
        | false => rfl
        | true => exact absurd (List.contains_iff_mem.mp hc) hkb
      have kept : ∀ b ∈ keep.map (·.1), ∃ q ∈ keep, q.1 = b ∧ h₂.get? b = some q.2 ∧ h₃.get? b = some q.2 := fun b hb => by
        obtain ⟨q, hq, rfl⟩ := List.mem_map.mp hb
        exact ⟨q, hq, rfl, (N₂ q (hk c q hq)).1, (N₃' q (hn q (hk c' q hq))).1⟩
      refine ⟨n + 1 - (i + 1), by omega, h₃, tk₃, m₃, c', i + 1, rfl, ?_, F₃, fun p hp => N₃' p (hn p hp), hf9, hk9, hp9, fun q hq hqf => ?_, ht9, hlt, rfl⟩
      · refine W.frame _ _ _ hst₂ fun b hb o e => ?_
        cases hn0 : h₀.get? b with
        | some o₀ =>
          have : o₀ = o := by have q := F₂.keep b o₀ hn0; rw [e] at q; exact (Option.some.inj q).symm
          exact this ▸ F₃.keep b o₀ hn0
        | none =>
          by_cases hkb : b ∈ keep.map (·.1)
          · obtain ⟨q, hq, _, e2, e3⟩ := kept b hkb
            rw [e] at e2
            rw [e3, e2]
          · exact (N₃' _ (ho _ (inown b hb o e hn0 hkb))).1
      · by_cases hkb : q.1 ∈ keep.map (·.1)
        · obtain ⟨q2, hq2, e1, e2, e3⟩ := kept q.1 hkb
          have g1 := (N₃' q (hn q hq)).1
          rw [e3] at g1
          have : q = q2 := Prod.ext e1.symm (Option.some.inj g1).symm
          exact this ▸ hq2
        · obtain ⟨o, ho'⟩ := hal _ _ hst₂ q.1 hqf
          exact absurd rfl (hd' q hq (q.1, o) (inown q.1 hqf o ho' (N₃' q (hn q hq)).2.2 hkb))
    cases f with
    | ret v => exact g₃.2
    | brk => exact g₃.2
    | cont => exact fin g₃.2
    | next => exact fin g₃.2
  · have hin : i = n := by omega
    subst hin
    refine wpAny_with_toks (n := tk) (Nat.le_refl _) (W.done _ _ _ hst' fun h₁ tk₁ hk₁ hle => wpAny_execs_nil ?_)
    obtain ⟨F₁, N₁⟩ := next h₁ hk₁
    exact done c m' h₁ tk₁ hf' hp' (Nat.le_trans ht' hle) (fr_names h1 F₁) N₁
end
section
variable {prog : Program} {w : World} {A : Around} {E : Value → Shared → Prop} {env : Env} {h₀ : Heap} {body : List Stmt} {Q : Flow → Shared → Prop} {s : Shared}
/-- a for over a list; keep: the list's own entry, if the ledger holds it -/
theorem y_list {target : Expr} {l : Addr} {items : Array Value} {σ : Type} (Led : σ → List (Addr × Obj)) (ps : σ → List (Str × Value)) (Facts : σ → Prop) (P : Nat → σ → Prop) (TB : σ → Nat) (c₀ : σ) (keep : List (Addr × Obj)) {m₀ : Str → Option Value}
    (hgo : (∃ y py, target = .Name y py) ∨ ∃ el k py, target = .Tuple el k py) (hl : s.heap.IsList l items) (hh : A.handled = none) (hkl : ∀ p ∈ keep, p.1 = l) (hk : ∀ c, ∀ p ∈ keep, p ∈ Led c) (h0 : ∀ q ∈ Led c₀, q.1 = l → q ∈ keep)
    (F : Fr h₀ env.locals s.heap m₀) (N : News h₀ env.locals s.heap (Led c₀)) (hL : env.locals ≠ l) (hf : Facts c₀) (hps : ∀ p ∈ ps c₀, m₀ p.1 = some p.2) (hp : P 0 c₀) (htb : TB c₀ ≤ s.toks) (hE : PassesOwn (model prog w) A env E)
    (turn : ∀ (c : σ) i v (u : Str → Option Value) h tk own, items[i]? = some v → (∀ q ∈ Led c, ∀ p ∈ own, p.1 ≠ q.1) → Facts c → P i c → TB c ≤ tk →
      Fr h₀ env.locals h (kstB u (ps c)) → News h₀ env.locals h (Led c ++ own) →
      wpAny (model prog w) A (assign target env v) (fun _ s₃ => wpAny (model prog w) A (execs body env) (YEnd h₀ env.locals { s with heap := h, toks := tk } Led ps Facts (P (i + 1)) TB own Q) E s₃) E { s with heap := h, toks := tk })
    (done : ∀ (c : σ) (u : Str → Option Value) h tk, Facts c → P items.size c → TB c ≤ tk → Fr h₀ env.locals h (kstB u (ps c)) → News h₀ env.locals h (Led c) → Q .next { s with heap := h, toks := tk }) :
    wpAny (model prog w) A (pyIter (.ref l)) (fun it s₂ => codeAny (model prog w) A (.forLoop target it body [] env) (fun r s' => match r with | .ok f => Q f s' | .error e => cameBackBy (model prog w) A env E e s') s₂) E s := by
  have hlt : l < s.heap.objs.size := by obtain ⟨o, ho, _⟩ := hl; exact Heap.lt_size ho
  have hne : l ≠ s.heap.objs.size := Nat.ne_of_lt hlt
  refine wpAny_pyIter_list hl ?_
  refine y_loop (s := { s with heap := s.heap.push { cls := .type "list_iterator", data := .fields #[.ref l, .int 0 0] } }) Led ps Facts P TB c₀ keep (KTurns.ofWalks (Walks.list hh s.heap.objs.size l hne items) fun i v s Q E st q => ?_) (fun i h st b hb => ?_) (fun hm => ?_) (fun b hb => ?_) ⟨⟨_, Heap.get?_push_size _ rfl, rfl, rfl⟩, hl.push _⟩ (fun p hp hm => ?_) hk (fun q hq hm => ?_) (F.push _) (fun p hp => ⟨Heap.get?_push_of_some _ (N p hp).1, (N p hp).2⟩) hf hps hp htb hE (fun c i v u h tk own hi hIt hown hd hf' hp' ht' F' N' => ?_) done
  · rcases hgo with ⟨y, py, rfl⟩ | ⟨el, k, py, rfl⟩
    · exact wpAny_pure q
    · cases v <;> first | exact wpAny_letOwnedTupleGo_listiter st.1 q | exact wpAny_pure q
  · rcases List.mem_cons.mp hb with rfl | hb
    · obtain ⟨o, ho, _⟩ := st.1
      exact ⟨o, ho⟩
    · rw [List.mem_singleton.mp hb]
      obtain ⟨o, ho, _⟩ := st.2
      exact ⟨o, ho⟩
  · rcases List.mem_cons.mp hm with hm | hm
    · exact absurd F.ns.lt (by rw [hm]; exact Nat.lt_irrefl _)
    · exact hL (List.mem_singleton.mp hm)
  · rw [List.mem_singleton.mp hb]
    exact next_new F (Nat.le_refl _)
  · exact hne ((hkl p hp).symm.trans (List.mem_singleton.mp hm))
  · rcases List.mem_cons.mp hm with hm | hm
    · exact absurd (Heap.lt_size (N q hq).1) (by rw [hm]; exact Nat.lt_irrefl _)
    · exact h0 q hq (List.mem_singleton.mp hm)
  · exact turn c i v u h tk own hIt hd hf' hp' ht' F' N'
/-- a for over a range by ones -/
theorem y_range {y : Str} {py : Pos} {r : Addr} {a₀ b₀ : Int} {t₀ u₀ v₀ : Tok} {n : Nat} {σ : Type} (Led : σ → List (Addr × Obj)) (ps : σ → List (Str × Value)) (Facts : σ → Prop) (P : Nat → σ → Prop) (TB : σ → Nat) (c₀ : σ) {m₀ : Str → Option Value}
    (hr : IsRange s.heap r a₀ b₀ 1 t₀ u₀ v₀) (hsmall : Builtin.Range.small a₀ b₀ 1 = true) (hn : Builtin.Range.rangeSize a₀ b₀ 1 = (n : Int)) (hh : A.handled = none)
    (F : Fr h₀ env.locals s.heap m₀) (N : News h₀ env.locals s.heap (Led c₀)) (hf : Facts c₀) (hps : ∀ p ∈ ps c₀, m₀ p.1 = some p.2) (hp : P 0 c₀) (htb : TB c₀ ≤ s.toks) (hE : PassesOwn (model prog w) A env E)
    (turn : ∀ (c : σ) (i : Nat) t (u : Str → Option Value) h tk own, i < n → (∀ q ∈ Led c, ∀ p ∈ own, p.1 ≠ q.1) → Facts c → P i c → TB c ≤ tk →
      Fr h₀ env.locals h (kstB u (ps c)) → News h₀ env.locals h (Led c ++ own) →
      wpAny (model prog w) A (assign (.Name y py) env (.int (a₀ + (i : Nat)) t)) (fun _ s₃ => wpAny (model prog w) A (execs body env) (YEnd h₀ env.locals { s with heap := h, toks := tk } Led ps Facts (P (i + 1)) TB own Q) E s₃) E { s with heap := h, toks := tk })
    (done : ∀ (c : σ) (u : Str → Option Value) h tk, Facts c → P n c → TB c ≤ tk → Fr h₀ env.locals h (kstB u (ps c)) → News h₀ env.locals h (Led c) → Q .next { s with heap := h, toks := tk }) :
    wpAny (model prog w) A (pyIter (.ref r)) (fun it s₂ => codeAny (model prog w) A (.forLoop (.Name y py) it body [] env) (fun r s' => match r with | .ok f => Q f s' | .error e => cameBackBy (model prog w) A env E e s') s₂) E s := by
  refine wpAny_pyIter_range hr hsmall ?_
  have hst : IsRangeIter (s.heap.push { cls := .type "range_iterator", data := .fields #[rawInt a₀, rawInt (Builtin.Range.rangeSize a₀ b₀ 1), rawInt 1] }) s.heap.objs.size (a₀ + (0 : Nat) * 1) ((n : Int) - (0 : Nat)) 1 := by
    show IsRangeIter _ _ _ _ _
    rw [hn]
    simpa using Heap.get?_push_size _ rfl
  refine y_loop (s := { s with heap := s.heap.push { cls := .type "range_iterator", data := .fields #[rawInt a₀, rawInt (Builtin.Range.rangeSize a₀ b₀ 1), rawInt 1] } }) Led ps Facts P TB c₀ [] (KTurns.ofWalks (Walks.range hh s.heap.objs.size a₀ 1 n) fun i v s Q E st q => ?_) (fun i h st b hb => ?_) (fun hm => ?_) (fun b hb => ?_) hst (fun p hp => nomatch hp) (fun _ p hp => nomatch hp) (fun q hq hm => ?_) (F.push _) (fun p hp => ⟨Heap.get?_push_of_some _ (N p hp).1, (N p hp).2⟩) hf hps hp htb hE (fun c i v u h tk own hi hIt hown hd hf' hp' ht' F' N' => ?_) done
  · exact wpAny_pure q
  · rw [List.mem_singleton.mp hb]
    exact ⟨_, st⟩
  · exact absurd F.ns.lt (by rw [List.mem_singleton.mp hm]; exact Nat.lt_irrefl _)
  · rw [List.mem_singleton.mp hb]
    exact next_new F (Nat.le_refl _)
  · exact absurd (Heap.lt_size (N q hq).1) (by rw [List.mem_singleton.mp hm]; exact Nat.lt_irrefl _)
  · obtain ⟨t, rfl⟩ := hIt
    have e : a₀ + (i : Int) * 1 = a₀ + (i : Nat) := by rw [Int.mul_one]
    rw [e]
    exact turn c i t u h tk own hi hd hf' hp' ht' F' N'
end
set_option maxRecDepth 100000
section
variable {prog : Program} {w : World} {A : Around} {E : Value → Shared → Prop} {env : Env} {h₀ : Heap} {body : List Stmt} {Q : Flow → Shared → Prop} {s : Shared}
/-- a for over enumerate(list), the list told by the base -/
theorem y_enum {el : List Expr} {k : Nat} {py : Pos} {l : Addr} {items : Array Value} {σ : Type} (Led : σ → List (Addr × Obj)) (ps : σ → List (Str × Value)) (Facts : σ → Prop) (P : Nat → σ → Prop) (TB : σ → Nat) (c₀ : σ) {m₀ : Str → Option Value}
    (hl : h₀.IsList l items) (hh : A.handled = none)
    (F : Fr h₀ env.locals s.heap m₀) (N : News h₀ env.locals s.heap (Led c₀)) (hf : Facts c₀) (hps : ∀ p ∈ ps c₀, m₀ p.1 = some p.2) (hp : P 0 c₀) (htb : TB c₀ ≤ s.toks) (hE : PassesOwn (model prog w) A env E)
    (turn : ∀ (c : σ) (i : Nat) T t x (u : Str → Option Value) h tk own, items[i]? = some x → h.IsTuple T #[.int i t, x] → (∀ q ∈ Led c, ∀ p ∈ own, p.1 ≠ q.1) → Facts c → P i c → TB c ≤ tk →
      Fr h₀ env.locals h (kstB u (ps c)) → News h₀ env.locals h (Led c ++ own) →
      wpAny (model prog w) A (assign (.Tuple el k py) env (.ref T)) (fun _ s₃ => wpAny (model prog w) A (execs body env) (YEnd h₀ env.locals { s with heap := h, toks := tk } Led ps Facts (P (i + 1)) TB own Q) E s₃) E { s with heap := h, toks := tk })
    (done : ∀ (c : σ) (u : Str → Option Value) h tk, Facts c → P items.size c → TB c ≤ tk → Fr h₀ env.locals h (kstB u (ps c)) → News h₀ env.locals h (Led c) → Q .next { s with heap := h, toks := tk }) :
    wpAny (model prog w) A (call (.type "enumerate") [.ref l]) (fun xv s₁ => wpAny (model prog w) A (pyIter xv) (fun it s₂ => codeAny (model prog w) A (.forLoop (.Tuple el k py) it body [] env) (fun r s' => match r with | .ok f => Q f s' | .error e => cameBackBy (model prog w) A env E e s') s₂) E s₁) E s := by
  have hl' := hl.at fun o e => F.keep l o e
  have hlt : l < s.heap.objs.size := by obtain ⟨o, ho, _⟩ := hl'; exact Heap.lt_size ho
  refine call_enumerate_list hl' fun h' hEn hI hsz hk' => ?_
  refine wpAny_pyIter_enum hEn ?_
  have hLs : env.locals < s.heap.objs.size := F.ns.lt
  have hLl : env.locals ≠ l := fun q => by
    obtain ⟨o, ho, _⟩ := hl
    exact absurd (Heap.lt_size ho) (by rw [← q]; exact Nat.not_lt.mpr F.above)
  refine y_loop (s := { s with heap := h' }) Led ps Facts P TB c₀ [] (KTurns.ofWalksU (WalksT.toU (WalksT.enumerate hh (s.heap.objs.size + 1) s.heap.objs.size l (Nat.succ_ne_self _) (Nat.ne_of_lt (Nat.lt_succ_of_lt hlt)) (Nat.ne_of_lt hlt) items))) (fun i h st b hb => ?_) (fun hm => ?_) (fun b hb => ?_) ⟨⟨_, hEn⟩, hI, hl'.at fun o e => hk' _ _ e⟩ (fun p hp => nomatch hp) (fun _ p hp => nomatch hp) (fun q hq hm => ?_) (F.keeps hk') (N.grown hk') hf hps hp htb hE (fun c i v u h tk own hi hIt hown hd hf' hp' ht' F' N' => ?_) done
  · obtain ⟨⟨old, he⟩, hit, hll⟩ := st
    rcases List.mem_cons.mp hb with rfl | hb
    · exact ⟨_, he⟩
    rcases List.mem_cons.mp hb with rfl | hb
    · obtain ⟨o, ho, _⟩ := hit
      exact ⟨o, ho⟩
    · rw [List.mem_singleton.mp hb]
      obtain ⟨o, ho, _⟩ := hll
      exact ⟨o, ho⟩
  · rcases List.mem_cons.mp hm with hm | hm
    · exact absurd hLs (by rw [hm]; exact Nat.not_lt.mpr (Nat.le_succ _))
    rcases List.mem_cons.mp hm with hm | hm
    · exact absurd hLs (by rw [hm]; exact Nat.lt_irrefl _)
    · exact hLl (List.mem_singleton.mp hm)
  · rcases List.mem_cons.mp hb with rfl | hb
    · exact next_new F (Nat.le_succ _)
    · rw [List.mem_singleton.mp hb]
      exact next_new F (Nat.le_refl _)
  · have := Heap.lt_size (N q hq).1
    rcases List.mem_cons.mp hm with hm | hm
    · exact absurd this (by rw [hm]; exact Nat.not_lt.mpr (Nat.le_succ _))
    rcases List.mem_cons.mp hm with hm | hm
    · exact absurd this (by rw [hm]; exact Nat.lt_irrefl _)
    · have hz := (N q hq).2.2
      obtain ⟨o, ho, _⟩ := hl
      rw [List.mem_singleton.mp hm, ho] at hz
      cases hz
  · obtain ⟨T, vals, rfl, ⟨t, x, hx, rfl⟩, hT⟩ := hIt
    exact turn c i T t x u h tk own hx hT hd hf' hp' ht' F' N'
end
set_option maxRecDepth 100000
section
variable {prog : Program} {w : World} {A : Around} {E : Value → Shared → Prop} {s : Shared} {env : Env} {h₀ : Heap} {L : Addr} {m : Str → Option Value}
noncomputable abbrev ltB (a b : List Int) : List Bool := List.zipWith (fun p q => decide (p < q)) a b
theorem ltB_get {a b : List Int} {i : Nat} {x y : Int} (h1 : a[i]? = some x) (h2 : b[i]? = some y) : (ltB a b)[i]? = some (decide (x < y)) := by
  rw [List.getElem?_zipWith, h1, h2]
theorem bools_snoc {vs : List Value} {bs : List Bool} {b : Bool} (h : LSm.BoolsAre vs bs) : LSm.BoolsAre (vs ++ [.bool b]) (bs ++ [b]) := by
  induction h with
  | nil => exact .cons _ .nil
  | cons _ _ ih => exact .cons _ ih
noncomputable def ZipSt (z TI TO i1 i2 l1 l2 : Addr) (xs ys : Array Value) (i : Nat) (h : Heap) : Prop := IsZip h z TI TO .none ∧ IsPair h TI (.ref i1) (.ref i2) ∧ (∃ a b, IsPair h TO a b) ∧ h.IsListIter i1 l1 i ∧ h.IsListIter i2 l2 i ∧ h.IsList l1 xs ∧ h.IsList l2 ys
/-- a zip of two lists of ints, and what is to hold of the list of bools that a comprehension makes of it -/
noncomputable def SrcZ (A : Around) (h₀ : Heap) (L : Addr) (m : Str → Option Value) (Q : Value → Shared → Prop) (xv : Value) (s₁ : Shared) : Prop :=
  ∃ (z TI TO i1 i2 l1 l2 : Addr) (v1 v2 : List Value) (a b : List Int) (news : List (Addr × Obj)), xv = .ref z ∧ A.handled = none ∧ ZipApart z TI TO i1 i2 l1 l2 ∧ ZipSt z TI TO i1 i2 l1 l2 v1.toArray v2.toArray 0 s₁.heap ∧ IntsAre v1 a ∧ IntsAre v2 b ∧ a.length ≤ 1000 ∧
    Fr h₀ L s₁.heap m ∧ News h₀ L s₁.heap news ∧ (∀ c ∈ [z, TO, i1, i2], c < s₁.heap.objs.size ∧ h₀.get? c = none ∧ L ≠ c ∧ ∀ p ∈ news, p.1 ≠ c) ∧
    ∀ D h' tk ys, Fr h₀ L h' m → News h₀ L h' ((D, listOf ys.toArray ys.length) :: news) → (∀ p ∈ news, p.1 ≠ D) → LSm.BoolsAre ys (ltB a b) → Q (.ref D) { s₁ with heap := h', toks := tk }
theorem call_zipZ {l1 l2 : Addr} {v1 v2 : List Value} {n1 n2 : Nat} {a b : List Int} {news : List (Addr × Obj)} {Q : Value → Shared → Prop} (hh : A.handled = none) (F : Fr h₀ L s.heap m) (N : News h₀ L s.heap news) (m1 : (l1, listOf v1.toArray n1) ∈ news) (m2 : (l2, listOf v2.toArray n2) ∈ news) (i1 : IntsAre v1 a) (i2 : IntsAre v2 b) (hl : a.length ≤ 1000)
    (h : ∀ D h' tk ys, Fr h₀ L h' m → News h₀ L h' ((D, listOf ys.toArray ys.length) :: news) → (∀ p ∈ news, p.1 ≠ D) → LSm.BoolsAre ys (ltB a b) → Q (.ref D) { s with heap := h', toks := tk }) :
    wpAny (model prog w) A (call (.type "zip") [.ref l1, .ref l2]) (SrcZ A h₀ L m Q) E s := by
  have e1 : s.heap.IsList l1 v1.toArray := ⟨_, (N _ m1).1, rfl, _, rfl⟩
  have e2 : s.heap.IsList l2 v2.toArray := ⟨_, (N _ m2).1, rfl, _, rfl⟩
  have lt1 : @LT.lt Nat _ l1 s.heap.objs.size := Heap.lt_size (N _ m1).1
  have lt2 : @LT.lt Nat _ l2 s.heap.objs.size := Heap.lt_size (N _ m2).1
  have hLs : L < s.heap.objs.size := F.ns.lt
  refine call_zip_2 e1 e2 fun h' hz hTI hTO hI1 hI2 hsz hk => ?_
  refine ⟨_, _, _, _, _, l1, l2, v1, v2, a, b, news, rfl, hh, ?_, ⟨hz, hTI, ⟨_, _, hTO⟩, hI1, hI2, e1.at fun o e => hk _ o e, e2.at fun o e => hk _ o e⟩, i1, i2, hl, F.keeps hk, N.grown hk, fun c hc => ?_, h⟩
  · constructor <;> (first | exact Nat.ne_of_lt (by omega) | exact Nat.ne_of_gt (by omega) | (show (_ : Nat) ≠ _; omega))
  · have hge : s.heap.objs.size ≤ c ∧ c < h'.objs.size := by
      rw [hsz]
      simp only [List.mem_cons, List.not_mem_nil, or_false] at hc
      rcases hc with rfl | rfl | rfl | rfl <;> (constructor <;> (show (_ : Nat) ≤ _; omega))
    exact ⟨hge.2, next_new F hge.1, fun e => absurd hLs (by rw [e]; exact Nat.not_lt.mpr hge.1), fun p hp e => absurd (Heap.lt_size (N p hp).1) (by rw [e]; exact Nat.not_lt.mpr hge.1)⟩
theorem comp_zip {iter : Expr} {x x₂ : Str} {px px₂ p1 p2 cp tp : Pos} {tk : Nat} {scope : Scope} {pos : Pos} {Q : Value → Shared → Prop} (_F : Fr h₀ L s.heap m)
    (hfree : ∀ y ∈ scope.names, y.2 ≠ .free) (hcell : ∀ y ∈ scope.names, y.2 ≠ .cell) (hkind : scope.kind = .function)
    (hnames : ∀ y ∈ scope.names, y.2 = .local → scope.names.lookup y.1 = some .local) (hx : scope.names.lookup x = some .local) (hx₂ : scope.names.lookup x₂ = some .local) (hxx : x ≠ x₂) (hd : (x == ("__debug__" : Str)) = false) (hd₂ : (x₂ == ("__debug__" : Str)) = false)
    (h : wpAny (model prog w) A (eval iter env) (SrcZ A h₀ L m Q) E s)
    (hs : ∀ x, foldedSetIterable iter env x = pure x) :
    wpAny (model prog w) A (eval (.ListComp (.Compare (.Name x p1) [.Lt] [.Name x₂ p2] cp) [⟨.Tuple [.Name x px, .Name x₂ px₂] tk tp, iter, [], 0⟩] scope pos) env) Q E s := by
  refine wpAny_ListComp hfree hkind hnames (wpAny_mono h (fun xv s₁ h₁ => ?_) fun _ _ e => e) hs
  obtain ⟨z, TI, TO, i1, i2, l1, l2, v1, v2, a, b, news, rfl, hh, D0, st0, ia, ib, hl, F, N, hw, hQ⟩ := h₁
  refine wpAny_pyIter_zip st0.1 (wpAny_newObj_type (hd := by size_fits) (wpAny_newFunctionEnv hcell (by intro y hy; simp at hy) (fun h₁ hns₁ hsb₁ => ?_) hkind))
  dsimp only at hns₁ hsb₁ ⊢
  generalize hH2 : s₁.heap.push { cls := .type "list", dict := none, data := .seq ([] : List Value).toArray } = H2 at hns₁ hsb₁ ⊢
  have hC : H2.objs.size = s₁.heap.objs.size + 1 := by rw [← hH2, Heap.size_push]
  have hDC : s₁.heap.objs.size ≠ H2.objs.size := by rw [hC]; exact Nat.ne_of_lt (Nat.lt_succ_self _)
  have below : ∀ c, c < s₁.heap.objs.size → c ≠ H2.objs.size ∧ c ≠ s₁.heap.objs.size := fun c hc => ⟨by rw [hC]; exact Nat.ne_of_lt (Nat.lt_succ_of_lt hc), Nat.ne_of_lt hc⟩
  have old : ∀ c o, s₁.heap.get? c = some o → h₁.get? c = some o := fun c o e => hsb₁.extBut c o (below c (Heap.lt_size e)).1 (Heap.get?_push_of_some _ (hH2 ▸ Heap.get?_push_of_some _ e))
  have hacc : h₁.get? s₁.heap.objs.size = some (listOf #[] 0) := hsb₁.extBut _ _ hDC (Heap.get?_push_of_some _ (hH2 ▸ Heap.get?_push_size _ rfl))
  have W : WalksT prog w A z [z, TI, TO, i1, i2, l1, l2] [z, TO, i1, i2] (min v1.toArray.size v2.toArray.size) (fun i vals => ∃ x y, v1.toArray[i]? = some x ∧ v2.toArray[i]? = some y ∧ vals = #[x, y]) (ZipSt z TI TO i1 i2 l1 l2 v1.toArray v2.toArray) _ := WalksT.zip2 hh z TI TO i1 i2 l1 l2 D0 v1.toArray v2.toArray
  have st1 : ZipSt z TI TO i1 i2 l1 l2 v1.toArray v2.toArray 0 h₁ := W.frame _ _ _ st0 fun c _ o e => old c o e
  have hfp : ∀ c ∈ [z, TI, TO, i1, i2, l1, l2], c < s₁.heap.objs.size := by
    obtain ⟨q1, q2, ⟨_, _, q3⟩, ⟨_, q4, _⟩, ⟨_, q5, _⟩, ⟨_, q6, _⟩, ⟨_, q7, _⟩⟩ := st0
    intro c hc
    simp only [List.mem_cons, List.not_mem_nil, or_false] at hc
    rcases hc with rfl | rfl | rfl | rfl | rfl | rfl | rfl
    · exact Heap.lt_size q1
    · exact Heap.lt_size q2
    · exact Heap.lt_size q3
    · exact Heap.lt_size q4
    · exact Heap.lt_size q5
    · exact Heap.lt_size q6
    · exact Heap.lt_size q7
  have hbl : (ltB a b).length = min v1.toArray.size v2.toArray.size := by simp [ia.length, ib.length]
  have hnl : min v1.toArray.size v2.toArray.size ≤ 1000 := by have := ia.length; simp; omega
  generalize hn : min v1.toArray.size v2.toArray.size = n at W hbl hnl
  have fin : ∀ (H : Heap) tk' m' ys, H.Ns H2.objs.size m' → H.get? s₁.heap.objs.size = some (listOf (List.toArray ys) ys.length) → LSm.BoolsAre ys (ltB a b) → (∀ c o, c ∉ [z, TO, i1, i2] → c ≠ H2.objs.size → c ≠ s₁.heap.objs.size → s₁.heap.get? c = some o → H.get? c = some o) →
      ∃ mm, H.Ns H2.objs.size mm ∧ ∀ h', Heap.SameBut H2.objs.size H h' → Q (.ref s₁.heap.objs.size) { s₁ with heap := h', toks := tk' } := fun H tk' m' ys hNs hD hB hk => by
    refine ⟨m', hNs, fun h' hs' => hQ _ h' tk' ys ?_ (fun p hp => ?_) (fun p hp e => absurd (Heap.lt_size (N p hp).1) (by rw [e]; exact Nat.lt_irrefl _)) hB⟩
    · have k2 : ∀ c o, (∀ d ∈ [z, TO, i1, i2], c ≠ d) → s₁.heap.get? c = some o → h'.get? c = some o := fun c o q e => hs'.extBut c o (below c (Heap.lt_size e)).1 (hk c o (fun hm => q c hm rfl) (below c (Heap.lt_size e)).1 (below c (Heap.lt_size e)).2 e)
      exact ⟨F.ns.at' fun o e => k2 L o (fun d hd => (hw d hd).2.2.1) e, fun c o e => k2 c o (fun d hd q => by have := (hw d hd).2.1; rw [← q, e] at this; cases this) (F.keep c o e), F.above⟩
    · rcases List.mem_cons.mp hp with rfl | hp
      · exact ⟨hs'.extBut _ _ hDC hD, fun e => absurd F.ns.lt (by rw [← e]; exact Nat.lt_irrefl _), next_new F (Nat.le_refl _)⟩
      · have e := (N p hp).1
        exact ⟨hs'.extBut _ _ (below _ (Heap.lt_size e)).1 (hk _ _ (fun hm => (hw _ hm).2.2.2 p hp rfl) (below _ (Heap.lt_size e)).1 (below _ (Heap.lt_size e)).2 e), (N p hp).2⟩
  have loop : ∀ s₂ : Shared, s₂ = { s₁ with heap := h₁, toks := s₁.toks + ([] : List (Str × Value)).length } →
      codeAny (model prog w) A (.compLoop (.ListComp (.Compare (.Name x p1) [.Lt] [.Name x₂ p2] cp) [⟨.Tuple [.Name x px, .Name x₂ px₂] tk tp, iter, [], 0⟩] scope pos) 0 (.ref z) (.ref s₁.heap.objs.size) (compEnv scope H2.objs.size env))
        (fun r s' => ∃ m, s'.heap.Ns H2.objs.size m ∧ ∀ h', Heap.SameBut H2.objs.size s'.heap h' →
          match r with | .ok _ => Q (.ref s₁.heap.objs.size) { s' with heap := h' } | .error x => wpAny (model prog w) A (passOn "comprehension.variables-let-go" x (compEnv scope H2.objs.size env)) Q E { s' with heap := h' }) s₂ := by
    rintro s₂ rfl
    refine LCp.codeAny_compLoop_pair (fun k s' => ∃ H tk' m' ys i, s' = { s₁ with heap := H, toks := tk' } ∧ ZipSt z TI TO i1 i2 l1 l2 v1.toArray v2.toArray i H ∧ H.Ns H2.objs.size m' ∧ H.get? s₁.heap.objs.size = some (listOf (List.toArray ys) ys.length) ∧ LSm.BoolsAre ys ((ltB a b).take i) ∧ ys.length = i ∧ i ≤ n ∧ k = n + 1 - i ∧
        (∀ c o, c ∉ [z, TO, i1, i2] → c ≠ H2.objs.size → c ≠ s₁.heap.objs.size → s₁.heap.get? c = some o → H.get? c = some o)) ?_ (n + 1)
      ⟨h₁, _, _, [], 0, rfl, st1, hns₁, hacc, .nil, rfl, Nat.zero_le _, rfl, fun c o _ _ _ e => old c o e⟩
    rintro k s' ⟨H, tk', m', ys, i, rfl, hst, hNs, hD, hB, hyl, hi, rfl, hk⟩
    by_cases hlt : i < n
    · have hCf : H2.objs.size ∉ [z, TI, TO, i1, i2, l1, l2] := fun hm => (below _ (hfp _ hm)).1 rfl
      have hDf : s₁.heap.objs.size ∉ [z, TI, TO, i1, i2, l1, l2] := fun hm => (below _ (hfp _ hm)).2 rfl
      have hCw : H2.objs.size ∉ [z, TO, i1, i2] := fun hm => hCf (W.sub _ hm)
      have hDw : s₁.heap.objs.size ∉ [z, TO, i1, i2] := fun hm => hDf (W.sub _ hm)
      refine W.item i _ _ _ hlt hst fun T vals h₂ tk₂ hP hTge hT hM hk₂ => ?_
      have hTw := W.apart _ _ _ hM
      refine W.go _ _ _ i T _ _ _ hM fun h₃ hst₃ hk₃ => ?_
      obtain ⟨xv, yv, ex, ey, rfl⟩ := hP
      have hT₃ : IsTup h₃ T #[xv, yv] := by
        obtain ⟨o, ho, r⟩ := hT
        exact ⟨o, hk₃ T o hTw ho, r⟩
      refine assign_Tuple_tuple hh hT₃ rfl rfl fun h₄ he => ?_
      have he' : ∀ c o, h₃.get? c = some o → h₄.get? c = some o := fun c o e => he c o (Nat.ne_of_lt (Heap.lt_size e)) e
      have up : ∀ c o, c ∉ [z, TO, i1, i2] → H.get? c = some o → h₄.get? c = some o := fun c o q e => he' c o (hk₃ c o q (hk₂ c o q e))
      refine assignInOrder_cons (wpAny_assign_Name (wpAny_storeName_local hx (hNs.at' fun o e => up _ o hCw e) (fun h₅ hn₅ hs₅ => ?_) (by simp [compEnv, hkind])))
      refine assignInOrder_cons (wpAny_assign_Name (wpAny_storeName_local hx₂ hn₅ (fun h₆ hn₆ hs₆ => ?_) (by simp [compEnv, hkind])))
      refine assignInOrder_nil ?_
      have up6 : ∀ c o, c ≠ H2.objs.size → h₄.get? c = some o → h₆.get? c = some o := fun c o hc e => hs₆.extBut c o hc (hs₅.extBut c o hc e)
      obtain ⟨t1, hv1⟩ : ∃ t, xv = .int (a.getD i 0) t ∧ a[i]? = some (a.getD i 0) := by
        have hia : i < a.length := by rw [← ia.length]; simp at hn; omega
        have e := List.getElem?_eq_getElem hia
        obtain ⟨t, ht⟩ := ia.get i _ e
        simp only [List.getElem?_toArray] at ex
        rw [ht] at ex
        exact ⟨t, by rw [← Option.some.inj ex]; simp [List.getD, e], by simp [List.getD, e]⟩
      obtain ⟨t2, hv2⟩ : ∃ t, yv = .int (b.getD i 0) t ∧ b[i]? = some (b.getD i 0) := by
        have hib : i < b.length := by rw [← ib.length]; simp at hn; omega
        have e := List.getElem?_eq_getElem hib
        obtain ⟨t, ht⟩ := ib.get i _ e
        simp only [List.getElem?_toArray] at ey
        rw [ht] at ey
        exact ⟨t, by rw [← Option.some.inj ey]; simp [List.getD, e], by simp [List.getD, e]⟩
      obtain ⟨rfl, ha⟩ := hv1
      obtain ⟨rfl, hb⟩ := hv2
      refine wpAny_Compare1 (wpAny_Name (wpAny_loadName_local (v := .int (a.getD i 0) t1) hkind hx hn₆ (by show (if x = x₂ then _ else if x = x then _ else _) = _; rw [if_neg hxx, if_pos rfl]) (wpAny_Name (wpAny_loadName_local (v := .int (b.getD i 0) t2) hkind hx₂ hn₆ (by show (if x₂ = x₂ then _ else _) = _; rw [if_pos rfl]) (PyProof.Rows.lt_int ?_)) hd₂)) hd)
      have hD₆ : h₆.get? s₁.heap.objs.size = some (listOf (List.toArray ys) ys.length) := up6 _ _ hDC (up _ _ hDw hD)
      refine append_at (hsz := by show ys.toArray.size ≤ sizeLine; rw [List.size_toArray, hyl, sizeLine_eq]; omega) hD₆ fun h₇ hs₇ hD₇ => ?_
      refine ⟨n + 1 - (i + 1), by omega, h₇, _, _, ys ++ [.bool (decide (a.getD i 0 < b.getD i 0))], i + 1, rfl, ?_, hn₆.sameBut hs₇ (Ne.symm hDC), ?_, ?_, by rw [List.length_append, hyl]; rfl, hlt, rfl, fun c o q1 q2 q3 e => hs₇.extBut c o q3 (up6 c o q2 (up c o q1 (hk c o q1 q2 q3 e)))⟩
      · exact W.frame _ _ _ hst₃ fun c hc o e => hs₇.extBut c o (fun q => hDf (q ▸ hc)) (up6 c o (fun q => hCf (q ▸ hc)) (he' c o e))
      · rw [hD₇, List.length_append, ← List.push_toArray]; rfl
      · rw [List.take_add_one, ltB_get ha hb]
        exact bools_snoc hB
    · have hin : i = n := by omega
      subst hin
      refine W.done _ _ _ hst fun h₂ tk₂ hk₂ => ?_
      have hCw : H2.objs.size ∉ [z, TO, i1, i2] := fun hm => (below _ (hfp _ (W.sub _ hm))).1 rfl
      have hDw : s₁.heap.objs.size ∉ [z, TO, i1, i2] := fun hm => (below _ (hfp _ (W.sub _ hm))).2 rfl
      obtain ⟨mm, q1, q2⟩ := fin h₂ tk₂ m' ys (hNs.at' fun o e => hk₂ _ o hCw e) (hk₂ _ _ hDw hD) (by rw [List.take_of_length_le (by rw [hbl]; exact Nat.le_refl _)] at hB; exact hB) fun c o p1 p2 p3 e => hk₂ c o p1 (hk c o p1 p2 p3 e)
      exact ⟨mm, q1, q2⟩
  exact codeAny_compStart_list (loop _ rfl) (W.self 0 _ _ _ st1 (loop _ rfl))
end
set_option maxRecDepth 100000
set_option maxHeartbeats 8000000
noncomputable abbrev PR : Program := Challenge.rw_xg0062_01.row.prog
section
variable {w : World} {p : Program} {loose : List Str} {mean : ExcName → Option Value} {mg mb : Str → Option Value} {dp un : Nat} {gd : Option (List Code)} {cn : Str} {cs : Scope} {a : Addr} {ccd : Value} {cl : List (Str × Addr)} {outer : List Env} {A₀ : Around} {base h₀ : Heap} {L : Addr} {m : Str → Option Value} {s : Shared}
theorem and_p {x y : Int} {t u : Tok} (B : Below A₀ base outer h₀) (F : Fr h₀ L s.heap m) (X : (hd.heap_1 w.params).In h₀) (TP : Top p loose mean mg mb h₀) (hk : cs.kind = .function) (hdp : dp + 2 < recursionLimit) (hun : un + 20 < cLine) :
    PureAt PR w (ktrTop dp un gd cn cs L a ccd cl outer) h₀ L m s 28 [.int x t, .int y u] (fun r tl => tl = [] ∧ ∃ t, r = .int (Builtin.bitAnd x y) t) := by
  k_with_none
  w_top off
  k_with "m_enter" => ((case kA => exact rfl); (case kF => exact rfl); (case kK => assumption); (case k1 => k_asm); (case k2 => k_asm); (case k3 => k_asm); (case k5 => k_asm); (case k6 => k_is); (case k7 => k_is); (case k8 => walk_at "lt_room"); (case k9 => exact BindsTo.of_eq rfl); (case c5 => decide); (case kB => exact locs rfl); (case c2 => exact rfl); (case c3 => exact rfl); (case c4 => exact rfl); k_whole; intro g' L' h' F' N' B' X' T'; (try dsimp only [List.reverse, List.reverseAux, List.length]))
  k_with "m_pure" => ((case k1 => k_asm); (case k2 => k_asm); (case k3 => k_asm); (case k4 => k_asm); (case kK => first | exact rfl | assumption); (case kd => walk_at "lt_room"); (case ku => walk_at "lt_units"))
  k_with "m_useI" => (walk_at "m_pure"; (case k5 => k_asm); intro t9 h9 tk9 F9 N9; (try dsimp only); (try k_sweep))
  k_with "m_same" => (intro z h2 h3; (try simp only [List.forall_mem_cons, List.not_mem_nil, false_implies, implies_true, and_true, ne_eq, List.contains_cons, List.contains_nil, Bool.or_false, Bool.or_eq_false_iff, beq_eq_false_iff_ne] at h2 h3); simp [kstB, h2, h3])
  k_with "lt_room" => (first | with_unfolding_all exact room2 (j := 0) hdp rfl rfl | with_unfolding_all exact room0 (j := 0) hdp rfl rfl | with_unfolding_all exact room2 (j := 1) hdp rfl rfl | with_unfolding_all exact room0 (j := 1) hdp rfl rfl | with_unfolding_all exact room2 (j := 2) hdp rfl rfl | with_unfolding_all exact room0 (j := 2) hdp rfl rfl | with_unfolding_all exact room2 (j := 3) hdp rfl rfl | with_unfolding_all exact room0 (j := 3) hdp rfl rfl | with_unfolding_all exact room2 (j := 4) hdp rfl rfl | with_unfolding_all exact room0 (j := 4) hdp rfl rfl | with_unfolding_all exact room2 (j := 5) hdp rfl rfl | with_unfolding_all exact room0 (j := 5) hdp rfl rfl | with_unfolding_all exact room2 (j := 6) hdp rfl rfl | with_unfolding_all exact room0 (j := 6) hdp rfl rfl | with_unfolding_all exact room2 (j := 7) hdp rfl rfl | with_unfolding_all exact room0 (j := 7) hdp rfl rfl | (trace "heavy"; ktr_room))
  k_with "lt_units" => (first | with_unfolding_all exact room2 (j := 0) hun rfl rfl | with_unfolding_all exact room0 (j := 0) hun rfl rfl | with_unfolding_all exact room2 (j := 1) hun rfl rfl | with_unfolding_all exact room0 (j := 1) hun rfl rfl | with_unfolding_all exact room2 (j := 2) hun rfl rfl | with_unfolding_all exact room0 (j := 2) hun rfl rfl | with_unfolding_all exact room2 (j := 3) hun rfl rfl | with_unfolding_all exact room0 (j := 3) hun rfl rfl | with_unfolding_all exact room2 (j := 4) hun rfl rfl | with_unfolding_all exact room0 (j := 4) hun rfl rfl | with_unfolding_all exact room2 (j := 5) hun rfl rfl | with_unfolding_all exact room0 (j := 5) hun rfl rfl | with_unfolding_all exact room2 (j := 6) hun rfl rfl | with_unfolding_all exact room0 (j := 6) hun rfl rfl | with_unfolding_all exact room2 (j := 7) hun rfl rfl | with_unfolding_all exact room0 (j := 7) hun rfl rfl | (trace "heavy"; ktr_units))
  k_dflt (refine' pure_code (n0 := []) (binds := [(Str.ofString "a", .int x t), (Str.ofString "b", .int y u)]) ?k1 ?k2 ?k3 ?k5 News.nil ?kA ?kF ?kK ?k6 ?k7 ?k8 ?k9 ?kB ?_ ?c2 ?c3 ?c4 ?c5; walk_at "m_enter")
  k_steps
  exact leaveP_ (by assumption) (by assumption) [] sub_nil new_nil ⟨rfl, _, rfl⟩
theorem neg_p {x : Int} {t : Tok} (B : Below A₀ base outer h₀) (F : Fr h₀ L s.heap m) (X : (hd.heap_1 w.params).In h₀) (TP : Top p loose mean mg mb h₀) (hk : cs.kind = .function) (hdp : dp + 2 < recursionLimit) (hun : un + 20 < cLine) :
    PureAt PR w (ktrTop dp un gd cn cs L a ccd cl outer) h₀ L m s 35 [.int x t] (fun r tl => tl = [] ∧ ∃ t, r = .int (-x) t) := by
  k_with_none
  w_top off
  k_with "m_enter" => ((case kA => exact rfl); (case kF => exact rfl); (case kK => assumption); (case k1 => k_asm); (case k2 => k_asm); (case k3 => k_asm); (case k5 => k_asm); (case k6 => k_is); (case k7 => k_is); (case k8 => walk_at "lt_room"); (case k9 => exact BindsTo.of_eq rfl); (case c5 => decide); (case kB => exact locs rfl); (case c2 => exact rfl); (case c3 => exact rfl); (case c4 => exact rfl); k_whole; intro g' L' h' F' N' B' X' T'; (try dsimp only [List.reverse, List.reverseAux, List.length]))
  k_with "m_pure" => ((case k1 => k_asm); (case k2 => k_asm); (case k3 => k_asm); (case k4 => k_asm); (case kK => first | exact rfl | assumption); (case kd => walk_at "lt_room"); (case ku => walk_at "lt_units"))
  k_with "m_useI" => (walk_at "m_pure"; (case k5 => k_asm); intro t9 h9 tk9 F9 N9; (try dsimp only); (try k_sweep))
  k_with "m_same" => (intro z h2 h3; (try simp only [List.forall_mem_cons, List.not_mem_nil, false_implies, implies_true, and_true, ne_eq, List.contains_cons, List.contains_nil, Bool.or_false, Bool.or_eq_false_iff, beq_eq_false_iff_ne] at h2 h3); simp [kstB, h2, h3])
  k_with "lt_room" => (first | with_unfolding_all exact room2 (j := 0) hdp rfl rfl | with_unfolding_all exact room0 (j := 0) hdp rfl rfl | with_unfolding_all exact room2 (j := 1) hdp rfl rfl | with_unfolding_all exact room0 (j := 1) hdp rfl rfl | with_unfolding_all exact room2 (j := 2) hdp rfl rfl | with_unfolding_all exact room0 (j := 2) hdp rfl rfl | with_unfolding_all exact room2 (j := 3) hdp rfl rfl | with_unfolding_all exact room0 (j := 3) hdp rfl rfl | with_unfolding_all exact room2 (j := 4) hdp rfl rfl | with_unfolding_all exact room0 (j := 4) hdp rfl rfl | with_unfolding_all exact room2 (j := 5) hdp rfl rfl | with_unfolding_all exact room0 (j := 5) hdp rfl rfl | with_unfolding_all exact room2 (j := 6) hdp rfl rfl | with_unfolding_all exact room0 (j := 6) hdp rfl rfl | with_unfolding_all exact room2 (j := 7) hdp rfl rfl | with_unfolding_all exact room0 (j := 7) hdp rfl rfl | (trace "heavy"; ktr_room))
  k_with "lt_units" => (first | with_unfolding_all exact room2 (j := 0) hun rfl rfl | with_unfolding_all exact room0 (j := 0) hun rfl rfl | with_unfolding_all exact room2 (j := 1) hun rfl rfl | with_unfolding_all exact room0 (j := 1) hun rfl rfl | with_unfolding_all exact room2 (j := 2) hun rfl rfl | with_unfolding_all exact room0 (j := 2) hun rfl rfl | with_unfolding_all exact room2 (j := 3) hun rfl rfl | with_unfolding_all exact room0 (j := 3) hun rfl rfl | with_unfolding_all exact room2 (j := 4) hun rfl rfl | with_unfolding_all exact room0 (j := 4) hun rfl rfl | with_unfolding_all exact room2 (j := 5) hun rfl rfl | with_unfolding_all exact room0 (j := 5) hun rfl rfl | with_unfolding_all exact room2 (j := 6) hun rfl rfl | with_unfolding_all exact room0 (j := 6) hun rfl rfl | with_unfolding_all exact room2 (j := 7) hun rfl rfl | with_unfolding_all exact room0 (j := 7) hun rfl rfl | (trace "heavy"; ktr_units))
  k_dflt (refine' pure_code (n0 := []) (binds := [(Str.ofString "a", .int x t)]) ?k1 ?k2 ?k3 ?k5 News.nil ?kA ?kF ?kK ?k6 ?k7 ?k8 ?k9 ?kB ?_ ?c2 ?c3 ?c4 ?c5; walk_at "m_enter")
  k_steps
  exact leaveP_ (by assumption) (by assumption) [] sub_nil new_nil ⟨rfl, _, rfl⟩
theorem or_p {x y : Int} {t u : Tok} (B : Below A₀ base outer h₀) (F : Fr h₀ L s.heap m) (X : (hd.heap_1 w.params).In h₀) (TP : Top p loose mean mg mb h₀) (hk : cs.kind = .function) (hdp : dp + 2 < recursionLimit) (hun : un + 20 < cLine) :
    PureAt PR w (ktrTop dp un gd cn cs L a ccd cl outer) h₀ L m s 42 [.int x t, .int y u] (fun r tl => tl = [] ∧ ∃ t, r = .int (Builtin.bitOr x y) t) := by
  k_with_none
  w_top off
  k_with "m_enter" => ((case kA => exact rfl); (case kF => exact rfl); (case kK => assumption); (case k1 => k_asm); (case k2 => k_asm); (case k3 => k_asm); (case k5 => k_asm); (case k6 => k_is); (case k7 => k_is); (case k8 => walk_at "lt_room"); (case k9 => exact BindsTo.of_eq rfl); (case c5 => decide); (case kB => exact locs rfl); (case c2 => exact rfl); (case c3 => exact rfl); (case c4 => exact rfl); k_whole; intro g' L' h' F' N' B' X' T'; (try dsimp only [List.reverse, List.reverseAux, List.length]))
  k_with "m_pure" => ((case k1 => k_asm); (case k2 => k_asm); (case k3 => k_asm); (case k4 => k_asm); (case kK => first | exact rfl | assumption); (case kd => walk_at "lt_room"); (case ku => walk_at "lt_units"))
  k_with "m_useI" => (walk_at "m_pure"; (case k5 => k_asm); intro t9 h9 tk9 F9 N9; (try dsimp only); (try k_sweep))
  k_with "m_same" => (intro z h2 h3; (try simp only [List.forall_mem_cons, List.not_mem_nil, false_implies, implies_true, and_true, ne_eq, List.contains_cons, List.contains_nil, Bool.or_false, Bool.or_eq_false_iff, beq_eq_false_iff_ne] at h2 h3); simp [kstB, h2, h3])
  k_with "lt_room" => (first | with_unfolding_all exact room2 (j := 0) hdp rfl rfl | with_unfolding_all exact room0 (j := 0) hdp rfl rfl | with_unfolding_all exact room2 (j := 1) hdp rfl rfl | with_unfolding_all exact room0 (j := 1) hdp rfl rfl | with_unfolding_all exact room2 (j := 2) hdp rfl rfl | with_unfolding_all exact room0 (j := 2) hdp rfl rfl | with_unfolding_all exact room2 (j := 3) hdp rfl rfl | with_unfolding_all exact room0 (j := 3) hdp rfl rfl | with_unfolding_all exact room2 (j := 4) hdp rfl rfl | with_unfolding_all exact room0 (j := 4) hdp rfl rfl | with_unfolding_all exact room2 (j := 5) hdp rfl rfl | with_unfolding_all exact room0 (j := 5) hdp rfl rfl | with_unfolding_all exact room2 (j := 6) hdp rfl rfl | with_unfolding_all exact room0 (j := 6) hdp rfl rfl | with_unfolding_all exact room2 (j := 7) hdp rfl rfl | with_unfolding_all exact room0 (j := 7) hdp rfl rfl | (trace "heavy"; ktr_room))
  k_with "lt_units" => (first | with_unfolding_all exact room2 (j := 0) hun rfl rfl | with_unfolding_all exact room0 (j := 0) hun rfl rfl | with_unfolding_all exact room2 (j := 1) hun rfl rfl | with_unfolding_all exact room0 (j := 1) hun rfl rfl | with_unfolding_all exact room2 (j := 2) hun rfl rfl | with_unfolding_all exact room0 (j := 2) hun rfl rfl | with_unfolding_all exact room2 (j := 3) hun rfl rfl | with_unfolding_all exact room0 (j := 3) hun rfl rfl | with_unfolding_all exact room2 (j := 4) hun rfl rfl | with_unfolding_all exact room0 (j := 4) hun rfl rfl | with_unfolding_all exact room2 (j := 5) hun rfl rfl | with_unfolding_all exact room0 (j := 5) hun rfl rfl | with_unfolding_all exact room2 (j := 6) hun rfl rfl | with_unfolding_all exact room0 (j := 6) hun rfl rfl | with_unfolding_all exact room2 (j := 7) hun rfl rfl | with_unfolding_all exact room0 (j := 7) hun rfl rfl | (trace "heavy"; ktr_units))
  k_dflt (refine' pure_code (n0 := []) (binds := [(Str.ofString "a", .int x t), (Str.ofString "b", .int y u)]) ?k1 ?k2 ?k3 ?k5 News.nil ?kA ?kF ?kK ?k6 ?k7 ?k8 ?k9 ?kB ?_ ?c2 ?c3 ?c4 ?c5; walk_at "m_enter")
  k_steps
  exact leaveP_ (by assumption) (by assumption) [] sub_nil new_nil ⟨rfl, _, rfl⟩
theorem sub_p {x y : Int} {t u : Tok} (B : Below A₀ base outer h₀) (F : Fr h₀ L s.heap m) (X : (hd.heap_1 w.params).In h₀) (TP : Top p loose mean mg mb h₀) (hk : cs.kind = .function) (hdp : dp + 2 < recursionLimit) (hun : un + 20 < cLine) :
    PureAt PR w (ktrTop dp un gd cn cs L a ccd cl outer) h₀ L m s 49 [.int x t, .int y u] (fun r tl => tl = [] ∧ ∃ t, r = .int (x - y) t) := by
  k_with_none
  w_top off
  k_with "m_enter" => ((case kA => exact rfl); (case kF => exact rfl); (case kK => assumption); (case k1 => k_asm); (case k2 => k_asm); (case k3 => k_asm); (case k5 => k_asm); (case k6 => k_is); (case k7 => k_is); (case k8 => walk_at "lt_room"); (case k9 => exact BindsTo.of_eq rfl); (case c5 => decide); (case kB => exact locs rfl); (case c2 => exact rfl); (case c3 => exact rfl); (case c4 => exact rfl); k_whole; intro g' L' h' F' N' B' X' T'; (try dsimp only [List.reverse, List.reverseAux, List.length]))
  k_with "m_pure" => ((case k1 => k_asm); (case k2 => k_asm); (case k3 => k_asm); (case k4 => k_asm); (case kK => first | exact rfl | assumption); (case kd => walk_at "lt_room"); (case ku => walk_at "lt_units"))
  k_with "m_useI" => (walk_at "m_pure"; (case k5 => k_asm); intro t9 h9 tk9 F9 N9; (try dsimp only); (try k_sweep))
  k_with "m_same" => (intro z h2 h3; (try simp only [List.forall_mem_cons, List.not_mem_nil, false_implies, implies_true, and_true, ne_eq, List.contains_cons, List.contains_nil, Bool.or_false, Bool.or_eq_false_iff, beq_eq_false_iff_ne] at h2 h3); simp [kstB, h2, h3])
  k_with "lt_room" => (first | with_unfolding_all exact room2 (j := 0) hdp rfl rfl | with_unfolding_all exact room0 (j := 0) hdp rfl rfl | with_unfolding_all exact room2 (j := 1) hdp rfl rfl | with_unfolding_all exact room0 (j := 1) hdp rfl rfl | with_unfolding_all exact room2 (j := 2) hdp rfl rfl | with_unfolding_all exact room0 (j := 2) hdp rfl rfl | with_unfolding_all exact room2 (j := 3) hdp rfl rfl | with_unfolding_all exact room0 (j := 3) hdp rfl rfl | with_unfolding_all exact room2 (j := 4) hdp rfl rfl | with_unfolding_all exact room0 (j := 4) hdp rfl rfl | with_unfolding_all exact room2 (j := 5) hdp rfl rfl | with_unfolding_all exact room0 (j := 5) hdp rfl rfl | with_unfolding_all exact room2 (j := 6) hdp rfl rfl | with_unfolding_all exact room0 (j := 6) hdp rfl rfl | with_unfolding_all exact room2 (j := 7) hdp rfl rfl | with_unfolding_all exact room0 (j := 7) hdp rfl rfl | (trace "heavy"; ktr_room))
  k_with "lt_units" => (first | with_unfolding_all exact room2 (j := 0) hun rfl rfl | with_unfolding_all exact room0 (j := 0) hun rfl rfl | with_unfolding_all exact room2 (j := 1) hun rfl rfl | with_unfolding_all exact room0 (j := 1) hun rfl rfl | with_unfolding_all exact room2 (j := 2) hun rfl rfl | with_unfolding_all exact room0 (j := 2) hun rfl rfl | with_unfolding_all exact room2 (j := 3) hun rfl rfl | with_unfolding_all exact room0 (j := 3) hun rfl rfl | with_unfolding_all exact room2 (j := 4) hun rfl rfl | with_unfolding_all exact room0 (j := 4) hun rfl rfl | with_unfolding_all exact room2 (j := 5) hun rfl rfl | with_unfolding_all exact room0 (j := 5) hun rfl rfl | with_unfolding_all exact room2 (j := 6) hun rfl rfl | with_unfolding_all exact room0 (j := 6) hun rfl rfl | with_unfolding_all exact room2 (j := 7) hun rfl rfl | with_unfolding_all exact room0 (j := 7) hun rfl rfl | (trace "heavy"; ktr_units))
  k_dflt (refine' pure_code (n0 := []) (binds := [(Str.ofString "a", .int x t), (Str.ofString "b", .int y u)]) ?k1 ?k2 ?k3 ?k5 News.nil ?kA ?kF ?kK ?k6 ?k7 ?k8 ?k9 ?kB ?_ ?c2 ?c3 ?c4 ?c5; walk_at "m_enter")
  k_steps
  exact leaveP_ (by assumption) (by assumption) [] sub_nil new_nil ⟨rfl, _, rfl⟩
theorem xor_p {x y : Int} {t u : Tok} (B : Below A₀ base outer h₀) (F : Fr h₀ L s.heap m) (X : (hd.heap_1 w.params).In h₀) (TP : Top p loose mean mg mb h₀) (hk : cs.kind = .function) (hdp : dp + 2 < recursionLimit) (hun : un + 20 < cLine) :
    PureAt PR w (ktrTop dp un gd cn cs L a ccd cl outer) h₀ L m s 56 [.int x t, .int y u] (fun r tl => tl = [] ∧ ∃ t, r = .int (Builtin.bitXor x y) t) := by
  k_with_none
  w_top off
  k_with "m_enter" => ((case kA => exact rfl); (case kF => exact rfl); (case kK => assumption); (case k1 => k_asm); (case k2 => k_asm); (case k3 => k_asm); (case k5 => k_asm); (case k6 => k_is); (case k7 => k_is); (case k8 => walk_at "lt_room"); (case k9 => exact BindsTo.of_eq rfl); (case c5 => decide); (case kB => exact locs rfl); (case c2 => exact rfl); (case c3 => exact rfl); (case c4 => exact rfl); k_whole; intro g' L' h' F' N' B' X' T'; (try dsimp only [List.reverse, List.reverseAux, List.length]))
  k_with "m_pure" => ((case k1 => k_asm); (case k2 => k_asm); (case k3 => k_asm); (case k4 => k_asm); (case kK => first | exact rfl | assumption); (case kd => walk_at "lt_room"); (case ku => walk_at "lt_units"))
  k_with "m_useI" => (walk_at "m_pure"; (case k5 => k_asm); intro t9 h9 tk9 F9 N9; (try dsimp only); (try k_sweep))
  k_with "m_same" => (intro z h2 h3; (try simp only [List.forall_mem_cons, List.not_mem_nil, false_implies, implies_true, and_true, ne_eq, List.contains_cons, List.contains_nil, Bool.or_false, Bool.or_eq_false_iff, beq_eq_false_iff_ne] at h2 h3); simp [kstB, h2, h3])
  k_with "lt_room" => (first | with_unfolding_all exact room2 (j := 0) hdp rfl rfl | with_unfolding_all exact room0 (j := 0) hdp rfl rfl | with_unfolding_all exact room2 (j := 1) hdp rfl rfl | with_unfolding_all exact room0 (j := 1) hdp rfl rfl | with_unfolding_all exact room2 (j := 2) hdp rfl rfl | with_unfolding_all exact room0 (j := 2) hdp rfl rfl | with_unfolding_all exact room2 (j := 3) hdp rfl rfl | with_unfolding_all exact room0 (j := 3) hdp rfl rfl | with_unfolding_all exact room2 (j := 4) hdp rfl rfl | with_unfolding_all exact room0 (j := 4) hdp rfl rfl | with_unfolding_all exact room2 (j := 5) hdp rfl rfl | with_unfolding_all exact room0 (j := 5) hdp rfl rfl | with_unfolding_all exact room2 (j := 6) hdp rfl rfl | with_unfolding_all exact room0 (j := 6) hdp rfl rfl | with_unfolding_all exact room2 (j := 7) hdp rfl rfl | with_unfolding_all exact room0 (j := 7) hdp rfl rfl | (trace "heavy"; ktr_room))
  k_with "lt_units" => (first | with_unfolding_all exact room2 (j := 0) hun rfl rfl | with_unfolding_all exact room0 (j := 0) hun rfl rfl | with_unfolding_all exact room2 (j := 1) hun rfl rfl | with_unfolding_all exact room0 (j := 1) hun rfl rfl | with_unfolding_all exact room2 (j := 2) hun rfl rfl | with_unfolding_all exact room0 (j := 2) hun rfl rfl | with_unfolding_all exact room2 (j := 3) hun rfl rfl | with_unfolding_all exact room0 (j := 3) hun rfl rfl | with_unfolding_all exact room2 (j := 4) hun rfl rfl | with_unfolding_all exact room0 (j := 4) hun rfl rfl | with_unfolding_all exact room2 (j := 5) hun rfl rfl | with_unfolding_all exact room0 (j := 5) hun rfl rfl | with_unfolding_all exact room2 (j := 6) hun rfl rfl | with_unfolding_all exact room0 (j := 6) hun rfl rfl | with_unfolding_all exact room2 (j := 7) hun rfl rfl | with_unfolding_all exact room0 (j := 7) hun rfl rfl | (trace "heavy"; ktr_units))
  k_dflt (refine' pure_code (n0 := []) (binds := [(Str.ofString "a", .int x t), (Str.ofString "b", .int y u)]) ?k1 ?k2 ?k3 ?k5 News.nil ?kA ?kF ?kK ?k6 ?k7 ?k8 ?k9 ?kB ?_ ?c2 ?c3 ?c4 ?c5; walk_at "m_enter")
  k_steps
  exact leaveP_ (by assumption) (by assumption) [] sub_nil new_nil ⟨rfl, _, rfl⟩
end
local macro_rules | `(tactic| walk_at "call ref") => `(tactic| (k_extra "g1"; k_dflt (refine' pure_useI (and_p ?k1 ?k2 ?k3 ?k4 ?kK ?kd ?ku) ?k5 ?_); k_extra "b1"))
local macro_rules | `(tactic| walk_at "call ref") => `(tactic| (k_extra "g2"; k_dflt (refine' pure_useI (neg_p ?k1 ?k2 ?k3 ?k4 ?kK ?kd ?ku) ?k5 ?_); k_extra "b2"))
local macro_rules | `(tactic| walk_at "call ref") => `(tactic| (k_extra "g3"; k_dflt (refine' pure_useI (or_p ?k1 ?k2 ?k3 ?k4 ?kK ?kd ?ku) ?k5 ?_); k_extra "b3"))
local macro_rules | `(tactic| walk_at "call ref") => `(tactic| (k_extra "g4"; k_dflt (refine' pure_useI (sub_p ?k1 ?k2 ?k3 ?k4 ?kK ?kd ?ku) ?k5 ?_); k_extra "b4"))
local macro_rules | `(tactic| walk_at "call ref") => `(tactic| (k_extra "g5"; k_dflt (refine' pure_useI (xor_p ?k1 ?k2 ?k3 ?k4 ?kK ?kd ?ku) ?k5 ?_); k_extra "b5"))
noncomputable def topF (b : Int) : Int := if b ≤ 0 then 0 else if b < 2 then 1 else if b < 4 then 2 else if b < 8 then 4 else 8
theorem top_step16 : ∀ b : Fin 16, Builtin.bitAnd (b.val : Int) ((b.val : Int) - 1) = 0 ∧ topF b.val = b.val ∨ (0 ≤ Builtin.bitAnd (b.val : Int) ((b.val : Int) - 1) ∧ Builtin.bitAnd (b.val : Int) ((b.val : Int) - 1) < b.val ∧ topF (Builtin.bitAnd (b.val : Int) ((b.val : Int) - 1)) = topF b.val ∧ Builtin.bitAnd (b.val : Int) ((b.val : Int) - 1) ≠ 0) := by decide +kernel
theorem top_step {b : Int} (h0 : 0 ≤ b) (h1 : b < 16) : Builtin.bitAnd b (b - 1) = 0 ∧ topF b = b ∨ (0 ≤ Builtin.bitAnd b (b - 1) ∧ Builtin.bitAnd b (b - 1) < 16 ∧ (Builtin.bitAnd b (b - 1)).toNat < b.toNat ∧ topF (Builtin.bitAnd b (b - 1)) = topF b ∧ Builtin.bitAnd b (b - 1) ≠ 0) := by
  have hq := top_step16 ⟨b.toNat, by omega⟩
  simp only [Int.toNat_of_nonneg h0] at hq
  generalize Builtin.bitAnd b (b - 1) = c at hq ⊢
  rcases hq with hq | ⟨h2, h3, h4, h5⟩
  · exact .inl hq
  · exact .inr ⟨h2, by omega, by omega, h4, h5⟩
section
variable {w : World} {p : Program} {loose : List Str} {mean : ExcName → Option Value} {mg mb : Str → Option Value} {dp un : Nat} {gd : Option (List Code)} {cn : Str} {cs : Scope} {a : Addr} {ccd : Value} {cl : List (Str × Addr)} {outer : List Env} {A₀ : Around} {base h₀ : Heap} {L : Addr} {m : Str → Option Value} {s : Shared}
theorem top_p {x : Int} {t : Tok} (hx0 : 0 ≤ x) (hx1 : x < 16) (B : Below A₀ base outer h₀) (F : Fr h₀ L s.heap m) (X : (hd.heap_1 w.params).In h₀) (TP : Top p loose mean mg mb h₀) (hk : cs.kind = .function) (hdp : dp + 4 < recursionLimit) (hun : un + 40 < cLine) :
    PureAt PR w (ktrTop dp un gd cn cs L a ccd cl outer) h₀ L m s 225 [.int x t] (fun r tl => tl = [] ∧ ∃ t, r = .int (topF x) t) := by
  k_with_none
  w_top off
  k_with "m_enter" => ((case kA => exact rfl); (case kF => exact rfl); (case kK => assumption); (case k1 => k_asm); (case k2 => k_asm); (case k3 => k_asm); (case k5 => k_asm); (case k6 => k_is); (case k7 => k_is); (case k8 => walk_at "lt_room"); (case k9 => exact BindsTo.of_eq rfl); (case c5 => decide); (case kB => exact locs rfl); (case c2 => exact rfl); (case c3 => exact rfl); (case c4 => exact rfl); k_whole; intro g' L' h' F' N' B' X' T'; (try dsimp only [List.reverse, List.reverseAux, List.length]))
  k_with "m_pure" => ((case k1 => k_asm); (case k2 => k_asm); (case k3 => k_asm); (case k4 => k_asm); (case kK => first | exact rfl | assumption); (case kd => walk_at "lt_room"); (case ku => walk_at "lt_units"))
  k_with "m_useI" => (walk_at "m_pure"; (case k5 => k_asm); intro t9 h9 tk9 F9 N9; (try dsimp only); (try k_sweep))
  k_with "m_same" => (intro z h2 h3; (try simp only [List.forall_mem_cons, List.not_mem_nil, false_implies, implies_true, and_true, ne_eq, List.contains_cons, List.contains_nil, Bool.or_false, Bool.or_eq_false_iff, beq_eq_false_iff_ne] at h2 h3); simp [kstB, h2, h3])
  k_with "g1" => (k_here)
  k_with "b1" => (walk_at "m_useI")
  k_with "g2" => (k_here)
  k_with "b2" => (walk_at "m_useI")
  k_with "g3" => (k_here)
  k_with "b3" => (walk_at "m_useI")
  k_with "g4" => (k_here)
  k_with "b4" => (walk_at "m_useI")
  k_with "g5" => (k_here)
  k_with "b5" => (walk_at "m_useI")
  k_with "lt_room" => (first | with_unfolding_all exact room2 (j := 0) hdp rfl rfl | with_unfolding_all exact room0 (j := 0) hdp rfl rfl | with_unfolding_all exact room2 (j := 1) hdp rfl rfl | with_unfolding_all exact room0 (j := 1) hdp rfl rfl | with_unfolding_all exact room2 (j := 2) hdp rfl rfl | with_unfolding_all exact room0 (j := 2) hdp rfl rfl | with_unfolding_all exact room2 (j := 3) hdp rfl rfl | with_unfolding_all exact room0 (j := 3) hdp rfl rfl | with_unfolding_all exact room2 (j := 4) hdp rfl rfl | with_unfolding_all exact room0 (j := 4) hdp rfl rfl | with_unfolding_all exact room2 (j := 5) hdp rfl rfl | with_unfolding_all exact room0 (j := 5) hdp rfl rfl | with_unfolding_all exact room2 (j := 6) hdp rfl rfl | with_unfolding_all exact room0 (j := 6) hdp rfl rfl | with_unfolding_all exact room2 (j := 7) hdp rfl rfl | with_unfolding_all exact room0 (j := 7) hdp rfl rfl | (trace "heavy"; ktr_room))
  k_with "lt_units" => (first | with_unfolding_all exact room2 (j := 0) hun rfl rfl | with_unfolding_all exact room0 (j := 0) hun rfl rfl | with_unfolding_all exact room2 (j := 1) hun rfl rfl | with_unfolding_all exact room0 (j := 1) hun rfl rfl | with_unfolding_all exact room2 (j := 2) hun rfl rfl | with_unfolding_all exact room0 (j := 2) hun rfl rfl | with_unfolding_all exact room2 (j := 3) hun rfl rfl | with_unfolding_all exact room0 (j := 3) hun rfl rfl | with_unfolding_all exact room2 (j := 4) hun rfl rfl | with_unfolding_all exact room0 (j := 4) hun rfl rfl | with_unfolding_all exact room2 (j := 5) hun rfl rfl | with_unfolding_all exact room0 (j := 5) hun rfl rfl | with_unfolding_all exact room2 (j := 6) hun rfl rfl | with_unfolding_all exact room0 (j := 6) hun rfl rfl | with_unfolding_all exact room2 (j := 7) hun rfl rfl | with_unfolding_all exact room0 (j := 7) hun rfl rfl | (trace "heavy"; ktr_units))
  k_dflt (refine' pure_code (n0 := []) (binds := [(Str.ofString "bits", .int x t)]) ?k1 ?k2 ?k3 ?k5 News.nil ?kA ?kF ?kK ?k6 ?k7 ?k8 ?k9 ?kB ?_ ?c2 ?c3 ?c4 ?c5; walk_at "m_enter")
  k_with "exec While Compare cons nil" => ((rename Fr _ _ _ _ => lF'); (rename News _ _ _ _ => lN'); refine ksw_while (σ := Int × Tok) (fun _ => []) (fun c => [(Str.ofString "bits", Value.int c.1 c.2)]) (fun _ => True) [] (fun c => 0 ≤ c.1 ∧ c.1 < 16 ∧ topF c.1 = topF x) (fun c => c.1.toNat) (x, t) lF' lN' trivial (by kst_all) ⟨hx0, hx1, rfl⟩ ?_; clear lF' lN'; rintro ⟨b, tb⟩ kU kH kTk kFacts ⟨hb0, hb1, hb2⟩ kFr kNews)
  k_steps
  · rcases top_step hb0 hb1 with hq | hq
    · exact absurd hq.1 (by assumption)
    · exact ksw_end (_, _) (by assumption) (by assumption) (fun _ h => nomatch h) trivial (by kst_all) (by walk_at "m_same") ⟨hq.1, hq.2.1, hq.2.2.2.1.trans hb2⟩ hq.2.2.1
  · rcases top_step hb0 hb1 with hq | hq
    · refine leaveP_ (by assumption) (by assumption) [] sub_nil new_nil ⟨rfl, tb, ?_⟩
      rw [← hb2, hq.2]
    · exact absurd (by assumption) hq.2.2.2.2
end
set_option maxRecDepth 100000
set_option maxHeartbeats 8000000
local macro_rules | `(tactic| walk_at "call ref") => `(tactic| (k_extra "g6"; k_dflt (refine' pure_useI (top_p ?s1 ?s2 ?k1 ?k2 ?k3 ?k4 ?kK ?kd ?ku) ?k5 ?_); k_extra "b6"))
theorem item_pushK {prog : Program} {w : World} {A : Around} {E : Value → Shared → Prop} {s : Shared} {value slice : PySem.Expr} {l : Addr} {vs : List Value} {v : Value} {k : Int} {u : Tok} {Q : Value → Shared → Prop} (hl : s.heap.IsList l (vs.toArray.push v))
    (hk : k = (vs.length : Int)) (hfit : k < 2 ^ 63) (h : Q v s)
    (hs : subscripted slice false (.ref l) (.int k u) = operate [.ref l, .int k u] (getItem (.ref l) (.int k u)) := by with_unfolding_all rfl) :
    wpAny (model prog w) A (subscriptTail value slice (.ref l) (.int k u)) Q E s := by
  subst hk
  exact tail_any hl.typeIs slot_list_getitem.lookup (wpAny_getItem_list hl (by omega) hfit (by simp) h) hs
noncomputable abbrev tupO (vs : List Value) : Obj := { cls := .type "tuple", data := .seq vs.toArray 0 }
noncomputable abbrev gI (l : List Int) (i : Int) : Int := l.getD i.toNat 0
noncomputable def lowF (fl : List Int) (r low : Int) : Int := Builtin.bitAnd (gI fl r) (low - 1)
noncomputable def hedF (lb : List Int) (r bit : Int) : Int := Builtin.bitOr (Builtin.bitAnd (gI lb r) (-bit)) bit
noncomputable def liftF (lb fl he ho : List Int) (r low : Int) : Int := if lowF fl r low = 0 then r else gI ho (gI he (hedF lb r (topF (lowF fl r low))))
theorem int_end {x y : Int} {t : Tok} (e : y = x) : ∃ t', Value.int x t = Value.int y t' := ⟨t, by rw [e]⟩
/-- what lift asks -/
noncomputable def LiftOk (lb fl he ho : List Int) (r low : Int) : Prop := 0 ≤ r ∧ r < 8 ∧ lb.length = 8 ∧ fl.length = 8 ∧ ho.length = 8 ∧ he.length = 9 ∧ 0 ≤ lowF fl r low ∧ lowF fl r low < 16 ∧
  (lowF fl r low ≠ 0 → 0 ≤ hedF lb r (topF (lowF fl r low)) ∧ hedF lb r (topF (lowF fl r low)) < 9 ∧ 0 ≤ gI he (hedF lb r (topF (lowF fl r low))) ∧ gI he (hedF lb r (topF (lowF fl r low))) < 8)
section
variable {w : World} {p : Program} {loose : List Str} {mean : ExcName → Option Value} {mg mb : Str → Option Value} {dp un : Nat} {gd : Option (List Code)} {cn : Str} {cs : Scope} {a : Addr} {ccd : Value} {cl : List (Str × Addr)} {outer : List Env} {A₀ : Around} {base h₀ : Heap} {L : Addr} {m : Str → Option Value} {s : Shared}
theorem lift_p {r low : Int} {t u : Tok} {T A1 A2 A3 A4 : Addr} {v1 v2 v3 v4 : List Value} {k1 k2 k3 k4 : Nat} {lb fl he ho : List Int} (i1 : IntsAre v1 lb) (i2 : IntsAre v2 fl) (i3 : IntsAre v3 he) (i4 : IntsAre v4 ho) (ok : LiftOk lb fl he ho r low) (B : Below A₀ base outer h₀) (F : Fr h₀ L s.heap m) (X : (hd.heap_1 w.params).In h₀) (TP : Top p loose mean mg mb h₀) (hk : cs.kind = .function) (hdp : dp + 6 < recursionLimit) (hun : un + 60 < cLine) (N : News h₀ L s.heap [(T, tupO [.ref A1, .ref A2, .ref A3, .ref A4]), (A1, listOf v1.toArray k1), (A2, listOf v2.toArray k2), (A3, listOf v3.toArray k3), (A4, listOf v4.toArray k4)]) :
    PureAt PR w (ktrTop dp un gd cn cs L a ccd cl outer) h₀ L m s 244 [.ref T, .int r t, .int low u] (fun r' tl => tl = [] ∧ ∃ t, r' = .int (liftF lb fl he ho r low) t) := by
  obtain ⟨hr0, hr1, n1, n2, n4, n3, hb0, hb1, hh⟩ := ok
  k_with_none
  w_top off
  k_with "m_enter" => ((case kA => exact rfl); (case kF => exact rfl); (case kK => assumption); (case k1 => k_asm); (case k2 => k_asm); (case k3 => k_asm); (case k5 => k_asm); (case k6 => k_is); (case k7 => k_is); (case k8 => walk_at "lt_room"); (case k9 => exact BindsTo.of_eq rfl); (case c5 => decide); (case kB => exact locs rfl); (case c2 => exact rfl); (case c3 => exact rfl); (case c4 => exact rfl); k_whole; intro g' L' h' F' N' B' X' T'; (try dsimp only [List.reverse, List.reverseAux, List.length]))
  k_with "m_pure" => ((case k1 => k_asm); (case k2 => k_asm); (case k3 => k_asm); (case k4 => k_asm); (case kK => first | exact rfl | assumption); (case kd => walk_at "lt_room"); (case ku => walk_at "lt_units"))
  k_with "m_useI" => (walk_at "m_pure"; (case k5 => k_asm); intro t9 h9 tk9 F9 N9; (try dsimp only); (try k_sweep))
  k_with "m_same" => (intro z h2 h3; (try simp only [List.forall_mem_cons, List.not_mem_nil, false_implies, implies_true, and_true, ne_eq, List.contains_cons, List.contains_nil, Bool.or_false, Bool.or_eq_false_iff, beq_eq_false_iff_ne] at h2 h3); simp [kstB, h2, h3])
  k_with "g1" => (k_here)
  k_with "b1" => (walk_at "m_useI")
  k_with "g2" => (k_here)
  k_with "b2" => (walk_at "m_useI")
  k_with "g3" => (k_here)
  k_with "b3" => (walk_at "m_useI")
  k_with "g4" => (k_here)
  k_with "b4" => (walk_at "m_useI")
  k_with "g5" => (k_here)
  k_with "b5" => (walk_at "m_useI")
  k_with "g6" => (k_here)
  k_with "b6" => ((case s1 => first | assumption | omega); (case s2 => first | assumption | omega); walk_at "m_useI")
  k_with "l_idx" => (k_dflt (k_extra "m_idx"))
  k_with "lt_room" => (first | with_unfolding_all exact room2 (j := 0) hdp rfl rfl | with_unfolding_all exact room0 (j := 0) hdp rfl rfl | with_unfolding_all exact room2 (j := 1) hdp rfl rfl | with_unfolding_all exact room0 (j := 1) hdp rfl rfl | with_unfolding_all exact room2 (j := 2) hdp rfl rfl | with_unfolding_all exact room0 (j := 2) hdp rfl rfl | with_unfolding_all exact room2 (j := 3) hdp rfl rfl | with_unfolding_all exact room0 (j := 3) hdp rfl rfl | with_unfolding_all exact room2 (j := 4) hdp rfl rfl | with_unfolding_all exact room0 (j := 4) hdp rfl rfl | with_unfolding_all exact room2 (j := 5) hdp rfl rfl | with_unfolding_all exact room0 (j := 5) hdp rfl rfl | with_unfolding_all exact room2 (j := 6) hdp rfl rfl | with_unfolding_all exact room0 (j := 6) hdp rfl rfl | with_unfolding_all exact room2 (j := 7) hdp rfl rfl | with_unfolding_all exact room0 (j := 7) hdp rfl rfl | (trace "heavy"; ktr_room))
  k_with "lt_units" => (first | with_unfolding_all exact room2 (j := 0) hun rfl rfl | with_unfolding_all exact room0 (j := 0) hun rfl rfl | with_unfolding_all exact room2 (j := 1) hun rfl rfl | with_unfolding_all exact room0 (j := 1) hun rfl rfl | with_unfolding_all exact room2 (j := 2) hun rfl rfl | with_unfolding_all exact room0 (j := 2) hun rfl rfl | with_unfolding_all exact room2 (j := 3) hun rfl rfl | with_unfolding_all exact room0 (j := 3) hun rfl rfl | with_unfolding_all exact room2 (j := 4) hun rfl rfl | with_unfolding_all exact room0 (j := 4) hun rfl rfl | with_unfolding_all exact room2 (j := 5) hun rfl rfl | with_unfolding_all exact room0 (j := 5) hun rfl rfl | with_unfolding_all exact room2 (j := 6) hun rfl rfl | with_unfolding_all exact room0 (j := 6) hun rfl rfl | with_unfolding_all exact room2 (j := 7) hun rfl rfl | with_unfolding_all exact room0 (j := 7) hun rfl rfl | (trace "heavy"; ktr_units))
  k_dflt (refine' pure_code (n0 := [(T, tupO [.ref A1, .ref A2, .ref A3, .ref A4]), (A1, listOf v1.toArray k1), (A2, listOf v2.toArray k2), (A3, listOf v3.toArray k3), (A4, listOf v4.toArray k4)]) (binds := [(Str.ofString "tables", .ref T), (Str.ofString "r", .int r t), (Str.ofString "low", .int low u)]) ?k1 ?k2 ?k3 ?k5 N ?kA ?kF ?kK ?k6 ?k7 ?k8 ?k9 ?kB ?_ ?c2 ?c3 ?c4 ?c5; walk_at "m_enter")
  k_with "m_idx" => (have q := hh (by assumption); first | exact q.1 | exact q.2.2.1 | (rw [n3]; exact q.2.1) | (rw [n4]; exact q.2.2.2) | exact Int.lt_trans q.2.1 (by decide) | exact Int.lt_trans q.2.2.2 (by decide))
  k_steps
  all_goals refine leaveP_ (by assumption) (by assumption) [] (fun _ h => h) new_nil ⟨rfl, ?_⟩
  · rw [show liftF lb fl he ho r low = r from if_pos (by assumption)]
    exact ⟨_, rfl⟩
  · rw [show liftF lb fl he ho r low = gI ho (gI he (hedF lb r (topF (lowF fl r low)))) from if_neg (by assumption)]
    exact ⟨_, rfl⟩
end
set_option maxRecDepth 100000
set_option maxHeartbeats 8000000
section
variable {prog : Program} {w : World} {A : Around} {E : Value → Shared → Prop} {s : Shared}
theorem sliceApplied_two {sl : Addr} {u : Tok} {Q : Int × Int × Nat → Shared → Prop} (hs : s.heap.IsSliceOf sl .none (.int 2 u) .none) (h : Q (0, 1, 2) s) :
    wpAny (model prog w) A (Builtin.Slice.sliceApplied (.ref sl) (pure (4 : Int))) Q E s := by
  obtain ⟨os, hos, hcs, hds⟩ := id hs
  unfold Builtin.Slice.sliceApplied Builtin.Slice.sliceFields
  refine wpAny_bind (wpAny_bind (wpAny_field hos hds (x := .none) rfl (wpAny_bind (wpAny_field hos hds (x := .int 2 u) rfl (wpAny_bind (wpAny_field hos hds (x := .none) rfl (wpAny_pure ?_)))))))
  refine wpAny_bind (slicePart_none ?_)
  show wpAny _ _ (if ((1 : Int) == 0) = true then _ else _) _ _ s
  rw [if_neg (by decide)]
  refine wpAny_bind (slicePart_none (wpAny_bind (slicePart_int (wpAny_bind (wpAny_pure ?_)))))
  show wpAny _ _ (match Builtin.Slice.sliceAdjust none (some 2) 1 4 with | (lo, hi) => pure (lo, (1 : Int), Builtin.Slice.slicePlaces lo hi 1)) _ _ s
  exact wpAny_pure h
theorem getItem_two {t sl : Addr} {a b c d : Value} {u : Tok} {Q : Value → Shared → Prop} (ht : IsTup s.heap t #[a, b, c, d]) (hs : s.heap.IsSliceOf sl .none (.int 2 u) .none)
    (h : Q (.ref s.heap.objs.size) { s with heap := s.heap.push { cls := .type "tuple", data := .seq #[a, b] } }) : wpAny (model prog w) A (getItem (.ref t) (.ref sl)) Q E s := by
  have hdrop : sizeOk (.seq #[a, b]) := by
    show 2 ≤ sizeLine
    decide
  obtain ⟨os, hos, hcs, hds⟩ := id hs
  have hTs : s.TypeIs (.ref sl) "slice" := ⟨os, hos, hcs⟩
  unfold getItem
  try with_reducible refine wpAny_holding ?_
  first | refine wpAny_bind (wpAny_pure ?_) | skip
  refine wpAny_bind (wpAny_sequenceKey ht.typeIs (by decide) ?_)
  refine wpAny_bind (wpAny_callSpecial?_slot (name := Str.ofString "__getitem__") ht.typeIs slot_tuple_getitem
    (wpAny_call_entry slot_tuple_getitem ht.typeIs entry_tuple_getitem ?_ (args_tuple_getitem _ _)))
  show wpAny _ _ (Builtin.Tuple.tupleItemsOf (.ref t) >>= _) _ _ s
  refine wpAny_bind (tupleItemsOf_ ht ?_)
  refine wpAny_bind (wpAny_typeOf hTs ?_)
  rw [if_pos (by decide)]
  refine wpAny_bind (sliceApplied_two hs ?_)
  first
    | exact wpAny_bind (m := Builtin.Tuple.tupleExact _) (wpAny_newObj_type (wpAny_pure ⟨_, rfl, wpAny_pure h⟩) hdrop)
    | exact wpAny_bind (m := Builtin.Tuple.tupleExact _) (wpAny_newObj_type (wpAny_bind (wpAny_pure (wpAny_pure ⟨_, rfl, wpAny_pure h⟩))) hdrop)
    | exact wpAny_bind (wpAny_bind (m := Builtin.Tuple.tupleExact _) (wpAny_newObj_type (wpAny_pure (wpAny_pure ⟨_, rfl, wpAny_pure h⟩)) hdrop))
    | exact wpAny_bind (wpAny_bind (m := Builtin.Tuple.tupleExact _) (wpAny_newObj_type (wpAny_pure ⟨_, rfl, wpAny_pure h⟩) hdrop))
theorem slice_two {h₀ : Heap} {L : Addr} {m : Str → Option Value} {news : List (Addr × Obj)} {value slice : Expr} {t : Addr} {a b c d : Value} {u : Tok} {Q : Value → Shared → Prop}
    (F : Fr h₀ L s.heap m) (N : News h₀ L s.heap news) (ht : (t, tupO [a, b, c, d]) ∈ news)
    (h : ∀ D h', Fr h₀ L h' m → News h₀ L h' ((D, tupO [a, b]) :: news) → (∀ p ∈ news, p.1 < D) → Q (.ref D) { s with heap := h' })
    (hs : subscripted slice false (.ref t) (.ref s.heap.objs.size) = operate [.ref s.heap.objs.size, .ref t] (getItem (.ref t) (.ref s.heap.objs.size)))
    (hg : ∀ r, letTemporaryGo value (.ref t) r = pure ()) :
    wpAny (model prog w) A (subscriptTail value slice (.ref t) (.ref s.heap.objs.size)) Q E { s with heap := s.heap.push { cls := .type "slice", data := .fields #[.none, .int 2 u, .none] } } := by
  have ht0 : IsTup s.heap t #[a, b, c, d] := ⟨_, (N _ ht).1, rfl, _, rfl⟩
  have ht' : IsTup (s.heap.push { cls := .type "slice", data := .fields #[.none, .int 2 u, .none] }) t #[a, b, c, d] := ht0.keeps fun _ _ e => Heap.get?_push_of_some _ e
  refine subscriptTail_ops (s := { s with heap := s.heap.push { cls := .type "slice", data := .fields #[.none, .int 2 u, .none] } }) ht'.typeIs slot_tuple_getitem.lookup
    (getItem_two ht' (Heap.IsSliceOf.new ..) ?_) hs hg
  have N1 := News.push (F.push { cls := .type "slice", data := .fields #[.none, .int 2 u, .none] }) (N.grown fun _ _ e => Heap.get?_push_of_some _ e) (tupO [a, b])
  rw [Heap.size_push] at N1
  show Q (.ref (s.heap.push _).objs.size) _
  rw [Heap.size_push]
  exact h _ _ ((F.push _).push _) N1 fun p hp => Nat.lt_succ_of_lt (Heap.lt_size (N p hp).1)
end
set_option maxRecDepth 100000
set_option maxHeartbeats 8000000
local macro_rules | `(tactic| walk_at "subscriptTail Name Slice ref ref") => `(tactic| (k_extra "g7"; k_dflt (refine' slice_two ?F ?N ?l ?_ ?s ?t; k_extra "a7"); k_extra "b7"))
local macro_rules | `(tactic| walk_at "call ref") => `(tactic| (k_extra "g8"; k_dflt (refine' pure_useI (lift_p ?i1 ?i2 ?i3 ?i4 ?s1 ?k1 ?k2 ?k3 ?k4 ?kK ?kd ?ku (kst_newsOf ?kN (SubL.mem ?kS))) ?k5 ?_); k_extra "b8"))
noncomputable def ulF (lb : List Int) (r k : Int) : Int := Builtin.bitXor (gI lb r) (gI lb k)
noncomputable def loF (lb fl : List Int) (r k : Int) : Int := Builtin.bitAnd (Builtin.bitAnd (Builtin.bitAnd (gI fl r) (gI fl k)) (-(topF (ulF lb r k)))) (-(Builtin.bitAnd (Builtin.bitAnd (gI fl r) (gI fl k)) (-(topF (ulF lb r k)))))
noncomputable def mrF (lb fl he ho : List Int) (r k x : Int) : Int := if ulF lb r k = 0 then x else liftF lb fl he ho x (loF lb fl r k)
noncomputable def meetF (lb fl he ho : List Int) (r k : Int) : Int := if mrF lb fl he ho r k r < mrF lb fl he ho r k k then mrF lb fl he ho r k r else mrF lb fl he ho r k k
noncomputable def MeetOk (lb fl he ho : List Int) (r k : Int) : Prop := 0 ≤ r ∧ r < 8 ∧ 0 ≤ k ∧ k < 8 ∧ lb.length = 8 ∧ fl.length = 8 ∧ 0 ≤ ulF lb r k ∧ ulF lb r k < 16 ∧ (ulF lb r k ≠ 0 → LiftOk lb fl he ho r (loF lb fl r k) ∧ LiftOk lb fl he ho k (loF lb fl r k))
section
variable {lb fl he ho : List Int} {r k : Int}
theorem meet_1 (h : ulF lb r k = 0) (h2 : r < k) : meetF lb fl he ho r k = r := by unfold meetF mrF; rw [if_pos h, if_pos h, if_pos h2]
theorem meet_2 (h : ulF lb r k = 0) (h2 : ¬ r < k) : meetF lb fl he ho r k = k := by unfold meetF mrF; rw [if_pos h, if_pos h, if_neg h2]
theorem meet_3 (h : ulF lb r k ≠ 0) (h2 : liftF lb fl he ho r (loF lb fl r k) < liftF lb fl he ho k (loF lb fl r k)) : meetF lb fl he ho r k = liftF lb fl he ho r (loF lb fl r k) := by unfold meetF mrF; rw [if_neg h, if_neg h, if_pos h2]
theorem meet_4 (h : ulF lb r k ≠ 0) (h2 : ¬ liftF lb fl he ho r (loF lb fl r k) < liftF lb fl he ho k (loF lb fl r k)) : meetF lb fl he ho r k = liftF lb fl he ho k (loF lb fl r k) := by unfold meetF mrF; rw [if_neg h, if_neg h, if_neg h2]
end
section
variable {w : World} {p : Program} {loose : List Str} {mean : ExcName → Option Value} {mg mb : Str → Option Value} {dp un : Nat} {gd : Option (List Code)} {cn : Str} {cs : Scope} {a : Addr} {ccd : Value} {cl : List (Str × Addr)} {outer : List Env} {A₀ : Around} {base h₀ : Heap} {L : Addr} {m : Str → Option Value} {s : Shared}
theorem meet_p {r k : Int} {t u : Tok} {T A1 A2 A3 A4 : Addr} {v1 v2 v3 v4 : List Value} {k1 k2 k3 k4 : Nat} {lb fl he ho : List Int} (i1 : IntsAre v1 lb) (i2 : IntsAre v2 fl) (i3 : IntsAre v3 he) (i4 : IntsAre v4 ho) (ok : MeetOk lb fl he ho r k) (B : Below A₀ base outer h₀) (F : Fr h₀ L s.heap m) (X : (hd.heap_1 w.params).In h₀) (TP : Top p loose mean mg mb h₀) (hk : cs.kind = .function) (hdp : dp + 8 < recursionLimit) (hun : un + 80 < cLine) (N : News h₀ L s.heap [(T, tupO [.ref A1, .ref A2, .ref A3, .ref A4]), (A1, listOf v1.toArray k1), (A2, listOf v2.toArray k2), (A3, listOf v3.toArray k3), (A4, listOf v4.toArray k4)]) :
    PureAt PR w (ktrTop dp un gd cn cs L a ccd cl outer) h₀ L m s 251 [.ref T, .int r t, .int k u] (fun r' tl => tl = [] ∧ ∃ t, r' = .int (meetF lb fl he ho r k) t) := by
  obtain ⟨hr0, hr1, hk0, hk1, n1, n2, hb0, hb1, hh⟩ := ok
  k_with_none
  w_top off
  k_with "m_enter" => ((case kA => exact rfl); (case kF => exact rfl); (case kK => assumption); (case k1 => k_asm); (case k2 => k_asm); (case k3 => k_asm); (case k5 => k_asm); (case k6 => k_is); (case k7 => k_is); (case k8 => walk_at "lt_room"); (case k9 => exact BindsTo.of_eq rfl); (case c5 => decide); (case kB => exact locs rfl); (case c2 => exact rfl); (case c3 => exact rfl); (case c4 => exact rfl); k_whole; intro g' L' h' F' N' B' X' T'; (try dsimp only [List.reverse, List.reverseAux, List.length]))
  k_with "m_pure" => ((case k1 => k_asm); (case k2 => k_asm); (case k3 => k_asm); (case k4 => k_asm); (case kK => first | exact rfl | assumption); (case kd => walk_at "lt_room"); (case ku => walk_at "lt_units"))
  k_with "m_useI" => (walk_at "m_pure"; (case k5 => k_asm); intro t9 h9 tk9 F9 N9; (try dsimp only); (try k_sweep))
  k_with "m_same" => (intro z h2 h3; (try simp only [List.forall_mem_cons, List.not_mem_nil, false_implies, implies_true, and_true, ne_eq, List.contains_cons, List.contains_nil, Bool.or_false, Bool.or_eq_false_iff, beq_eq_false_iff_ne] at h2 h3); simp [kstB, h2, h3])
  k_with "l_idx" => (k_dflt (k_extra "m_idx"))
  k_with "g1" => (k_here)
  k_with "b1" => (walk_at "m_useI")
  k_with "g2" => (k_here)
  k_with "b2" => (walk_at "m_useI")
  k_with "g3" => (k_here)
  k_with "b3" => (walk_at "m_useI")
  k_with "g4" => (k_here)
  k_with "b4" => (walk_at "m_useI")
  k_with "g5" => (k_here)
  k_with "b5" => (walk_at "m_useI")
  k_with "g6" => (k_here)
  k_with "b6" => ((case s1 => first | assumption | omega); (case s2 => first | assumption | omega); walk_at "m_useI")
  k_with "g7" => (k_here)
  k_with "a7" => ((case F => k_asm); (case N => k_asm); (case l => k_mem); (case s => with_unfolding_all rfl); (case t => kmk_pure))
  k_with "b7" => (intro D' h' F' N' l1; (try k_lt l1); (try k_sweep))
  k_with "g8" => (k_here)
  k_with "b8" => ((case kN => k_asm); (case kS => k_subL); (case i1 => assumption); (case i2 => assumption); (case i3 => assumption); (case i4 => assumption); (case s1 => walk_at "m_lift"); walk_at "m_useI")
  k_with "lt_room" => (first | with_unfolding_all exact room2 (j := 0) hdp rfl rfl | with_unfolding_all exact room0 (j := 0) hdp rfl rfl | with_unfolding_all exact room2 (j := 1) hdp rfl rfl | with_unfolding_all exact room0 (j := 1) hdp rfl rfl | with_unfolding_all exact room2 (j := 2) hdp rfl rfl | with_unfolding_all exact room0 (j := 2) hdp rfl rfl | with_unfolding_all exact room2 (j := 3) hdp rfl rfl | with_unfolding_all exact room0 (j := 3) hdp rfl rfl | with_unfolding_all exact room2 (j := 4) hdp rfl rfl | with_unfolding_all exact room0 (j := 4) hdp rfl rfl | with_unfolding_all exact room2 (j := 5) hdp rfl rfl | with_unfolding_all exact room0 (j := 5) hdp rfl rfl | with_unfolding_all exact room2 (j := 6) hdp rfl rfl | with_unfolding_all exact room0 (j := 6) hdp rfl rfl | with_unfolding_all exact room2 (j := 7) hdp rfl rfl | with_unfolding_all exact room0 (j := 7) hdp rfl rfl | (trace "heavy"; ktr_room))
  k_with "lt_units" => (first | with_unfolding_all exact room2 (j := 0) hun rfl rfl | with_unfolding_all exact room0 (j := 0) hun rfl rfl | with_unfolding_all exact room2 (j := 1) hun rfl rfl | with_unfolding_all exact room0 (j := 1) hun rfl rfl | with_unfolding_all exact room2 (j := 2) hun rfl rfl | with_unfolding_all exact room0 (j := 2) hun rfl rfl | with_unfolding_all exact room2 (j := 3) hun rfl rfl | with_unfolding_all exact room0 (j := 3) hun rfl rfl | with_unfolding_all exact room2 (j := 4) hun rfl rfl | with_unfolding_all exact room0 (j := 4) hun rfl rfl | with_unfolding_all exact room2 (j := 5) hun rfl rfl | with_unfolding_all exact room0 (j := 5) hun rfl rfl | with_unfolding_all exact room2 (j := 6) hun rfl rfl | with_unfolding_all exact room0 (j := 6) hun rfl rfl | with_unfolding_all exact room2 (j := 7) hun rfl rfl | with_unfolding_all exact room0 (j := 7) hun rfl rfl | (trace "heavy"; ktr_units))
  k_dflt (refine' pure_code (n0 := [(T, tupO [.ref A1, .ref A2, .ref A3, .ref A4]), (A1, listOf v1.toArray k1), (A2, listOf v2.toArray k2), (A3, listOf v3.toArray k3), (A4, listOf v4.toArray k4)]) (binds := [(Str.ofString "tables", .ref T), (Str.ofString "r", .int r t), (Str.ofString "k", .int k u)]) ?k1 ?k2 ?k3 ?k5 N ?kA ?kF ?kK ?k6 ?k7 ?k8 ?k9 ?kB ?_ ?c2 ?c3 ?c4 ?c5; walk_at "m_enter")
  k_with "m_lift" => (first | exact (hh (by assumption)).1 | exact (hh (by assumption)).2)
  k_steps
  all_goals refine leaveP_ (by assumption) (by assumption) [] (SubL.mem (by k_subL)) new_nil ⟨rfl, ?_⟩
  all_goals first
    | exact int_end (meet_1 (by assumption) (by assumption))
    | exact int_end (meet_2 (by assumption) (by assumption))
    | exact int_end (meet_3 (by assumption) (by assumption))
    | exact int_end (meet_4 (by assumption) (by assumption))
end
set_option maxRecDepth 100000
set_option maxHeartbeats 8000000
local macro_rules | `(tactic| walk_at "subscriptTail") => `(tactic| (k_extra "g9"; (with_unfolding_all refine' item_pushK ?k1 ?k3 ?k5 ?_ ?k6; k_extra "a9")))
local macro_rules | `(tactic| walk_at "exec For Name Call cons nil") => `(tactic| (k_extra "g10"; k_here; (rename Fr _ _ _ _ => lF'); (with_unfolding_all refine' For_invVF lF' ?k1 ?k2 ?_; (case k1 => exact rfl); (case k2 => exact rfl); k_whole)))
local macro_rules | `(tactic| walk_at "call ref") => `(tactic| (k_extra "g11"; k_dflt (refine' pure_useI (top_p ?s1 ?s2 ?k1 ?k2 ?k3 ?k4 ?kK ?kd ?ku) ?k5 ?_); k_extra "b11"))
theorem lt_len9 {a : Int} {n : Nat} (h : a < 9) (e : n = 9) : a < (n : Int) := by omega
theorem idxN {k : Int} {n : Nat} {l : List Int} (e : k = 0 + (n : Int)) (lt : n < (8 - 0 : Int).toNat) (hl : l.length = 8) : 0 ≤ k ∧ k < (l.length : Int) ∧ k < 2 ^ 63 := by omega
theorem idxF {a k : Int} {n m : Nat} (e : k = 0 + (n : Int)) (h : m = n) (q : a < k) : a < (m : Int) := by omega
theorem szF {vs : List Value} {is : List Int} {n : Nat} (h : vs.length = is.length) (e : is.length = n) (lt : n < (8 - 0 : Int).toNat) : vs.toArray.size ≤ sizeLine := by rw [List.size_toArray, PySem.sizeLine_eq]; omega
theorem lt63 {a b c : Int} (h : a < b) (k : b ≤ c) (d : c ≤ 16) : a < 2 ^ 63 := by omega
/-- one row's turn -/
noncomputable def labF (la : List Int) (r : Int) : Int := Builtin.bitAnd (gI la r) (-(topF (Builtin.bitXor r (gI la r))))
noncomputable def flaF (fl ho : List Int) (lab r : Int) : Int := if r > 0 then Builtin.bitOr (gI fl (gI ho r)) (Builtin.bitAnd lab (-lab)) else Builtin.bitAnd lab (-lab)
noncomputable def hedsF (he : List Int) (lab r : Int) : List Int := if gI he lab = 8 then he.set lab.toNat r else he
structure Tab where
  lb : List Int
  fl : List Int
  he : List Int
noncomputable def tabN (ho la : List Int) : Nat → Tab
  | 0 => ⟨[], [], [8, 8, 8, 8, 8, 8, 8, 8, 8]⟩
  | n + 1 => ⟨(tabN ho la n).lb ++ [labF la n], (tabN ho la n).fl ++ [flaF (tabN ho la n).fl ho (labF la n) n], hedsF (tabN ho la n).he (labF la n) n⟩
noncomputable def TabOk (ho la : List Int) : Prop := ho.length = 8 ∧ la.length = 8 ∧ ∀ r : Nat, r < 8 → 0 ≤ Builtin.bitXor r (gI la r) ∧ Builtin.bitXor r (gI la r) < 16 ∧ 0 ≤ labF la r ∧ labF la r < 9 ∧ (0 < r → 0 ≤ gI ho r ∧ gI ho r < r)
noncomputable def TabAt (ho la : List Int) (n : Nat) (lb fl he : List Int) : Prop := lb = (tabN ho la n).lb ∧ fl = (tabN ho la n).fl ∧ he = (tabN ho la n).he
theorem tabAt_0 {ho la : List Int} : ([] : List Int).length = 0 ∧ ([] : List Int).length = 0 ∧ [8, 8, 8, 8, 8, 8, 8, 8, (8 : Int)].length = 9 ∧ TabAt ho la 0 [] [] [8, 8, 8, 8, 8, 8, 8, 8, 8] := ⟨rfl, rfl, rfl, rfl, rfl, rfl⟩
noncomputable def TabOut (H : Addr) (ho la : List Int) (r : Value) (tl : List (Addr × Obj)) : Prop := ∃ D l1 l2 l3 v1 v2 v3 n1 n2 n3, r = .ref D ∧ tl = [(D, tupO [.ref l1, .ref l2, .ref l3, .ref H]), (l1, listOf (List.toArray v1) n1), (l2, listOf (List.toArray v2) n2), (l3, listOf (List.toArray v3) n3)] ∧
  IntsAre v1 (tabN ho la 8).lb ∧ IntsAre v2 (tabN ho la 8).fl ∧ IntsAre v3 (tabN ho la 8).he
theorem tab_1 {ho la lb fl he : List Int} {n : Nat} {v : List Value} (h : TabAt ho la n lb fl he) (e : n = 8) (i : IntsAre v lb) : IntsAre v (tabN ho la 8).lb := by subst e; rw [← h.1]; exact i
theorem tab_2 {ho la lb fl he : List Int} {n : Nat} {v : List Value} (h : TabAt ho la n lb fl he) (e : n = 8) (i : IntsAre v fl) : IntsAre v (tabN ho la 8).fl := by subst e; rw [← h.2.1]; exact i
theorem tab_3 {ho la lb fl he : List Int} {n : Nat} {v : List Value} (h : TabAt ho la n lb fl he) (e : n = 8) (i : IntsAre v he) : IntsAre v (tabN ho la 8).he := by subst e; rw [← h.2.2]; exact i
theorem tab_step {ho la lb fl he : List Int} {kPre : List Int} {kN : Int} (e : kN = 0 + (kPre.length : Int)) (h : TabAt ho la kPre.length lb fl he) (h1 : lb.length = kPre.length) (h2 : fl.length = kPre.length) (h3 : he.length = 9) {y : Int} {he' : List Int}
    (hy : flaF fl ho (labF la kN) kN = y) (hh : hedsF he (labF la kN) kN = he') :
    (lb ++ [labF la kN]).length = (kPre ++ [kN]).length ∧ (fl ++ [y]).length = (kPre ++ [kN]).length ∧ he'.length = 9 ∧ TabAt ho la (kPre ++ [kN]).length (lb ++ [labF la kN]) (fl ++ [y]) he' := by
  obtain ⟨h4, h5, h6⟩ := h
  have e' : kN = (kPre.length : Int) := by omega
  have ll : (kPre ++ [kN]).length = kPre.length + 1 := by simp
  subst hy hh
  refine ⟨by simp [h1], by simp [h2], ?_, ?_⟩
  · unfold hedsF
    split
    · rw [List.length_set, h3]
    · exact h3
  · rw [ll]
    refine ⟨?_, ?_, ?_⟩
    · show _ = (tabN ho la kPre.length).lb ++ [labF la (kPre.length : Int)]
      rw [h4, e']
    · show _ = (tabN ho la kPre.length).fl ++ [flaF (tabN ho la kPre.length).fl ho (labF la (kPre.length : Int)) (kPre.length : Int)]
      rw [h5, e']
    · show _ = hedsF (tabN ho la kPre.length).he (labF la (kPre.length : Int)) (kPre.length : Int)
      rw [h6, e']
theorem idxL {k : Int} {n : Nat} {ho la : List Int} (e : k = 0 + (n : Int)) (lt : n < (8 - 0 : Int).toNat) (hx : ∀ r : Nat, r < 8 → 0 ≤ Builtin.bitXor (r : Int) (gI la r) ∧ Builtin.bitXor (r : Int) (gI la r) < 16 ∧ 0 ≤ labF la r ∧ labF la r < 9 ∧ (0 < r → 0 ≤ gI ho r ∧ gI ho r < r)) :
    0 ≤ Builtin.bitXor k (gI la k) ∧ Builtin.bitXor k (gI la k) < 16 ∧ 0 ≤ labF la k ∧ labF la k < 9 ∧ labF la k < 2 ^ 63 := by
  obtain rfl : (n : Int) = k := by omega
  have q := hx n (by omega)
  exact ⟨q.1, q.2.1, q.2.2.1, q.2.2.2.1, Int.lt_trans q.2.2.2.1 (by decide)⟩
theorem idxH {k : Int} {n : Nat} {ho la : List Int} (e : k = 0 + (n : Int)) (lt : n < (8 - 0 : Int).toNat) (hx : ∀ r : Nat, r < 8 → 0 ≤ Builtin.bitXor (r : Int) (gI la r) ∧ Builtin.bitXor (r : Int) (gI la r) < 16 ∧ 0 ≤ labF la r ∧ labF la r < 9 ∧ (0 < r → 0 ≤ gI ho r ∧ gI ho r < r)) (p : 0 < k) :
    0 ≤ gI ho k ∧ gI ho k < k ∧ gI ho k < 2 ^ 63 := by
  obtain rfl : (n : Int) = k := by omega
  have q := (hx n (by omega)).2.2.2.2 (by omega)
  exact ⟨q.1, q.2, by omega⟩
section
variable {w : World} {p : Program} {loose : List Str} {mean : ExcName → Option Value} {mg mb : Str → Option Value} {dp un : Nat} {gd : Option (List Code)} {cn : Str} {cs : Scope} {a : Addr} {ccd : Value} {cl : List (Str × Addr)} {outer : List Env} {A₀ : Around} {base h₀ : Heap} {L : Addr} {m : Str → Option Value} {s : Shared}
theorem tables_p {H S : Addr} {hv sv : List Value} {hn sn : Nat} {ho la : List Int} (i1 : IntsAre hv ho) (i2 : IntsAre sv la) (ok : TabOk ho la) (B : Below A₀ base outer h₀) (F : Fr h₀ L s.heap m) (X : (hd.heap_1 w.params).In h₀) (TP : Top p loose mean mg mb h₀) (hk : cs.kind = .function) (hdp : dp + 8 < recursionLimit) (hun : un + 80 < cLine) (N : News h₀ L s.heap [(H, listOf hv.toArray hn), (S, listOf sv.toArray sn)]) :
    PureAt PR w (ktrTop dp un gd cn cs L a ccd cl outer) h₀ L m s 237 [.ref H, .ref S] (TabOut H ho la) := by
  obtain ⟨hl1, hl2, hx⟩ := ok
  k_with_none
  w_top off
  k_with "m_enter" => ((case kA => exact rfl); (case kF => exact rfl); (case kK => assumption); (case k1 => k_asm); (case k2 => k_asm); (case k3 => k_asm); (case k5 => k_asm); (case k6 => k_is); (case k7 => k_is); (case k8 => walk_at "lt_room"); (case k9 => exact BindsTo.of_eq rfl); (case c5 => decide); (case kB => exact locs rfl); (case c2 => exact rfl); (case c3 => exact rfl); (case c4 => exact rfl); k_whole; intro g' L' h' F' N' B' X' T'; (try dsimp only [List.reverse, List.reverseAux, List.length]))
  k_with "m_pure" => ((case k1 => k_asm); (case k2 => k_asm); (case k3 => k_asm); (case k4 => k_asm); (case kK => first | exact rfl | assumption); (case kd => walk_at "lt_room"); (case ku => walk_at "lt_units"))
  k_with "m_useI" => (walk_at "m_pure"; (case k5 => k_asm); intro t9 h9 tk9 F9 N9; (try dsimp only); (try k_sweep))
  k_with "m_same" => (intro z h2 h3; (try simp only [List.forall_mem_cons, List.not_mem_nil, false_implies, implies_true, and_true, ne_eq, List.contains_cons, List.contains_nil, Bool.or_false, Bool.or_eq_false_iff, beq_eq_false_iff_ne] at h2 h3); simp [kstB, h2, h3])
  k_with "m_useB" => (walk_at "m_pure"; (case k5 => k_asm); intro h9 tk9 F9 N9; (try dsimp only); (try k_sweep))
  k_with "l_idx" => (k_dflt (k_extra "m_idx"))
  k_with "g9" => (k_here; (with_reducible show wpAny _ _ (subscriptTail _ _ (Value.ref _) (Value.int _ _)) _ _ _))
  k_with "a9" => ((case k1 => is_list); (case k3 => omega); (case k5 => omega); (case k6 => with_unfolding_all rfl); k_whole)
  k_with "pyIter ref" => (k_dflt (k_extra "m_iter"))
  k_with "g10" => skip
  k_with "m_sameN" => (intro z h1 h2 h3; (try simp only [List.forall_mem_cons, List.not_mem_nil, false_implies, implies_true, and_true, ne_eq, List.contains_cons, List.contains_nil, Bool.or_false, Bool.or_eq_false_iff, beq_eq_false_iff_ne] at h2 h3); first | rfl | ((show (if z = _ then _ else _) = _); rw [if_neg h1]; rfl) | (simp [kstB, h1, h2, h3]; done))
  k_with "mul_fits" => (k_extra "m_mul")
  k_with "InvEndN" => (refine stop_ ?_)
  k_with "KswEnd" => (refine stop_ ?_)
  k_with "m_new" => (first | exact List.forall_mem_nil _ | (refine List.forall_mem_cons.mpr ⟨⟨by k_mem, by k_all⟩, ?_⟩; walk_at "m_new"))
  k_with "g1" => (k_here)
  k_with "b1" => (walk_at "m_useI")
  k_with "g2" => (k_here)
  k_with "b2" => (walk_at "m_useI")
  k_with "g3" => (k_here)
  k_with "b3" => (walk_at "m_useI")
  k_with "g4" => (k_here)
  k_with "b4" => (walk_at "m_useI")
  k_with "g5" => (k_here)
  k_with "b5" => (walk_at "m_useI")
  k_with "g11" => (k_here)
  k_with "b11" => ((case s1 => walk_at "m_top"); (case s2 => walk_at "m_top"); walk_at "m_useI")
  k_with "lt_room" => (first | with_unfolding_all exact room2 (j := 0) hdp rfl rfl | with_unfolding_all exact room0 (j := 0) hdp rfl rfl | with_unfolding_all exact room2 (j := 1) hdp rfl rfl | with_unfolding_all exact room0 (j := 1) hdp rfl rfl | with_unfolding_all exact room2 (j := 2) hdp rfl rfl | with_unfolding_all exact room0 (j := 2) hdp rfl rfl | with_unfolding_all exact room2 (j := 3) hdp rfl rfl | with_unfolding_all exact room0 (j := 3) hdp rfl rfl | with_unfolding_all exact room2 (j := 4) hdp rfl rfl | with_unfolding_all exact room0 (j := 4) hdp rfl rfl | with_unfolding_all exact room2 (j := 5) hdp rfl rfl | with_unfolding_all exact room0 (j := 5) hdp rfl rfl | with_unfolding_all exact room2 (j := 6) hdp rfl rfl | with_unfolding_all exact room0 (j := 6) hdp rfl rfl | with_unfolding_all exact room2 (j := 7) hdp rfl rfl | with_unfolding_all exact room0 (j := 7) hdp rfl rfl | (trace "heavy"; ktr_room))
  k_with "lt_units" => (first | with_unfolding_all exact room2 (j := 0) hun rfl rfl | with_unfolding_all exact room0 (j := 0) hun rfl rfl | with_unfolding_all exact room2 (j := 1) hun rfl rfl | with_unfolding_all exact room0 (j := 1) hun rfl rfl | with_unfolding_all exact room2 (j := 2) hun rfl rfl | with_unfolding_all exact room0 (j := 2) hun rfl rfl | with_unfolding_all exact room2 (j := 3) hun rfl rfl | with_unfolding_all exact room0 (j := 3) hun rfl rfl | with_unfolding_all exact room2 (j := 4) hun rfl rfl | with_unfolding_all exact room0 (j := 4) hun rfl rfl | with_unfolding_all exact room2 (j := 5) hun rfl rfl | with_unfolding_all exact room0 (j := 5) hun rfl rfl | with_unfolding_all exact room2 (j := 6) hun rfl rfl | with_unfolding_all exact room0 (j := 6) hun rfl rfl | with_unfolding_all exact room2 (j := 7) hun rfl rfl | with_unfolding_all exact room0 (j := 7) hun rfl rfl | (trace "heavy"; ktr_units))
  k_dflt (refine' pure_code (n0 := [(H, listOf hv.toArray hn), (S, listOf sv.toArray sn)]) (binds := [(Str.ofString "hooks", .ref H), (Str.ofString "lasts", .ref S)]) ?k1 ?k2 ?k3 ?k5 N ?kA ?kF ?kK ?k6 ?k7 ?k8 ?k9 ?kB ?_ ?c2 ?c3 ?c4 ?c5; walk_at "m_enter")
  k_with "m_iter" => k_state_short (fun pre labels flags heads => labels.length = pre.length ∧ flags.length = pre.length ∧ heads.length = 9 ∧ TabAt ho la pre.length labels flags heads) "labels#" "flags#" "heads#"
  k_with "state" => with_unfolding_all exact tabAt_0
  k_with "m_top" => first | exact (idxL kEq kLt hx).1 | exact (idxL kEq kLt hx).2.1
  k_with "m_idx" => first | exact (idxN kEq kLt hl2).1 | exact (idxN kEq kLt hl2).2.1 | exact (idxN kEq kLt hl2).2.2 | exact (idxN kEq kLt hl1).2.1 | exact (idxL kEq kLt hx).2.2.1 | exact lt_len9 (idxL kEq kLt hx).2.2.2.1 (by assumption) | exact (idxL kEq kLt hx).2.2.2.2 | exact (idxH kEq kLt hx (by assumption)).1 | exact idxF kEq (by assumption) (idxH kEq kLt hx (by assumption)).2.1 | exact (idxH kEq kLt hx (by assumption)).2.2 | trace "heavy idx"
  k_with "size_fits" => exact szF (by assumption) (by assumption) kLt
  k_steps
  iterate 4
    · (refine Stop.mk ?_; rename News _ _ _ _ => nE'; (try simp only [List.push_toArray] at nE'); refine kst_end ⟨_, _, _, _, _, _, _, _, _⟩ (by assumption) nE' (by first | kst_in | kst_inAny) (by first | (intro p hp; kst_mem) | kst_anyIn) (by rfl) (by kst_facts) (by kst_all) (by walk_at "m_sameN") ?_; dsimp only)
      first
        | exact tab_step kEq (by assumption) (by assumption) (by assumption) (by assumption) (if_pos (by assumption)) (if_pos (by assumption))
        | exact tab_step kEq (by assumption) (by assumption) (by assumption) (by assumption) (if_pos (by assumption)) (if_neg (by assumption))
        | exact tab_step kEq (by assumption) (by assumption) (by assumption) (by assumption) (if_neg (by assumption)) (if_pos (by assumption))
        | exact tab_step kEq (by assumption) (by assumption) (by assumption) (by assumption) (if_neg (by assumption)) (if_neg (by assumption))
  · refine' leaveP_ (by assumption) (by assumption) [(_, tupO [.ref _, .ref _, .ref _, .ref H]), (_, listOf (List.toArray _) _), (_, listOf (List.toArray _) _), (_, listOf (List.toArray _) _)] ?a ?b ⟨_, _, _, _, _, _, _, _, _, _, rfl, rfl, ?i1, ?i2, ?i3⟩
    case b => walk_at "m_new"
    case a => exact SubL.mem (by k_subL)
    case i1 => exact tab_1 (by assumption) (by first | rfl | exact rangeKs_length _ _) (by assumption)
    case i2 => exact tab_2 (by assumption) (by first | rfl | exact rangeKs_length _ _) (by assumption)
    case i3 => exact tab_3 (by assumption) (by first | rfl | exact rangeKs_length _ _) (by assumption)
end
set_option maxRecDepth 100000
set_option maxHeartbeats 8000000
noncomputable abbrev entS (w : World) (n : String) (t : Tok) (v : Value) : DictEntry := ⟨PyData.keyHash w.params (Str.ofString n), .str (Str.ofString n) t, v⟩
/-- a Whitespace as the ledger holds it -/
structure WsR where
  x : Addr
  dx : Addr
  no : Addr
  ct : Addr
  lead : Str
  n : Int
  nt : Int
  cv : List Value
  cnt : List Int
  b : Int
  sim : Bool
  c : Nat
  t1 : Tok
  t2 : Tok
  t3 : Tok
  t4 : Tok
  t5 : Tok
  u1 : Tok
  u2 : Tok
  u3 : Tok
  u4 : Tok
noncomputable abbrev WsR.dict (w : World) (r : WsR) : Obj := dictOf [entS w "raw" r.t1 (.str r.lead r.u1), entS w "n" r.t2 (.int r.n r.u2), entS w "nt" r.t3 (.int r.nt r.u3), entS w "norm" r.t4 (.ref r.no), entS w "is_simple" r.t5 (.bool r.sim)] r.c
/-- bounds of a short lead's figures -/
noncomputable def WsR.Ok (r : WsR) : Prop := IntsAre r.cv r.cnt ∧ 0 ≤ r.n ∧ r.n ≤ 4 ∧ 0 ≤ r.nt ∧ r.nt ≤ 4 ∧ 0 ≤ r.b ∧ r.b ≤ 4 ∧ r.cnt.length ≤ 4 ∧ ∀ c ∈ r.cnt, 0 ≤ c ∧ c ≤ 4
noncomputable abbrev longF (cnt : List Int) (b : Int) : Int := if b > (cnt.length : Int) - 1 then b else (cnt.length : Int) - 1
noncomputable def ilS (cnt : List Int) (ts : Int) (l : List Int) : Int := (l.map fun i => Int.fdiv i ts * gI cnt i).sum
noncomputable def indF (cnt : List Int) (b nt ts : Int) : Int := b + ts * (ilS cnt ts (rangeKs ts ((cnt.length : Int) - ts).toNat) + nt)
theorem ils_step {cnt pre : List Int} {ts il k : Int} (h : il = ilS cnt ts pre) : il + Int.fdiv k ts * cnt.getD k.toNat 0 = ilS cnt ts (pre ++ [k]) := by
  rw [h]
  simp only [ilS, List.map_append, List.sum_append, List.map_cons, List.map_nil, List.sum_cons, List.sum_nil, Int.add_zero]
theorem ind_end {cnt : List Int} {b nt ts il : Int} (h : il = ilS cnt ts (rangeKs ts ((cnt.length : Int) - ts).toNat)) : indF cnt b nt ts = b + ts * (il + nt) := by rw [h]; rfl
theorem getD_bd {cnt : List Int} (h : ∀ c ∈ cnt, 0 ≤ c ∧ c ≤ 4) (k : Nat) : -(2 ^ 64) < cnt.getD k 0 ∧ cnt.getD k 0 < 2 ^ 64 := by
  rw [List.getD_eq_getElem?_getD]
  cases e : cnt[k]? with
  | none => decide
  | some x =>
    have := h x (List.mem_of_getElem? e)
    show -(2 ^ 64) < x ∧ x < 2 ^ 64
    omega
section
variable {prog : Program} {w : World} {A : Around} {E : Value → Shared → Prop} {s : Shared} {h₀ : Heap} {L l : Addr} {news : List (Addr × Obj)} {vs : List Value} {ns : List Int}
theorem len_tupM {Q : Value → Shared → Prop} (N : News h₀ L s.heap news) (hm : (l, tupO vs) ∈ news) (hi : IntsAre vs ns) (hl : ns.length ≤ 1000)
    (h : Q (.int (ns.length : Int) (s.toks + 1)) { s with toks := s.toks + 1 + 1 }) : wpAny (model prog w) A (call (.builtin "len") [.ref l]) Q E s := by
  have e : vs.toArray.size = ns.length := by simp [hi.length]
  refine len_tuple (items := vs.toArray) ⟨_, (N _ hm).1, rfl, _, rfl⟩ (by rw [e]; omega) ?_
  rw [e]
  exact h
theorem item_tupM {value slice : Expr} {k : Int} {u : Tok} {Q : Value → Shared → Prop} (N : News h₀ L s.heap news) (hm : (l, tupO vs) ∈ news) (hi : IntsAre vs ns)
    (h0 : 0 ≤ k) (h1 : k < ns.length) (hfit : k < 2 ^ 63) (h : ∀ t, Q (.int (ns.getD k.toNat 0) t) s)
    (hs : subscripted slice false (.ref l) (.int k u) = operate [.ref l, .int k u] (getItem (.ref l) (.int k u))) (hg : ∀ r, letTemporaryGo value (.ref l) r = pure ()) :
    wpAny (model prog w) A (subscriptTail value slice (.ref l) (.int k u)) Q E s := item_tuple_ints ⟨_, (N _ hm).1, rfl, _, rfl⟩ hi h0 h1 hfit h hs hg
end
local macro_rules | `(tactic| walk_at "call builtin:len") => `(tactic| (k_extra "g12"; k_dflt (refine' len_tupM ?N ?m ?i ?l ?_; k_extra "a12")))
local macro_rules | `(tactic| walk_at "subscriptTail Name Name ref int") => `(tactic| (k_extra "g13"; k_dflt (refine' item_tupM ?N ?m ?i ?a ?b ?c ?_ ?s ?t; k_extra "a13"); k_extra "b13"))
section
variable {w : World} {p : Program} {loose : List Str} {mean : ExcName → Option Value} {mg mb : Str → Option Value} {dp un : Nat} {gd : Option (List Code)} {cn : Str} {cs : Scope} {a : Addr} {ccd : Value} {cl : List (Str × Addr)} {outer : List Env} {A₀ : Around} {base h₀ : Heap} {L : Addr} {m : Str → Option Value} {s : Shared}
theorem long_p {px pdx pno pct : Addr} {plead : Str} {pn pnt pb : Int} {pcv : List Value} {pcnt : List Int} {psim : Bool} {pc : Nat} {pt1 pt2 pt3 pt4 pt5 pu1 pu2 pu3 pu4 : Tok} (i1 : IntsAre pcv pcnt) (h1 : pcnt.length ≤ 4) (h2 : 0 ≤ pb) (h3 : pb ≤ 4) (B : Below A₀ base outer h₀) (F : Fr h₀ L s.heap m) (X : (hd.heap_1 w.params).In h₀) (TP : Top p loose mean mg mb h₀) (hk : cs.kind = .function) (hdp : dp + 4 < recursionLimit) (hun : un + 40 < cLine) (N : News h₀ L s.heap [(px, instObj 209 pdx), (pdx, dictOf [entS w "raw" pt1 (.str plead pu1), entS w "n" pt2 (.int pn pu2), entS w "nt" pt3 (.int pnt pu3), entS w "norm" pt4 (.ref pno), entS w "is_simple" pt5 (.bool psim)] pc), (pno, tupO [.ref pct, .int pb pu4]), (pct, tupO pcv)]) :
    PureAt PR w (ktrTop dp un gd cn cs L a ccd cl outer) h₀ L m s 171 [.ref px] (fun r tl => tl = [] ∧ ∃ t, r = .int (longF pcnt pb) t) := by
  k_with_none
  w_top off
  k_with "m_enter" => ((case kA => exact rfl); (case kF => exact rfl); (case kK => assumption); (case k1 => k_asm); (case k2 => k_asm); (case k3 => k_asm); (case k5 => k_asm); (case k6 => k_is); (case k7 => k_is); (case k8 => walk_at "lt_room"); (case k9 => exact BindsTo.of_eq rfl); (case c5 => decide); (case kB => exact locs rfl); (case c2 => exact rfl); (case c3 => exact rfl); (case c4 => exact rfl); k_whole; intro g' L' h' F' N' B' X' T'; (try dsimp only [List.reverse, List.reverseAux, List.length]))
  k_with "m_pure" => ((case k1 => k_asm); (case k2 => k_asm); (case k3 => k_asm); (case k4 => k_asm); (case kK => first | exact rfl | assumption); (case kd => walk_at "lt_room"); (case ku => walk_at "lt_units"))
  k_with "m_useI" => (walk_at "m_pure"; (case k5 => k_asm); intro t9 h9 tk9 F9 N9; (try dsimp only); (try k_sweep))
  k_with "m_same" => (intro z h2 h3; (try simp only [List.forall_mem_cons, List.not_mem_nil, false_implies, implies_true, and_true, ne_eq, List.contains_cons, List.contains_nil, Bool.or_false, Bool.or_eq_false_iff, beq_eq_false_iff_ne] at h2 h3); simp [kstB, h2, h3])
  k_with "m_useB" => (walk_at "m_pure"; (case k5 => k_asm); intro h9 tk9 F9 N9; (try dsimp only); (try k_sweep))
  k_with "l_idx" => (k_dflt (k_extra "m_idx"))
  k_with "g9" => (k_here; (with_reducible show wpAny _ _ (subscriptTail _ _ (Value.ref _) (Value.int _ _)) _ _ _))
  k_with "a9" => ((case k1 => is_list); (case k3 => omega); (case k5 => omega); (case k6 => with_unfolding_all rfl); k_whole)
  k_with "pyIter ref" => (k_dflt (k_extra "m_iter"))
  k_with "g10" => skip
  k_with "m_sameN" => (intro z h1 h2 h3; (try simp only [List.forall_mem_cons, List.not_mem_nil, false_implies, implies_true, and_true, ne_eq, List.contains_cons, List.contains_nil, Bool.or_false, Bool.or_eq_false_iff, beq_eq_false_iff_ne] at h2 h3); first | rfl | ((show (if z = _ then _ else _) = _); rw [if_neg h1]; rfl) | (simp [kstB, h1, h2, h3]; done))
  k_with "mul_fits" => (k_extra "m_mul")
  k_with "InvEndN" => (refine stop_ ?_)
  k_with "KswEnd" => (refine stop_ ?_)
  k_with "m_new" => (first | exact List.forall_mem_nil _ | (refine List.forall_mem_cons.mpr ⟨⟨by k_mem, by k_all⟩, ?_⟩; walk_at "m_new"))
  k_with "g12" => (k_here; (with_reducible show wpAny _ _ (call (Value.builtin "len") [Value.ref _]) _ _ _))
  k_with "a12" => ((case N => k_asm); (case m => k_mem); (case i => assumption); (case l => omega); k_whole)
  k_with "g13" => (k_here; (with_reducible show wpAny _ _ (subscriptTail _ _ (Value.ref _) (Value.int _ _)) _ _ _))
  k_with "a13" => ((case N => k_asm); (case m => k_memK); (case i => assumption); (case a => l_idx); (case b => l_idx); (case c => l_idx); (case s => with_unfolding_all rfl); (case t => (intro r9; with_unfolding_all rfl)); k_whole)
  k_with "b13" => (intro _)
  k_with "lt_room" => (first | with_unfolding_all exact room2 (j := 0) hdp rfl rfl | with_unfolding_all exact room0 (j := 0) hdp rfl rfl | with_unfolding_all exact room2 (j := 1) hdp rfl rfl | with_unfolding_all exact room0 (j := 1) hdp rfl rfl | with_unfolding_all exact room2 (j := 2) hdp rfl rfl | with_unfolding_all exact room0 (j := 2) hdp rfl rfl | with_unfolding_all exact room2 (j := 3) hdp rfl rfl | with_unfolding_all exact room0 (j := 3) hdp rfl rfl | with_unfolding_all exact room2 (j := 4) hdp rfl rfl | with_unfolding_all exact room0 (j := 4) hdp rfl rfl | with_unfolding_all exact room2 (j := 5) hdp rfl rfl | with_unfolding_all exact room0 (j := 5) hdp rfl rfl | with_unfolding_all exact room2 (j := 6) hdp rfl rfl | with_unfolding_all exact room0 (j := 6) hdp rfl rfl | with_unfolding_all exact room2 (j := 7) hdp rfl rfl | with_unfolding_all exact room0 (j := 7) hdp rfl rfl | (trace "heavy"; ktr_room))
  k_with "lt_units" => (first | with_unfolding_all exact room2 (j := 0) hun rfl rfl | with_unfolding_all exact room0 (j := 0) hun rfl rfl | with_unfolding_all exact room2 (j := 1) hun rfl rfl | with_unfolding_all exact room0 (j := 1) hun rfl rfl | with_unfolding_all exact room2 (j := 2) hun rfl rfl | with_unfolding_all exact room0 (j := 2) hun rfl rfl | with_unfolding_all exact room2 (j := 3) hun rfl rfl | with_unfolding_all exact room0 (j := 3) hun rfl rfl | with_unfolding_all exact room2 (j := 4) hun rfl rfl | with_unfolding_all exact room0 (j := 4) hun rfl rfl | with_unfolding_all exact room2 (j := 5) hun rfl rfl | with_unfolding_all exact room0 (j := 5) hun rfl rfl | with_unfolding_all exact room2 (j := 6) hun rfl rfl | with_unfolding_all exact room0 (j := 6) hun rfl rfl | with_unfolding_all exact room2 (j := 7) hun rfl rfl | with_unfolding_all exact room0 (j := 7) hun rfl rfl | (trace "heavy"; ktr_units))
  k_dflt (refine' pure_code (n0 := [(px, instObj 209 pdx), (pdx, dictOf [entS w "raw" pt1 (.str plead pu1), entS w "n" pt2 (.int pn pu2), entS w "nt" pt3 (.int pnt pu3), entS w "norm" pt4 (.ref pno), entS w "is_simple" pt5 (.bool psim)] pc), (pno, tupO [.ref pct, .int pb pu4]), (pct, tupO pcv)]) (binds := [(Str.ofString "self", .ref px)]) ?k1 ?k2 ?k3 ?k5 N ?kA ?kF ?kK ?k6 ?k7 ?k8 ?k9 ?kB ?_ ?c2 ?c3 ?c4 ?c5; walk_at "m_enter")
  k_steps
  all_goals exact leaveP_ (by assumption) (by assumption) [] (fun _ h => h) new_nil ⟨rfl, _, rfl⟩
theorem indent_p {px pdx pno pct : Addr} {plead : Str} {pn pnt pb : Int} {pcv : List Value} {pcnt : List Int} {psim : Bool} {pc : Nat} {pt1 pt2 pt3 pt4 pt5 pu1 pu2 pu3 pu4 : Tok} {ts : Int} {tk : Tok} (i1 : IntsAre pcv pcnt) (h1 : pcnt.length ≤ 4) (h2 : 0 ≤ pb) (h3 : pb ≤ 4) (h4 : 2 ≤ ts) (h5 : ts ≤ 5) (h6 : ∀ c ∈ pcnt, 0 ≤ c ∧ c ≤ 4) (h7 : 0 ≤ pnt) (h8 : pnt ≤ 4) (B : Below A₀ base outer h₀) (F : Fr h₀ L s.heap m) (X : (hd.heap_1 w.params).In h₀) (TP : Top p loose mean mg mb h₀) (hk : cs.kind = .function) (hdp : dp + 4 < recursionLimit) (hun : un + 40 < cLine) (N : News h₀ L s.heap [(px, instObj 209 pdx), (pdx, dictOf [entS w "raw" pt1 (.str plead pu1), entS w "n" pt2 (.int pn pu2), entS w "nt" pt3 (.int pnt pu3), entS w "norm" pt4 (.ref pno), entS w "is_simple" pt5 (.bool psim)] pc), (pno, tupO [.ref pct, .int pb pu4]), (pct, tupO pcv)]) :
    PureAt PR w (ktrTop dp un gd cn cs L a ccd cl outer) h₀ L m s 178 [.ref px, .int ts tk] (fun r tl => tl = [] ∧ ∃ t, r = .int (indF pcnt pb pnt ts) t) := by
  k_with_none
  w_top off
  k_with "m_enter" => ((case kA => exact rfl); (case kF => exact rfl); (case kK => assumption); (case k1 => k_asm); (case k2 => k_asm); (case k3 => k_asm); (case k5 => k_asm); (case k6 => k_is); (case k7 => k_is); (case k8 => walk_at "lt_room"); (case k9 => exact BindsTo.of_eq rfl); (case c5 => decide); (case kB => exact locs rfl); (case c2 => exact rfl); (case c3 => exact rfl); (case c4 => exact rfl); k_whole; intro g' L' h' F' N' B' X' T'; (try dsimp only [List.reverse, List.reverseAux, List.length]))
  k_with "m_pure" => ((case k1 => k_asm); (case k2 => k_asm); (case k3 => k_asm); (case k4 => k_asm); (case kK => first | exact rfl | assumption); (case kd => walk_at "lt_room"); (case ku => walk_at "lt_units"))
  k_with "m_useI" => (walk_at "m_pure"; (case k5 => k_asm); intro t9 h9 tk9 F9 N9; (try dsimp only); (try k_sweep))
  k_with "m_same" => (intro z h2 h3; (try simp only [List.forall_mem_cons, List.not_mem_nil, false_implies, implies_true, and_true, ne_eq, List.contains_cons, List.contains_nil, Bool.or_false, Bool.or_eq_false_iff, beq_eq_false_iff_ne] at h2 h3); simp [kstB, h2, h3])
  k_with "m_useB" => (walk_at "m_pure"; (case k5 => k_asm); intro h9 tk9 F9 N9; (try dsimp only); (try k_sweep))
  k_with "l_idx" => (k_dflt (k_extra "m_idx"))
  k_with "g9" => (k_here; (with_reducible show wpAny _ _ (subscriptTail _ _ (Value.ref _) (Value.int _ _)) _ _ _))
  k_with "a9" => ((case k1 => is_list); (case k3 => omega); (case k5 => omega); (case k6 => with_unfolding_all rfl); k_whole)
  k_with "pyIter ref" => (k_dflt (k_extra "m_iter"))
  k_with "g10" => skip
  k_with "m_sameN" => (intro z h1 h2 h3; (try simp only [List.forall_mem_cons, List.not_mem_nil, false_implies, implies_true, and_true, ne_eq, List.contains_cons, List.contains_nil, Bool.or_false, Bool.or_eq_false_iff, beq_eq_false_iff_ne] at h2 h3); first | rfl | ((show (if z = _ then _ else _) = _); rw [if_neg h1]; rfl) | (simp [kstB, h1, h2, h3]; done))
  k_with "mul_fits" => (k_extra "m_mul")
  k_with "InvEndN" => (refine stop_ ?_)
  k_with "KswEnd" => (refine stop_ ?_)
  k_with "m_new" => (first | exact List.forall_mem_nil _ | (refine List.forall_mem_cons.mpr ⟨⟨by k_mem, by k_all⟩, ?_⟩; walk_at "m_new"))
  k_with "g12" => (k_here; (with_reducible show wpAny _ _ (call (Value.builtin "len") [Value.ref _]) _ _ _))
  k_with "a12" => ((case N => k_asm); (case m => k_mem); (case i => assumption); (case l => omega); k_whole)
  k_with "g13" => (k_here; (with_reducible show wpAny _ _ (subscriptTail _ _ (Value.ref _) (Value.int _ _)) _ _ _))
  k_with "a13" => ((case N => k_asm); (case m => k_memK); (case i => assumption); (case a => l_idx); (case b => l_idx); (case c => l_idx); (case s => with_unfolding_all rfl); (case t => (intro r9; with_unfolding_all rfl)); k_whole)
  k_with "b13" => (intro _)
  k_with "lt_room" => (first | with_unfolding_all exact room2 (j := 0) hdp rfl rfl | with_unfolding_all exact room0 (j := 0) hdp rfl rfl | with_unfolding_all exact room2 (j := 1) hdp rfl rfl | with_unfolding_all exact room0 (j := 1) hdp rfl rfl | with_unfolding_all exact room2 (j := 2) hdp rfl rfl | with_unfolding_all exact room0 (j := 2) hdp rfl rfl | with_unfolding_all exact room2 (j := 3) hdp rfl rfl | with_unfolding_all exact room0 (j := 3) hdp rfl rfl | with_unfolding_all exact room2 (j := 4) hdp rfl rfl | with_unfolding_all exact room0 (j := 4) hdp rfl rfl | with_unfolding_all exact room2 (j := 5) hdp rfl rfl | with_unfolding_all exact room0 (j := 5) hdp rfl rfl | with_unfolding_all exact room2 (j := 6) hdp rfl rfl | with_unfolding_all exact room0 (j := 6) hdp rfl rfl | with_unfolding_all exact room2 (j := 7) hdp rfl rfl | with_unfolding_all exact room0 (j := 7) hdp rfl rfl | (trace "heavy"; ktr_room))
  k_with "lt_units" => (first | with_unfolding_all exact room2 (j := 0) hun rfl rfl | with_unfolding_all exact room0 (j := 0) hun rfl rfl | with_unfolding_all exact room2 (j := 1) hun rfl rfl | with_unfolding_all exact room0 (j := 1) hun rfl rfl | with_unfolding_all exact room2 (j := 2) hun rfl rfl | with_unfolding_all exact room0 (j := 2) hun rfl rfl | with_unfolding_all exact room2 (j := 3) hun rfl rfl | with_unfolding_all exact room0 (j := 3) hun rfl rfl | with_unfolding_all exact room2 (j := 4) hun rfl rfl | with_unfolding_all exact room0 (j := 4) hun rfl rfl | with_unfolding_all exact room2 (j := 5) hun rfl rfl | with_unfolding_all exact room0 (j := 5) hun rfl rfl | with_unfolding_all exact room2 (j := 6) hun rfl rfl | with_unfolding_all exact room0 (j := 6) hun rfl rfl | with_unfolding_all exact room2 (j := 7) hun rfl rfl | with_unfolding_all exact room0 (j := 7) hun rfl rfl | (trace "heavy"; ktr_units))
  k_dflt (refine' pure_code (n0 := [(px, instObj 209 pdx), (pdx, dictOf [entS w "raw" pt1 (.str plead pu1), entS w "n" pt2 (.int pn pu2), entS w "nt" pt3 (.int pnt pu3), entS w "norm" pt4 (.ref pno), entS w "is_simple" pt5 (.bool psim)] pc), (pno, tupO [.ref pct, .int pb pu4]), (pct, tupO pcv)]) (binds := [(Str.ofString "self", .ref px), (Str.ofString "tabsize", .int ts tk)]) ?k1 ?k2 ?k3 ?k5 N ?kA ?kF ?kK ?k6 ?k7 ?k8 ?k9 ?kB ?_ ?c2 ?c3 ?c4 ?c5; walk_at "m_enter")
  k_with "m_iter" => k_state (fun pre il => il = ilS pcnt ts pre) "il"
  k_with "state" => exact (rfl : (0 : Int) = ilS pcnt ts [])
  k_with "m_mul" => exact IntMulOk.of_right (PySem.intBits_le_64 (getD_bd h6 _).1 (getD_bd h6 _).2)
  k_steps
  · (refine Stop.mk ?_; rename News _ _ _ _ => nE'; (try simp only [List.push_toArray] at nE'); refine kst_end ⟨_, _⟩ (by assumption) nE' (by first | kst_in | kst_inAny) (by first | (intro p hp; kst_mem) | kst_anyIn) (by rfl) (by kst_facts) (by kst_all) (by walk_at "m_sameN") ?_; (try dsimp only))
    exact ils_step (by assumption)
  · refine leaveP_ (by assumption) (by assumption) [] (fun _ h => h) new_nil ⟨rfl, ?_⟩
    exact int_end (ind_end (by assumption))
end
set_option maxRecDepth 100000
set_option maxHeartbeats 8000000
local macro_rules | `(tactic| walk_at "call ref") => `(tactic| (k_extra "g14"; k_dflt (refine' pure_useI (long_p ?i1 ?h1 ?h2 ?h3 ?k1 ?k2 ?k3 ?k4 ?kK ?kd ?ku (kst_newsOf ?kN (SubL.mem ?kS))) ?k5 ?_); k_extra "b14"))
local macro_rules | `(tactic| walk_at "call ref") => `(tactic| (k_extra "g15"; k_dflt (refine' pure_useI (indent_p ?i1 ?h1 ?h2 ?h3 ?h4 ?h5 ?h6 ?h7 ?h8 ?k1 ?k2 ?k3 ?k4 ?kK ?kd ?ku (kst_newsOf ?kN (SubL.mem ?kS))) ?k5 ?_); k_extra "b15"))
noncomputable def lessTs (p q : List Int × Int × Int) (ts : Int) : Bool := decide (indF p.1 p.2.1 p.2.2 ts < indF q.1 q.2.1 q.2.2 ts)
noncomputable abbrev maxF (a b : Int) : Int := if b > a then b else a
/-- what less says, by the figures n, nt, is_simple and (count, trailing) of both -/
noncomputable def lessF (pn : Int) (ps : Bool) (pnt : Int) (pcnt : List Int) (pb : Int) (qn : Int) (qs : Bool) (qnt : Int) (qcnt : List Int) (qb : Int) : Bool :=
  if pn ≥ qn then false else if (ps && qs) = true then decide (pnt ≤ qnt) else (rangeKs 2 (maxF (longF pcnt pb) (longF qcnt qb) + 1 + 1 - 2).toNat).all fun ts => decide (indF pcnt pb pnt ts < indF qcnt qb qnt ts)
section
variable {pn pnt pb qn qnt qb : Int} {ps qs : Bool} {pcnt qcnt : List Int}
theorem less_1 (h : qn ≤ pn) : Value.bool false = .bool (lessF pn ps pnt pcnt pb qn qs qnt qcnt qb) := by unfold lessF; rw [if_pos h]
theorem less_2 (h : ¬ qn ≤ pn) (h1 : ps = true) (h2 : qs = true) : Value.bool (decide (pnt ≤ qnt)) = .bool (lessF pn ps pnt pcnt pb qn qs qnt qcnt qb) := by
  unfold lessF; rw [if_neg h, h1, h2]; rfl
theorem less_3 {k : Int} {pre : List Int} (h : ¬ qn ≤ pn) (h1 : ps = true → qs = true → False) (e : k = 2 + (pre.length : Int)) (l : pre.length < (maxF (longF pcnt pb) (longF qcnt qb) + 1 + 1 - 2).toNat) (hge : indF qcnt qb qnt k ≤ indF pcnt pb pnt k) :
    Value.bool false = .bool (lessF pn ps pnt pcnt pb qn qs qnt qcnt qb) := by
  have hs : ¬ (ps && qs) = true := fun x => h1 (Bool.and_eq_true_iff.mp x).1 (Bool.and_eq_true_iff.mp x).2
  unfold lessF
  rw [if_neg h, if_neg hs]
  congr 1
  symm
  rw [List.all_eq_false]
  refine ⟨k, ?_, ?_⟩
  · rw [e]
    unfold rangeKs
    rw [List.mem_map]
    exact ⟨pre.length, List.mem_range.mpr l, rfl⟩
  · rw [decide_eq_true_eq]; omega
theorem less_4 (h : ¬ qn ≤ pn) (h1 : ps = true → qs = true → False) (ha : ∀ t ∈ rangeKs 2 (maxF (longF pcnt pb) (longF qcnt qb) + 1 + 1 - 2).toNat, indF pcnt pb pnt t < indF qcnt qb qnt t) :
    Value.bool true = .bool (lessF pn ps pnt pcnt pb qn qs qnt qcnt qb) := by
  have hs : ¬ (ps && qs) = true := fun x => h1 (Bool.and_eq_true_iff.mp x).1 (Bool.and_eq_true_iff.mp x).2
  unfold lessF
  rw [if_neg h, if_neg hs]
  congr 1
  symm
  rw [List.all_eq_true]
  exact fun t ht => decide_eq_true (ha t ht)
theorem less_5 {k : Int} {pre : List Int} (ha : ∀ t ∈ pre, indF pcnt pb pnt t < indF qcnt qb qnt t) (h : ¬ indF qcnt qb qnt k ≤ indF pcnt pb pnt k) : ∀ t ∈ pre ++ [k], indF pcnt pb pnt t < indF qcnt qb qnt t := by
  intro t ht
  rcases List.mem_append.mp ht with ht | ht
  · exact ha t ht
  · rw [List.mem_singleton.mp ht]; omega
theorem not_tt {b : Bool} (h : b = true → False) (c : Bool) : b = true → c = true → False := fun x _ => h x
end
section
variable {w : World} {p : Program} {loose : List Str} {mean : ExcName → Option Value} {mg mb : Str → Option Value} {dp un : Nat} {gd : Option (List Code)} {cn : Str} {cs : Scope} {a : Addr} {ccd : Value} {cl : List (Str × Addr)} {outer : List Env} {A₀ : Around} {base h₀ : Heap} {L : Addr} {m : Str → Option Value} {s : Shared}
theorem less_p {px pdx pno pct : Addr} {plead : Str} {pn pnt pb : Int} {pcv : List Value} {pcnt : List Int} {psim : Bool} {pc : Nat} {pt1 pt2 pt3 pt4 pt5 pu1 pu2 pu3 pu4 : Tok} {qx qdx qno qct : Addr} {qlead : Str} {qn qnt qb : Int} {qcv : List Value} {qcnt : List Int} {qsim : Bool} {qc : Nat} {qt1 qt2 qt3 qt4 qt5 qu1 qu2 qu3 qu4 : Tok} (ip : IntsAre pcv pcnt) (h1p : pcnt.length ≤ 4) (h2p : 0 ≤ pb) (h3p : pb ≤ 4) (h6p : ∀ c ∈ pcnt, 0 ≤ c ∧ c ≤ 4) (h7p : 0 ≤ pnt) (h8p : pnt ≤ 4) (iq : IntsAre qcv qcnt) (h1q : qcnt.length ≤ 4) (h2q : 0 ≤ qb) (h3q : qb ≤ 4) (h6q : ∀ c ∈ qcnt, 0 ≤ c ∧ c ≤ 4) (h7q : 0 ≤ qnt) (h8q : qnt ≤ 4) (B : Below A₀ base outer h₀) (F : Fr h₀ L s.heap m) (X : (hd.heap_1 w.params).In h₀) (TP : Top p loose mean mg mb h₀) (hk : cs.kind = .function) (hdp : dp + 8 < recursionLimit) (hun : un + 80 < cLine) (N : News h₀ L s.heap [(px, instObj 209 pdx), (pdx, dictOf [entS w "raw" pt1 (.str plead pu1), entS w "n" pt2 (.int pn pu2), entS w "nt" pt3 (.int pnt pu3), entS w "norm" pt4 (.ref pno), entS w "is_simple" pt5 (.bool psim)] pc), (pno, tupO [.ref pct, .int pb pu4]), (pct, tupO pcv), (qx, instObj 209 qdx), (qdx, dictOf [entS w "raw" qt1 (.str qlead qu1), entS w "n" qt2 (.int qn qu2), entS w "nt" qt3 (.int qnt qu3), entS w "norm" qt4 (.ref qno), entS w "is_simple" qt5 (.bool qsim)] qc), (qno, tupO [.ref qct, .int qb qu4]), (qct, tupO qcv)]) :
    PureAt PR w (ktrTop dp un gd cn cs L a ccd cl outer) h₀ L m s 199 [.ref px, .ref qx] (fun r tl => tl = [] ∧ r = .bool (lessF pn psim pnt pcnt pb qn qsim qnt qcnt qb)) := by
  have hMp : Stop (0 ≤ longF pcnt pb ∧ longF pcnt pb ≤ 4) := ⟨by unfold longF; split <;> omega⟩
  have hMq : Stop (0 ≤ longF qcnt qb ∧ longF qcnt qb ≤ 4) := ⟨by unfold longF; split <;> omega⟩
  k_with_none
  w_top off
  k_with "m_enter" => ((case kA => exact rfl); (case kF => exact rfl); (case kK => assumption); (case k1 => k_asm); (case k2 => k_asm); (case k3 => k_asm); (case k5 => k_asm); (case k6 => k_is); (case k7 => k_is); (case k8 => walk_at "lt_room"); (case k9 => exact BindsTo.of_eq rfl); (case c5 => decide); (case kB => exact locs rfl); (case c2 => exact rfl); (case c3 => exact rfl); (case c4 => exact rfl); k_whole; intro g' L' h' F' N' B' X' T'; (try dsimp only [List.reverse, List.reverseAux, List.length]))
  k_with "m_pure" => ((case k1 => k_asm); (case k2 => k_asm); (case k3 => k_asm); (case k4 => k_asm); (case kK => first | exact rfl | assumption); (case kd => walk_at "lt_room"); (case ku => walk_at "lt_units"))
  k_with "m_useI" => (walk_at "m_pure"; (case k5 => k_asm); intro t9 h9 tk9 F9 N9; (try dsimp only); (try k_sweep))
  k_with "m_same" => (intro z h2 h3; (try simp only [List.forall_mem_cons, List.not_mem_nil, false_implies, implies_true, and_true, ne_eq, List.contains_cons, List.contains_nil, Bool.or_false, Bool.or_eq_false_iff, beq_eq_false_iff_ne] at h2 h3); simp [kstB, h2, h3])
  k_with "m_useB" => (walk_at "m_pure"; (case k5 => k_asm); intro h9 tk9 F9 N9; (try dsimp only); (try k_sweep))
  k_with "l_idx" => (k_dflt (k_extra "m_idx"))
  k_with "g9" => (k_here; (with_reducible show wpAny _ _ (subscriptTail _ _ (Value.ref _) (Value.int _ _)) _ _ _))
  k_with "a9" => ((case k1 => is_list); (case k3 => omega); (case k5 => omega); (case k6 => with_unfolding_all rfl); k_whole)
  k_with "pyIter ref" => (k_dflt (k_extra "m_iter"))
  k_with "g10" => skip
  k_with "m_sameN" => (intro z h1 h2 h3; (try simp only [List.forall_mem_cons, List.not_mem_nil, false_implies, implies_true, and_true, ne_eq, List.contains_cons, List.contains_nil, Bool.or_false, Bool.or_eq_false_iff, beq_eq_false_iff_ne] at h2 h3); first | rfl | ((show (if z = _ then _ else _) = _); rw [if_neg h1]; rfl) | (simp [kstB, h1, h2, h3]; done))
  k_with "mul_fits" => (k_extra "m_mul")
  k_with "InvEndN" => (refine stop_ ?_)
  k_with "KswEnd" => (refine stop_ ?_)
  k_with "m_new" => (first | exact List.forall_mem_nil _ | (refine List.forall_mem_cons.mpr ⟨⟨by k_mem, by k_all⟩, ?_⟩; walk_at "m_new"))
  k_with "g12" => (k_here; (with_reducible show wpAny _ _ (call (Value.builtin "len") [Value.ref _]) _ _ _))
  k_with "a12" => ((case N => k_asm); (case m => k_mem); (case i => assumption); (case l => omega); k_whole)
  k_with "g13" => (k_here; (with_reducible show wpAny _ _ (subscriptTail _ _ (Value.ref _) (Value.int _ _)) _ _ _))
  k_with "a13" => ((case N => k_asm); (case m => k_memK); (case i => assumption); (case a => l_idx); (case b => l_idx); (case c => l_idx); (case s => with_unfolding_all rfl); (case t => (intro r9; with_unfolding_all rfl)); k_whole)
  k_with "b13" => (intro _)
  k_with "g14" => (k_here)
  k_with "b14" => ((case kN => k_asm); (case kS => k_subL); (case i1 => assumption); (case h1 => assumption); (case h2 => assumption); (case h3 => assumption); walk_at "m_useI")
  k_with "g15" => (k_here)
  k_with "b15" => ((case kN => k_asm); (case kS => k_subL); (case i1 => assumption); (case h1 => assumption); (case h2 => assumption); (case h3 => assumption); (case h4 => omega); (case h5 => k_extra "m_ts"); (case h6 => assumption); (case h7 => assumption); (case h8 => assumption); walk_at "m_useI")
  k_with "lt_room" => (first | with_unfolding_all exact room2 (j := 0) hdp rfl rfl | with_unfolding_all exact room0 (j := 0) hdp rfl rfl | with_unfolding_all exact room2 (j := 1) hdp rfl rfl | with_unfolding_all exact room0 (j := 1) hdp rfl rfl | with_unfolding_all exact room2 (j := 2) hdp rfl rfl | with_unfolding_all exact room0 (j := 2) hdp rfl rfl | with_unfolding_all exact room2 (j := 3) hdp rfl rfl | with_unfolding_all exact room0 (j := 3) hdp rfl rfl | with_unfolding_all exact room2 (j := 4) hdp rfl rfl | with_unfolding_all exact room0 (j := 4) hdp rfl rfl | with_unfolding_all exact room2 (j := 5) hdp rfl rfl | with_unfolding_all exact room0 (j := 5) hdp rfl rfl | with_unfolding_all exact room2 (j := 6) hdp rfl rfl | with_unfolding_all exact room0 (j := 6) hdp rfl rfl | with_unfolding_all exact room2 (j := 7) hdp rfl rfl | with_unfolding_all exact room0 (j := 7) hdp rfl rfl | (trace "heavy"; ktr_room))
  k_with "lt_units" => (first | with_unfolding_all exact room2 (j := 0) hun rfl rfl | with_unfolding_all exact room0 (j := 0) hun rfl rfl | with_unfolding_all exact room2 (j := 1) hun rfl rfl | with_unfolding_all exact room0 (j := 1) hun rfl rfl | with_unfolding_all exact room2 (j := 2) hun rfl rfl | with_unfolding_all exact room0 (j := 2) hun rfl rfl | with_unfolding_all exact room2 (j := 3) hun rfl rfl | with_unfolding_all exact room0 (j := 3) hun rfl rfl | with_unfolding_all exact room2 (j := 4) hun rfl rfl | with_unfolding_all exact room0 (j := 4) hun rfl rfl | with_unfolding_all exact room2 (j := 5) hun rfl rfl | with_unfolding_all exact room0 (j := 5) hun rfl rfl | with_unfolding_all exact room2 (j := 6) hun rfl rfl | with_unfolding_all exact room0 (j := 6) hun rfl rfl | with_unfolding_all exact room2 (j := 7) hun rfl rfl | with_unfolding_all exact room0 (j := 7) hun rfl rfl | (trace "heavy"; ktr_units))
  k_dflt (refine' pure_code (n0 := [(px, instObj 209 pdx), (pdx, dictOf [entS w "raw" pt1 (.str plead pu1), entS w "n" pt2 (.int pn pu2), entS w "nt" pt3 (.int pnt pu3), entS w "norm" pt4 (.ref pno), entS w "is_simple" pt5 (.bool psim)] pc), (pno, tupO [.ref pct, .int pb pu4]), (pct, tupO pcv), (qx, instObj 209 qdx), (qdx, dictOf [entS w "raw" qt1 (.str qlead qu1), entS w "n" qt2 (.int qn qu2), entS w "nt" qt3 (.int qnt qu3), entS w "norm" qt4 (.ref qno), entS w "is_simple" qt5 (.bool qsim)] qc), (qno, tupO [.ref qct, .int qb qu4]), (qct, tupO qcv)]) (binds := [(Str.ofString "self", .ref px), (Str.ofString "other", .ref qx)]) ?k1 ?k2 ?k3 ?k5 N ?kA ?kF ?kK ?k6 ?k7 ?k8 ?k9 ?kB ?_ ?c2 ?c3 ?c4 ?c5; walk_at "m_enter")
  k_with "m_iter" => ((rename Fr _ _ _ _ => lF9); (rename News _ _ _ _ => lN9); (rename IsRange _ _ _ _ _ _ _ _ => rgX); (with_unfolding_all refine' kst_range (σ := Unit) (fun _ => [(px, instObj 209 pdx), (pdx, dictOf [entS w "raw" pt1 (.str plead pu1), entS w "n" pt2 (.int pn pu2), entS w "nt" pt3 (.int pnt pu3), entS w "norm" pt4 (.ref pno), entS w "is_simple" pt5 (.bool psim)] pc), (pno, tupO [.ref pct, .int pb pu4]), (pct, tupO pcv), (qx, instObj 209 qdx), (qdx, dictOf [entS w "raw" qt1 (.str qlead qu1), entS w "n" qt2 (.int qn qu2), entS w "nt" qt3 (.int qnt qu3), entS w "norm" qt4 (.ref qno), entS w "is_simple" qt5 (.bool qsim)] qc), (qno, tupO [.ref qct, .int qb qu4]), (qct, tupO qcv)]) (fun _ => []) (fun _ => True) [] (fun pre _ => ∀ t ∈ pre, indF pcnt pb pnt t < indF qcnt qb qnt t) (()) (by rfl) rgX (by (have q1 := hMp.out; have q2 := hMq.out; exact small_one (by omega) (by omega) (by omega) (by omega))) (rangeSize_nat _ _) lF9 ?kn (trivial) (by kst_all) (fun _ h => nomatch h) (fun kC kPre kN kT kU kH kTk kOwn kEq kLt kOff kFacts kInv kFr kNews => ?_) (fun kC kU kH kTk kFacts kInv kFr kNews => ?_)); (case kn => (with_unfolding_all (first | exact lN9 | exact kst_newsOf lN9 (by kst_inAny)))); (clear lF9 lN9); (have kMark : KstMark := kstMark); (try k_fold))
  k_with "m_ts" => (have q1 := hMp.out; have q2 := hMq.out; omega)
  k_steps
  · refine leaveP_ (by assumption) (by assumption) [] (SubL.mem (by k_subL)) new_nil ⟨rfl, ?_⟩
    exact less_1 (by assumption)
  · refine leaveP_ (by assumption) (by assumption) [] (SubL.mem (by k_subL)) new_nil ⟨rfl, ?_⟩
    exact less_2 (by assumption) (by assumption) (by assumption)
  iterate 2
    · refine leaveP_ (by assumption) (by assumption) [] ?ka new_nil ⟨rfl, ?_⟩
      case ka => first | exact SubL.mem (by k_subL) | kst_inAny
      refine less_3 (by assumption) ?_ kEq kLt (by assumption)
      intro z1 z2
      first | contradiction | simp_all
    · (refine Stop.mk ?_; rename News _ _ _ _ => nE'; (try simp only [List.push_toArray] at nE'); refine kst_end () (by assumption) nE' (by first | kst_in | kst_inAny) (by first | (intro p hp; kst_mem) | kst_anyIn) (by rfl) (by kst_facts) (by kst_all) (by walk_at "m_sameN") ?_; (try dsimp only))
      exact less_5 kInv (by assumption)
    · refine leaveP_ (by assumption) (by assumption) [] ?ka new_nil ⟨rfl, ?_⟩
      case ka => first | exact SubL.mem (by k_subL) | kst_inAny
      refine less_4 (by assumption) ?_ kInv
      intro z1 z2
      first | contradiction | simp_all
end
set_option maxRecDepth 100000
set_option maxHeartbeats 8000000
theorem len_listM {prog : Program} {w : World} {A : Around} {E : Value → Shared → Prop} {s : Shared} {h₀ : Heap} {L l : Addr} {news : List (Addr × Obj)} {vs : List Value} {ns : List Int} {k : Nat} {Q : Value → Shared → Prop} (N : News h₀ L s.heap news) (hm : (l, listOf vs.toArray k) ∈ news) (hi : IntsAre vs ns) (hl : ns.length ≤ 1000)
    (h : Q (.int (ns.length : Int) (s.toks + 1)) { s with toks := s.toks + 1 + 1 }) : wpAny (model prog w) A (call (.builtin "len") [.ref l]) Q E s := by
  have e : vs.toArray.size = ns.length := by simp [hi.length]
  refine len_list (items := vs.toArray) ⟨_, (N _ hm).1, rfl, _, rfl⟩ (by rw [e]; omega) ?_
  rw [e]
  exact h
local macro_rules | `(tactic| walk_at "call type:tuple") => `(tactic| (k_extra "g16"; k_dflt (refine' kde_tupleOf ?k1 ?k2 ?k3 ?k4 ?k5 ?_; k_extra "a16"); k_extra "b16"))
local macro_rules | `(tactic| walk_at "call builtin:len") => `(tactic| (k_extra "g17"; k_dflt (refine' len_listM ?N ?m ?i ?l ?_; k_extra "a17")))
structure Scan where
  n : Int
  b : Int
  nt : Int
  cnt : List Int
noncomputable def padF (cnt : List Int) (b : Int) : List Int := if b ≥ (cnt.length : Int) then cnt ++ (List.replicate (b - (cnt.length : Int) + 1).toNat [0]).flatten else cnt
noncomputable def bumpF (cnt : List Int) (b : Int) : List Int := (padF cnt b).set b.toNat (gI (padF cnt b) b + 1)
noncomputable def scanS (c : Scan) (ch : Nat) : Scan := if ch = 32 then ⟨c.n + 1, c.b + 1, c.nt, c.cnt⟩ else ⟨c.n + 1, 0, c.nt + 1, bumpF c.cnt c.b⟩
noncomputable def scanF (l : List Nat) : Scan := l.foldl scanS ⟨0, 0, 0, []⟩
structure IniS where
  a : Addr
  v : List Value
  cnt : List Int
  k : Nat
  n : Int
  tn : Tok
  b : Int
  tb : Tok
  nt : Int
  tt : Tok
noncomputable def IniS.P (lead : Str) (i : Nat) (c : IniS) : Prop := (⟨c.n, c.b, c.nt, c.cnt⟩ : Scan) = scanF (lead.cps.toList.take i) ∧ 0 ≤ c.b ∧ c.b ≤ (i : Int) ∧ c.cnt.length ≤ i ∧ 0 ≤ c.n ∧ c.n ≤ (i : Int) ∧ 0 ≤ c.nt ∧ c.nt ≤ (i : Int)
noncomputable abbrev IniS.Led (fix : List (Addr × Obj)) (c : IniS) : List (Addr × Obj) := (c.a, listOf c.v.toArray c.k) :: fix
noncomputable abbrev IniS.ps (c : IniS) : List (Str × Value) := [(Str.ofString "n", .int c.n c.tn), (Str.ofString "b", .int c.b c.tb), (Str.ofString "nt", .int c.nt c.tt), (Str.ofString "count", .ref c.a)]
theorem ini_loop {prog : Program} {w : World} {A : Around} {E : Value → Shared → Prop} {env : Env} {h₀ : Heap} {body : List Stmt} {Q : Flow → Shared → Prop} {s : Shared} {lead : Str} {t : Tok} {y : Str} {py : Pos} {m₀ : Str → Option Value} {l : Addr} {fix : List (Addr × Obj)} {t1 t2 t3 : Tok} (stored : List Str)
    (ha : lead.cps.all (· < 128) = true) (hh : A.handled = none) (F : Fr h₀ env.locals s.heap m₀) (N : News h₀ env.locals s.heap ((l, listOf #[] 0) :: fix))
    (e1 : m₀ (Str.ofString "n") = some (.int 0 t1)) (e2 : m₀ (Str.ofString "b") = some (.int 0 t2)) (e3 : m₀ (Str.ofString "nt") = some (.int 0 t3)) (e4 : m₀ (Str.ofString "count") = some (.ref l)) (ne : ∀ q ∈ fix, q.1 ≠ l)
    (turn : ∀ a v cnt k n tn b tb nt tt i ch tv (u : Str → Option Value) h tk own, lead.cps[i]? = some ch → (∀ q ∈ (a, listOf v.toArray k) :: fix, ∀ p ∈ own, p.1 ≠ q.1) → IntsAre v cnt → (∀ q ∈ fix, q.1 ≠ a) → IniS.P lead i ⟨a, v, cnt, k, n, tn, b, tb, nt, tt⟩ →
      Fr h₀ env.locals h (kstB (fun z => if stored.contains z then u z else m₀ z) [(Str.ofString "n", .int n tn), (Str.ofString "b", .int b tb), (Str.ofString "nt", .int nt tt), (Str.ofString "count", .ref a)]) → News h₀ env.locals h ((a, listOf v.toArray k) :: fix ++ own) →
      wpAny (model prog w) A (assign (.Name y py) env (.str ⟨#[ch]⟩ tv)) (fun _ s₃ => wpAny (model prog w) A (execs body env) (TEnd h₀ env.locals { s with heap := h, toks := tk } (IniS.Led fix) IniS.ps (fun c => IntsAre c.v c.cnt ∧ ∀ q ∈ fix, q.1 ≠ c.a) stored m₀ (IniS.P lead (i + 1)) own Q) E s₃) E { s with heap := h, toks := tk })
    (done : ∀ a v cnt k n tn b tb nt tt (u : Str → Option Value) h tk, IntsAre v cnt → (∀ q ∈ fix, q.1 ≠ a) → IniS.P lead lead.cps.size ⟨a, v, cnt, k, n, tn, b, tb, nt, tt⟩ → Fr h₀ env.locals h (kstB (fun z => if stored.contains z then u z else m₀ z) [(Str.ofString "n", .int n tn), (Str.ofString "b", .int b tb), (Str.ofString "nt", .int nt tt), (Str.ofString "count", .ref a)]) → News h₀ env.locals h ((a, listOf v.toArray k) :: fix) → Q .next { s with heap := h, toks := tk }) :
    wpAny (model prog w) A (pyIter (.str lead t)) (fun it s₂ => TurnsAt prog w A h₀ env (.Name y py) body Q E it s₂) E s :=
  m_str (IniS.Led fix) IniS.ps (fun c => IntsAre c.v c.cnt ∧ ∀ q ∈ fix, q.1 ≠ c.a) stored (IniS.P lead) ⟨l, [], [], 0, 0, t1, 0, t2, 0, t3⟩ ha hh F N ⟨.nil, ne⟩
    (List.forall_mem_cons.mpr ⟨e1, List.forall_mem_cons.mpr ⟨e2, List.forall_mem_cons.mpr ⟨e3, List.forall_mem_cons.mpr ⟨e4, List.forall_mem_nil _⟩⟩⟩⟩) ⟨rfl, Int.le_refl _, Int.le_refl _, Nat.le_refl _, Int.le_refl _, Int.le_refl _, Int.le_refl _, Int.le_refl _⟩
    (fun ⟨a, v, cnt, k, n, tn, b, tb, nt, tt⟩ i ch tv u h tk own e1 e2 e3 => turn a v cnt k n tn b tb nt tt i ch tv u h tk own e1 e2 e3.1 e3.2) (fun ⟨a, v, cnt, k, n, tn, b, tb, nt, tt⟩ u h tk e3 => done a v cnt k n tn b tb nt tt u h tk e3.1 e3.2)
theorem scan_snoc (l : List Nat) (ch : Nat) : scanF (l ++ [ch]) = scanS (scanF l) ch := by unfold scanF; rw [List.foldl_append]; rfl
theorem bump_mem {cnt : List Int} {b x k : Int} (h : ∀ y ∈ cnt, 0 ≤ y ∧ y ≤ k) (h0 : 0 ≤ k) (hx : x ∈ bumpF cnt b) : 0 ≤ x ∧ x ≤ k + 1 := by
  have hp : ∀ y ∈ padF cnt b, 0 ≤ y ∧ y ≤ k := fun y hy => by
    unfold padF at hy
    split at hy
    · rcases List.mem_append.mp hy with hy | hy
      · exact h y hy
      · obtain ⟨l, hl, hl2⟩ := List.mem_flatten.mp hy
        rw [(List.mem_replicate.mp hl).2] at hl2
        rw [List.mem_singleton.mp hl2]; omega
    · exact h y hy
  unfold bumpF at hx
  rcases List.mem_or_eq_of_mem_set hx with hx | rfl
  · have := hp x hx; omega
  · unfold gI
    rw [List.getD_eq_getElem?_getD]
    cases e : (padF cnt b)[b.toNat]? with
    | none => simp only [Option.getD_none]; omega
    | some y => have := hp y (List.mem_of_getElem? e); simp only [Option.getD_some]; omega
theorem bump_len {cnt : List Int} {b : Int} (h : 0 ≤ b) : ((bumpF cnt b).length : Int) = if b ≥ (cnt.length : Int) then b + 1 else (cnt.length : Int) := by
  unfold bumpF padF
  rw [List.length_set]
  split
  · rw [List.length_append, List.length_flatten, List.map_replicate, List.sum_replicate_nat]
    simp only [List.length_singleton]
    omega
  · rfl
structure ScanB (k : Nat) (c : Scan) : Prop where
  b : 0 ≤ c.b ∧ c.b ≤ (k : Int)
  l : c.cnt.length ≤ k
  n : 0 ≤ c.n ∧ c.n ≤ (k : Int)
  nt : 0 ≤ c.nt ∧ c.nt ≤ (k : Int)
  m : ∀ x ∈ c.cnt, 0 ≤ x ∧ x ≤ (k : Int)
theorem scan_step {k : Nat} {c : Scan} {ch : Nat} (h : ScanB k c) : ScanB (k + 1) (scanS c ch) := by
  obtain ⟨hb, hc, hn, hnt, hm⟩ := h
  unfold scanS
  split
  · exact ⟨by dsimp only; omega, by dsimp only; omega, by dsimp only; omega, by dsimp only; omega, fun x hx => by have := hm x hx; omega⟩
  · refine ⟨by dsimp only; omega, ?_, by dsimp only; omega, by dsimp only; omega, fun x hx => by have := bump_mem hm (by omega) hx; omega⟩
    dsimp only
    have := bump_len (cnt := c.cnt) hb.1
    split at this <;> omega
theorem scan_bd (l : List Nat) : ScanB l.length (scanF l) := by
  suffices ∀ l : List Nat, ScanB l.reverse.length (scanF l.reverse) by have := this l.reverse; rwa [List.reverse_reverse] at this
  intro l
  induction l with
  | nil => exact ⟨by decide, by decide, by decide, by decide, fun x hx => nomatch hx⟩
  | cons a l ih =>
    rw [List.reverse_cons, scan_snoc, List.length_append]
    exact scan_step ih
theorem ini_P {lead : Str} {i : Nat} {c : IniS} (h : i ≤ lead.cps.size) (e : (⟨c.n, c.b, c.nt, c.cnt⟩ : Scan) = scanF (lead.cps.toList.take i)) : IniS.P lead i c := by
  have h1 := scan_bd (lead.cps.toList.take i)
  rw [← e, List.length_take, Nat.min_eq_left (by simpa using h)] at h1
  exact ⟨e, h1.b.1, h1.b.2, h1.l, h1.n.1, h1.n.2, h1.nt.1, h1.nt.2⟩
theorem ini_step {lead : Str} {i ch : Nat} {c c' : IniS} (h : IniS.P lead i c) (hc : lead.cps[i]? = some ch) (e : (⟨c'.n, c'.b, c'.nt, c'.cnt⟩ : Scan) = scanS ⟨c.n, c.b, c.nt, c.cnt⟩ ch) : IniS.P lead (i + 1) c' := by
  obtain ⟨hi, he⟩ := Array.getElem?_eq_some_iff.mp hc
  refine ini_P hi ?_
  rw [e, h.1, ← scan_snoc]
  congr 1
  have : lead.cps.toList[i]? = some ch := by rw [← Array.getElem?_toList] at hc; exact hc
  rw [List.take_add_one, this]
  rfl
theorem scan_sp {n b nt : Int} {cnt : List Int} : (⟨n + 1, b + 1, nt, cnt⟩ : Scan) = scanS ⟨n, b, nt, cnt⟩ 32 := rfl
theorem scan_t1 {n b nt : Int} {cnt : List Int} (h : (cnt.length : Int) ≤ b) : (⟨n + 1, 0, nt + 1, (cnt ++ (List.replicate (b - (cnt.length : Int) + 1).toNat [0]).flatten).set b.toNat ((cnt ++ (List.replicate (b - (cnt.length : Int) + 1).toNat [0]).flatten).getD b.toNat 0 + 1)⟩ : Scan) = scanS ⟨n, b, nt, cnt⟩ 9 := by
  unfold scanS bumpF padF
  rw [if_neg (by decide)]
  dsimp only
  rw [if_pos h]
theorem scan_t2 {n b nt : Int} {cnt : List Int} (h : ¬ (cnt.length : Int) ≤ b) : (⟨n + 1, 0, nt + 1, cnt.set b.toNat (cnt.getD b.toNat 0 + 1)⟩ : Scan) = scanS ⟨n, b, nt, cnt⟩ 9 := by
  unfold scanS bumpF padF
  rw [if_neg (by decide)]
  dsimp only
  rw [if_neg h]
noncomputable def NewsP (h₀ : Heap) (L : Addr) (m : Str → Option Value) (s : Shared) (news : List (Addr × Obj)) (Out : Value → List (Addr × Obj) → Prop) (r : Value) (s' : Shared) : Prop :=
  ∃ tl h' tk', s' = { s with heap := h', toks := tk' } ∧ Out r tl ∧ Fr h₀ L h' m ∧ News h₀ L h' (tl ++ news) ∧ (∀ p ∈ tl, ∀ q ∈ news, q.1 < p.1)
noncomputable def WsOut (w : World) (lead : Str) (r : Value) (tl : List (Addr × Obj)) : Prop :=
  ∃ (px pdx pno pct : Addr) (pn pnt pb : Int) (pcv : List Value) (pcnt : List Int) (psim : Bool) (pc : Nat) (pt1 pt2 pt3 pt4 pt5 pu1 pu2 pu3 pu4 : Tok) (plead : Str), r = .ref px ∧ tl = [(px, instObj 209 pdx), (pdx, dictOf [entS w "raw" pt1 (.str plead pu1), entS w "n" pt2 (.int pn pu2), entS w "nt" pt3 (.int pnt pu3), entS w "norm" pt4 (.ref pno), entS w "is_simple" pt5 (.bool psim)] pc), (pno, tupO [.ref pct, .int pb pu4]), (pct, tupO pcv)] ∧ IntsAre pcv pcnt ∧ (⟨pn, pb, pnt, pcnt⟩ : Scan) = scanF lead.cps.toList ∧ psim = decide ((pcnt.length : Int) ≤ 1)
theorem ws_end {w : World} {h₀ : Heap} {L : Addr} {m : Str → Option Value} {s : Shared} {news all : List (Addr × Obj)} {h' : Heap} {tk : Nat} {px pdx pno pct : Addr} {pn pnt pb : Int} {pcv : List Value} {pcnt : List Int} {psim : Bool} {pc : Nat} {pt1 pt2 pt3 pt4 pt5 pu1 pu2 pu3 pu4 : Tok} {plead lead : Str}
    (F : Fr h₀ L h' m) (N : News h₀ L h' all) (hx : (px, instObj 209 pdx) ∈ all) (hd : (pdx, dictOf [entS w "raw" pt1 (.str plead pu1), entS w "n" pt2 (.int pn pu2), entS w "nt" pt3 (.int pnt pu3), entS w "norm" pt4 (.ref pno), entS w "is_simple" pt5 (.bool psim)] pc) ∈ all)
    (hno : (pno, tupO [.ref pct, .int pb pu4]) ∈ all) (hct : (pct, tupO pcv) ∈ all) (hn : ∀ q ∈ news, q ∈ all) (l1 : ∀ q ∈ news, q.1 < pdx) (l2 : @LT.lt Nat _ pdx px) (l3 : @LT.lt Nat _ px pno) (l4 : @LT.lt Nat _ px pct)
    (hi : IntsAre pcv pcnt) (he : (⟨pn, pb, pnt, pcnt⟩ : Scan) = scanF lead.cps.toList) (hs : psim = decide ((pcnt.length : Int) ≤ 1)) : NewsP h₀ L m s news (WsOut w lead) (.ref px) { s with heap := h', toks := tk } := by
  refine ⟨_, h', tk, rfl, ⟨px, pdx, pno, pct, pn, pnt, pb, pcv, pcnt, psim, pc, pt1, pt2, pt3, pt4, pt5, pu1, pu2, pu3, pu4, plead, rfl, rfl, hi, he, hs⟩, F, fun p hp => ?_, fun p hp q hq => ?_⟩
  · rcases List.mem_append.mp hp with hp | hp
    · rcases List.mem_cons.mp hp with rfl | hp
      · exact N _ hx
      rcases List.mem_cons.mp hp with rfl | hp
      · exact N _ hd
      rcases List.mem_cons.mp hp with rfl | hp
      · exact N _ hno
      rw [List.mem_singleton.mp hp]
      exact N _ hct
    · exact N _ (hn p hp)
  · have h1 : @LT.lt Nat _ q.1 pdx := l1 q hq
    rcases List.mem_cons.mp hp with rfl | hp
    · exact Nat.lt_trans h1 l2
    rcases List.mem_cons.mp hp with rfl | hp
    · exact h1
    rcases List.mem_cons.mp hp with rfl | hp
    · exact Nat.lt_trans (Nat.lt_trans h1 l2) l3
    rw [List.mem_singleton.mp hp]
    exact Nat.lt_trans (Nat.lt_trans h1 l2) l4
section
variable {w : World} {p : Program} {loose : List Str} {mean : ExcName → Option Value} {mg mb : Str → Option Value} {dp un : Nat} {gd : Option (List Code)} {cn : Str} {cs : Scope} {a : Addr} {ccd : Value} {cl : List (Str × Addr)} {outer : List Env} {A₀ : Around} {base h₀ : Heap} {L : Addr} {m : Str → Option Value} {s : Shared}
theorem init_p {lead : Str} {t : Tok} {news : List (Addr × Obj)} (B : Below A₀ base outer h₀) (F : Fr h₀ L s.heap m) (X : (hd.heap_1 w.params).In h₀) (TP : Top p loose mean mg mb h₀) (hk : cs.kind = .function) (hdp : dp + 8 < recursionLimit) (hun : un + 80 < cLine) (hC : ∀ (i ch : Nat), lead.cps[i]? = some ch → ch = 32 ∨ ch = 9) (hA : lead.cps.all (· < 128) = true) (hL : lead.cps.size ≤ 4) (N : News h₀ L s.heap news) :
    wpAny (model PR w) (ktrTop dp un gd cn cs L a ccd cl outer) (call (.ref 209) [.str lead t]) (NewsP h₀ L m s news (WsOut w lead)) (fun _ _ => False) s := by
  k_with_none
  w_top off
  k_with "m_enter" => ((case kA => exact rfl); (case kF => exact rfl); (case kK => assumption); (case k1 => k_asm); (case k2 => k_asm); (case k3 => k_asm); (case k5 => k_asm); (case k6 => k_is); (case k7 => k_is); (case k8 => walk_at "lt_room"); (case k9 => exact BindsTo.of_eq rfl); (case c5 => decide); (case kB => exact locs rfl); (case c2 => exact rfl); (case c3 => exact rfl); (case c4 => exact rfl); k_whole; intro g' L' h' F' N' B' X' T'; (try dsimp only [List.reverse, List.reverseAux, List.length]))
  k_with "m_pure" => ((case k1 => k_asm); (case k2 => k_asm); (case k3 => k_asm); (case k4 => k_asm); (case kK => first | exact rfl | assumption); (case kd => walk_at "lt_room"); (case ku => walk_at "lt_units"))
  k_with "m_useI" => (walk_at "m_pure"; (case k5 => k_asm); intro t9 h9 tk9 F9 N9; (try dsimp only); (try k_sweep))
  k_with "m_same" => (intro z h2 h3; (try simp only [List.forall_mem_cons, List.not_mem_nil, false_implies, implies_true, and_true, ne_eq, List.contains_cons, List.contains_nil, Bool.or_false, Bool.or_eq_false_iff, beq_eq_false_iff_ne] at h2 h3); simp [kstB, h2, h3])
  k_with "m_useB" => (walk_at "m_pure"; (case k5 => k_asm); intro h9 tk9 F9 N9; (try dsimp only); (try k_sweep))
  k_with "l_idx" => (k_dflt (k_extra "m_idx"))
  k_with "g9" => (k_here; (with_reducible show wpAny _ _ (subscriptTail _ _ (Value.ref _) (Value.int _ _)) _ _ _))
  k_with "a9" => ((case k1 => is_list); (case k3 => omega); (case k5 => omega); (case k6 => with_unfolding_all rfl); k_whole)
  k_with "pyIter ref" => (k_dflt (k_extra "m_iter"))
  k_with "g10" => skip
  k_with "m_sameN" => (intro z h1 h2 h3; (try simp only [List.forall_mem_cons, List.not_mem_nil, false_implies, implies_true, and_true, ne_eq, List.contains_cons, List.contains_nil, Bool.or_false, Bool.or_eq_false_iff, beq_eq_false_iff_ne] at h2 h3); first | rfl | ((show (if z = _ then _ else _) = _); rw [if_neg h1]; rfl) | (simp [kstB, h1, h2, h3]; done))
  k_with "mul_fits" => (k_extra "m_mul")
  k_with "InvEndN" => (refine stop_ ?_)
  k_with "KswEnd" => (refine stop_ ?_)
  k_with "m_new" => (first | exact List.forall_mem_nil _ | (refine List.forall_mem_cons.mpr ⟨⟨by k_mem, by k_all⟩, ?_⟩; walk_at "m_new"))
  k_with "g12" => (k_here; (with_reducible show wpAny _ _ (call (Value.builtin "len") [Value.ref _]) _ _ _))
  k_with "a12" => ((case N => k_asm); (case m => k_mem); (case i => assumption); (case l => omega); k_whole)
  k_with "g13" => (k_here; (with_reducible show wpAny _ _ (subscriptTail _ _ (Value.ref _) (Value.int _ _)) _ _ _))
  k_with "a13" => ((case N => k_asm); (case m => k_memK); (case i => assumption); (case a => l_idx); (case b => l_idx); (case c => l_idx); (case s => with_unfolding_all rfl); (case t => (intro r9; with_unfolding_all rfl)); k_whole)
  k_with "b13" => (intro _)
  k_with "exec For Name Attribute cons nil" => (k_here; (rename Fr _ _ _ _ => lF'); (with_unfolding_all refine' For_turns lF' ?_; k_whole))
  k_with "exec For Name Name cons nil" => (k_here; (rename Fr _ _ _ _ => lF'); (with_unfolding_all refine' For_turns lF' ?_; k_whole))
  k_with "exec For Tuple Name cons nil" => (k_here; (rename Fr _ _ _ _ => lF'); (with_unfolding_all refine' For_turns lF' ?_; k_whole))
  k_with "exec For Tuple Call cons nil" => (k_here; (rename Fr _ _ _ _ => lF'); (with_unfolding_all refine' For_turns lF' ?_; k_whole))
  k_with "pyIter str" => (k_dflt (k_extra "m_iter"))
  k_with "k_room" => (walk_at "lt_room")
  k_with "k_room" => (walk_at "lt_room")
  k_with "k_units" => (walk_at "lt_units")
  k_with "TEnd" => (dsimp only [TEnd])
  k_with "TEndN" => (refine stop_ ?_)
  k_with "g16" => (k_here; (with_reducible show wpAny _ _ (call (Value.type _) [Value.ref _]) _ _ _))
  k_with "a16" => ((case k1 => k_asm); (case k2 => k_asm); (case k3 => exact News.isList (by k_asm) (by k_mem)); (case k4 => (simp only [List.size_toArray]; omega)); (case k5 => exact List.toList_toArray ..); k_whole)
  k_with "b16" => (intro D' h' F' N' l1; (try k_lt l1); (try k_sweep))
  k_with "k_all" => (first | (with_reducible assumption) | (refine List.forall_mem_append.mpr ⟨?_, ?_⟩ <;> with_reducible assumption) | fail "m_all")
  k_with "g17" => (k_here; (with_reducible show wpAny _ _ (call (Value.builtin "len") [Value.ref _]) _ _ _))
  k_with "a17" => ((case N => k_asm); (case m => k_mem); (case i => assumption); (case l => omega); k_whole)
  k_with "lt_room" => (first | with_unfolding_all exact room2 (j := 0) hdp rfl rfl | with_unfolding_all exact room0 (j := 0) hdp rfl rfl | with_unfolding_all exact room2 (j := 1) hdp rfl rfl | with_unfolding_all exact room0 (j := 1) hdp rfl rfl | with_unfolding_all exact room2 (j := 2) hdp rfl rfl | with_unfolding_all exact room0 (j := 2) hdp rfl rfl | with_unfolding_all exact room2 (j := 3) hdp rfl rfl | with_unfolding_all exact room0 (j := 3) hdp rfl rfl | with_unfolding_all exact room2 (j := 4) hdp rfl rfl | with_unfolding_all exact room0 (j := 4) hdp rfl rfl | with_unfolding_all exact room2 (j := 5) hdp rfl rfl | with_unfolding_all exact room0 (j := 5) hdp rfl rfl | with_unfolding_all exact room2 (j := 6) hdp rfl rfl | with_unfolding_all exact room0 (j := 6) hdp rfl rfl | with_unfolding_all exact room2 (j := 7) hdp rfl rfl | with_unfolding_all exact room0 (j := 7) hdp rfl rfl | (trace "heavy"; ktr_room))
  k_with "lt_units" => (first | with_unfolding_all exact room2 (j := 0) hun rfl rfl | with_unfolding_all exact room0 (j := 0) hun rfl rfl | with_unfolding_all exact room2 (j := 1) hun rfl rfl | with_unfolding_all exact room0 (j := 1) hun rfl rfl | with_unfolding_all exact room2 (j := 2) hun rfl rfl | with_unfolding_all exact room0 (j := 2) hun rfl rfl | with_unfolding_all exact room2 (j := 3) hun rfl rfl | with_unfolding_all exact room0 (j := 3) hun rfl rfl | with_unfolding_all exact room2 (j := 4) hun rfl rfl | with_unfolding_all exact room0 (j := 4) hun rfl rfl | with_unfolding_all exact room2 (j := 5) hun rfl rfl | with_unfolding_all exact room0 (j := 5) hun rfl rfl | with_unfolding_all exact room2 (j := 6) hun rfl rfl | with_unfolding_all exact room0 (j := 6) hun rfl rfl | with_unfolding_all exact room2 (j := 7) hun rfl rfl | with_unfolding_all exact room0 (j := 7) hun rfl rfl | (trace "heavy"; ktr_units))
  have kMark : KstMark := kstMark
  obtain ⟨ck, cnm, cig, cic, cmo⟩ := cs
  dsimp only at hk
  subst hk
  k_with "m_iter" => ((rename Fr _ _ _ _ => lF9); (rename News _ _ _ _ => lN9); (with_unfolding_all refine' ini_loop [Str.ofString "ch"] hA (by rfl) lF9 lN9 (by rfl) (by rfl) (by rfl) (by rfl) (by k_all) (fun ca cv cnt ck n tn b tb nt tt i ch tv kU kH kTk kOwn kCh kOff kInts kNe kInv kFr kNews => ?turn) (fun ca cv cnt ck n tn b tb nt tt kU kH kTk kInts kNe kInv kFr kNews => ?done)); (clear lF9 lN9); (case' turn => (have kInv2 := kInv.2; dsimp only at kInv2; have kI := kCh; have kI2 := (Array.getElem?_eq_some_iff.mp kI).1; rcases hC _ _ kCh with rfl | rfl)); (case' done => (have kCv := kInts.length; have kInv3 := kInv.2; dsimp only at kInv3)); all_goals ((try dsimp only [kstB] at kFr); (try simp only [List.cons_append] at kNews); (simp only [List.forall_mem_cons] at kNe); (obtain ⟨kn1, kn2, kn3, kn4⟩ := kNe); (replace kn1 := neN kn1); (replace kn2 := neN kn2); (replace kn3 := neN kn3); (try (simp only [List.forall_mem_cons] at kOff; obtain ⟨ko0, ko1, ko2, ko3, ko4⟩ := kOff))))
  k_steps
  · refine ws_end (by assumption) (by assumption) (by k_mem) (by k_mem) (by k_mem) (by k_mem) ?_ (by assumption) (by omega) (by omega) (by omega) kInts ?_ rfl
    · intro q hq; repeat (first | exact hq | refine List.Mem.tail _ ?_)
    · rw [kInv.1, List.take_of_length_le (by simp)]
  · refine Stop.mk (tend_ ⟨ca, cv, cnt, ck, _, _, _, _, _, _⟩ (by assumption) (by assumption) ?hn1 ?ho1 ?hd1 ⟨kInts, ?hz1⟩ (by (dsimp only [IniS.ps]; kst_all)) ?hm1 ?hp1)
    case hp1 => exact ini_step kInv kCh scan_sp
    case hm1 => (dsimp only [IniS.ps]; walk_at "m_same")
    case hz1 => k_all
    case hd1 => exact List.forall_mem_cons.mpr ⟨ko0, List.forall_mem_cons.mpr ⟨ko1, List.forall_mem_cons.mpr ⟨ko2, List.forall_mem_cons.mpr ⟨ko3, ko4⟩⟩⟩⟩
    case hn1 => (dsimp only [IniS.Led]; first | kst_in | kst_inAny)
    case ho1 => kst_anyIn
  · refine Stop.mk (tend_ ⟨_, _, _, 0, _, _, _, _, _, _⟩ (by assumption) (by assumption) ?hn2 ?ho2 ?hd2 ⟨by assumption, ?hz2⟩ (by (dsimp only [IniS.ps]; kst_all)) ?hm2 ?hp2)
    case hp2 => exact ini_step kInv kCh (scan_t1 (by assumption))
    case hm2 => (dsimp only [IniS.ps]; walk_at "m_same")
    case hz2 => k_all
    case hd2 => exact List.forall_mem_cons.mpr ⟨by (dsimp only; k_all), List.forall_mem_cons.mpr ⟨ko1, List.forall_mem_cons.mpr ⟨ko2, List.forall_mem_cons.mpr ⟨ko3, ko4⟩⟩⟩⟩
    case hn2 => (dsimp only [IniS.Led]; first | kst_in | kst_inAny)
    case ho2 => kst_anyIn
  · refine Stop.mk (tend_ ⟨_, _, _, ck, _, _, _, _, _, _⟩ (by assumption) (by assumption) ?hn3 ?ho3 ?hd3 ⟨by assumption, ?hz3⟩ (by (dsimp only [IniS.ps]; kst_all)) ?hm3 ?hp3)
    case hp3 => exact ini_step kInv kCh (scan_t2 (by assumption))
    case hm3 => (dsimp only [IniS.ps]; walk_at "m_same")
    case hz3 => k_all
    case hd3 => exact List.forall_mem_cons.mpr ⟨ko0, List.forall_mem_cons.mpr ⟨ko1, List.forall_mem_cons.mpr ⟨ko2, List.forall_mem_cons.mpr ⟨ko3, ko4⟩⟩⟩⟩
    case hn3 => (dsimp only [IniS.Led]; first | kst_in | kst_inAny)
    case ho3 => kst_anyIn
end
theorem is_text {prog : Program} {w : World} {A : Around} {E : Value → Shared → Prop} {s : Shared} {y z : Str} {u v : Tok} {Q : Value → Shared → Prop} (h1 : u ≠ 0) (h2 : v ≠ 0) (h3 : u ≠ v)
    (hb : ∀ t, Looks (model prog w) s.heap (sharingNotTold t) false) (hq : ∀ b, (b = true → y = z) → Q (.bool b) s) : wpAny (model prog w) A (compareOp .Is (.str y u) (.str z v)) Q E s := by
  have e : wpAny (model prog w) A (isSame (.str y u) (.str z v)) (fun b s' => s' = s ∧ (b = true → y = z)) E s := by
    show wpAny _ A (isSame.created (y == z) u v) _ E s
    unfold isSame.created
    have e1 : (u == 0 || v == 0) = false := by simp [h1, h2]
    have e2 : (u == v) = false := by simp [h3]
    rw [e1, e2]
    by_cases hyz : y = z
    · have e3 : (!(y == z)) = false := by simp [hyz]
      simp only [e3, Bool.false_eq_true, if_false]
      refine wpAny_bind ((hb u).here ?_)
      simp only [Bool.false_eq_true, if_false]
      refine wpAny_bind ((hb v).here ?_)
      simp only [Bool.false_eq_true, if_false]
      exact wpAny_bind (wpAny_rule (wpAny_bind (wpAny_askSetting (wpAny_pure ⟨rfl, fun _ => hyz⟩))))
    · have e3 : (!(y == z)) = true := by simp [hyz]
      simp only [e3, Bool.false_eq_true, if_false, if_true]
      exact wpAny_pure ⟨rfl, fun q => nomatch q⟩
  show wpAny _ A (isSame (.str y u) (.str z v) >>= _) Q E s
  exact wpAny_bind (wpAny_mono e (fun b s' q => by obtain ⟨rfl, q⟩ := q; exact wpAny_pure (hq b q)) fun _ _ q => q)
theorem told_of {K : Frag} {M : Model} {h : Heap} (X : K.In h) (e : nsIn K cStatics sharingNotToldKey = some none) (t : Tok) : Looks M h (sharingNotTold t) false := (looks_nsIn X e).andThen .now
set_option maxRecDepth 100000
set_option maxHeartbeats 8000000
noncomputable def IEndN (h₀ : Heap) (L : Addr) (s : Shared) (news own : List (Addr × Obj)) (stored : List Str) (m₀ : Str → Option Value) (k i : Nat) (tk₁ : Nat) (s₃ : Shared) : Prop :=
  i < k ∧ ∃ h' tk m' news', s₃ = { s with heap := h', toks := tk } ∧ Fr h₀ L h' m' ∧ News h₀ L h' news' ∧ (∀ p ∈ news, p ∈ news') ∧ (∀ p ∈ own, p ∈ news') ∧ (∀ z, stored.contains z = false → m' z = m₀ z)
noncomputable def IEnd (h₀ : Heap) (L : Addr) (s : Shared) (news own : List (Addr × Obj)) (stored : List Str) (m₀ : Str → Option Value) (k i : Nat) (tk₁ : Nat) (R : Result → Shared → Prop) (f : Flow) (s₃ : Shared) : Prop :=
  match f with
  | .ret v => R (.ok (.ret v)) s₃
  | .brk => R (.ok .next) s₃
  | _ => IEndN h₀ L s news own stored m₀ k i tk₁ s₃
theorem idx_loop {prog : Program} {w : World} {A : Around} {E : Value → Shared → Prop} {s : Shared} {env : Env} {h₀ : Heap} {body orelse : List Stmt} {elts : List Expr} {l : Nat} {pos : Pos} {x : Str} {t : Tok} {R : Result → Shared → Prop} {m₀ : Str → Option Value} {news : List (Addr × Obj)} (k : Nat) (stored : List Str)
    (hk : k < x.cps.size) (ha : strIterType x = "str_ascii_iterator") (F : Fr h₀ env.locals s.heap m₀) (N : News h₀ env.locals s.heap news)
    (step : ∀ (i : Nat) T ch u v (um : Str → Option Value) h₁ tk₁ own, i ≤ k → s.toks ≤ v → (∀ q ∈ news, ∀ p ∈ own, p.1 ≠ q.1) → x.cps[i]? = some ch → IsTup h₁ T #[.int i u, .str ⟨#[ch]⟩ v] → Fr h₀ env.locals h₁ (fun z => if stored.contains z then um z else m₀ z) → News h₀ env.locals h₁ (news ++ own) →
      wpAny (model prog w) A (assign (.Tuple elts l pos) env (.ref T)) (fun _ s₂ => wpAny (model prog w) A (execs body env)
        (IEnd h₀ env.locals s news own stored m₀ k i tk₁ R) (notedBy (model prog w) A env fun e s' => R (.error e) s') s₂) (notedBy (model prog w) A env fun e s' => R (.error e) s') { s with heap := h₁, toks := tk₁ }) :
    wpAny (model prog w) A (call (.type "enumerate") [.str x t]) (fun xv s₁ => wpAny (model prog w) A (pyIter xv) (fun it s₂ => codeAny (model prog w) A (.forLoop (.Tuple elts l pos) it body orelse env) R s₂) E s₁) E s :=
  sign_loop k stored hk ha F N fun i T ch u v um h₁ tk₁ own a b c d e f g => wpAny_mono (wpAny_toks (step i T ch u v um h₁ tk₁ own a b c d e f g)) (fun _ s₂ q => wpAny_mono (wpAny_toks_of q.1 q.2) (fun f s₃ q₃ => by
    have fin : IEndN h₀ env.locals s news own stored m₀ k i tk₁ s₃ → i < k ∧ ∃ h' tk m' news', s₃ = { s with heap := h', toks := tk } ∧ tk₁ ≤ tk ∧ Fr h₀ env.locals h' m' ∧ News h₀ env.locals h' news' ∧ (∀ p ∈ news, p ∈ news') ∧ (∀ p ∈ own, p ∈ news') ∧ (∀ z, stored.contains z = false → m' z = m₀ z) := by
      rintro ⟨h1, h', tk, m', news', rfl, h2⟩
      exact ⟨h1, h', tk, m', news', rfl, q₃.1, h2⟩
    cases f
    · exact fin q₃.2
    · exact q₃.2
    · exact fin q₃.2
    · exact q₃.2) fun _ _ e => e.2) fun _ _ e => e.2
theorem tok_facts {a b u v : Nat} (h : a ≤ v) (h1 : 0 < u) (h2 : u < b) (e : b ≤ a) : v ≠ 0 ∧ u ≠ 0 ∧ v ≠ u := ⟨by omega, by omega, by omega⟩
theorem abc_all : ∀ i : Fin 8, (Str.ofString "abcdefgh").cps[i.val]? = some (97 + i.val) := by decide +kernel
theorem abc_size : (Str.ofString "abcdefgh").cps.size = 8 := by decide +kernel
theorem sign_abc {i ch : Nat} (h : (Str.ofString "abcdefgh").cps[i]? = some ch) : ch = 97 + i := by
  have hi : i < 8 := by
    obtain ⟨q, _⟩ := Array.getElem?_eq_some_iff.mp h
    rw [abc_size] at q; exact q
  have := abc_all ⟨i, hi⟩
  rw [h] at this
  exact Option.some.inj this
theorem one_inj {a b : Nat} (h : (⟨#[a]⟩ : Str) = ⟨#[b]⟩) : a = b := by
  have := congrArg (fun s : Str => s.cps[0]?) h
  simpa using this
local macro_rules | `(tactic| walk_at "compareOp Is str str") => `(tactic| (k_extra "g18"; k_dflt (refine' is_text ?h1 ?h2 ?h3 (told_of (Frag.In.keeps ?h4 (Fr.keep ?h5)) ?h6) ?_; k_extra "a18"); k_extra "b18"))
section
variable {w : World} {p : Program} {loose : List Str} {mean : ExcName → Option Value} {mg mb : Str → Option Value} {dp un : Nat} {gd : Option (List Code)} {cn : Str} {cs : Scope} {a : Addr} {ccd : Value} {cl : List (Str × Addr)} {outer : List Env} {A₀ : Around} {base h₀ : Heap} {L : Addr} {m : Str → Option Value} {s : Shared}
theorem index_p {k : Nat} {t u : Tok} (hk8 : k < 8) (hu1 : 0 < u) (hu2 : u < s.toks) (B : Below A₀ base outer h₀) (F : Fr h₀ L s.heap m) (X : (hd.heap_1 w.params).In h₀) (TP : Top p loose mean mg mb h₀) (hk : cs.kind = .function) (hdp : dp + 4 < recursionLimit) (hun : un + 40 < cLine) :
    PureAt PR w (ktrTop dp un gd cn cs L a ccd cl outer) h₀ L m s 63 [.str (Str.ofString "abcdefgh") t, .str ⟨#[97 + k]⟩ u] (fun r tl => tl = [] ∧ ∃ t, r = .int (k : Int) t) := by
  k_with_none
  w_top off
  k_with "m_enter" => ((case kA => exact rfl); (case kF => exact rfl); (case kK => assumption); (case k1 => k_asm); (case k2 => k_asm); (case k3 => k_asm); (case k5 => k_asm); (case k6 => k_is); (case k7 => k_is); (case k8 => walk_at "lt_room"); (case k9 => exact BindsTo.of_eq rfl); (case c5 => decide); (case kB => exact locs rfl); (case c2 => exact rfl); (case c3 => exact rfl); (case c4 => exact rfl); k_whole; intro g' L' h' F' N' B' X' T'; (try dsimp only [List.reverse, List.reverseAux, List.length]))
  k_with "m_pure" => ((case k1 => k_asm); (case k2 => k_asm); (case k3 => k_asm); (case k4 => k_asm); (case kK => first | exact rfl | assumption); (case kd => walk_at "lt_room"); (case ku => walk_at "lt_units"))
  k_with "m_useI" => (walk_at "m_pure"; (case k5 => k_asm); intro t9 h9 tk9 F9 N9; (try dsimp only); (try k_sweep))
  k_with "m_same" => (intro z h2 h3; (try simp only [List.forall_mem_cons, List.not_mem_nil, false_implies, implies_true, and_true, ne_eq, List.contains_cons, List.contains_nil, Bool.or_false, Bool.or_eq_false_iff, beq_eq_false_iff_ne] at h2 h3); simp [kstB, h2, h3])
  k_with "m_useB" => (walk_at "m_pure"; (case k5 => k_asm); intro h9 tk9 F9 N9; (try dsimp only); (try k_sweep))
  k_with "l_idx" => (k_dflt (k_extra "m_idx"))
  k_with "g9" => (k_here; (with_reducible show wpAny _ _ (subscriptTail _ _ (Value.ref _) (Value.int _ _)) _ _ _))
  k_with "a9" => ((case k1 => is_list); (case k3 => omega); (case k5 => omega); (case k6 => with_unfolding_all rfl); k_whole)
  k_with "pyIter ref" => (k_dflt (k_extra "m_iter"))
  k_with "g10" => skip
  k_with "m_sameN" => (intro z h1 h2 h3; (try simp only [List.forall_mem_cons, List.not_mem_nil, false_implies, implies_true, and_true, ne_eq, List.contains_cons, List.contains_nil, Bool.or_false, Bool.or_eq_false_iff, beq_eq_false_iff_ne] at h2 h3); first | rfl | ((show (if z = _ then _ else _) = _); rw [if_neg h1]; rfl) | (simp [kstB, h1, h2, h3]; done))
  k_with "mul_fits" => (k_extra "m_mul")
  k_with "InvEndN" => (refine stop_ ?_)
  k_with "KswEnd" => (refine stop_ ?_)
  k_with "m_new" => (first | exact List.forall_mem_nil _ | (refine List.forall_mem_cons.mpr ⟨⟨by k_mem, by k_all⟩, ?_⟩; walk_at "m_new"))
  k_with "exec For Tuple Call cons cons" => (k_here; with_unfolding_all refine wpAny_For ?_)
  k_with "call type:enumerate" => (k_dflt (k_extra "m_enum"))
  k_with "g18" => (k_here)
  k_with "a18" => ((case h4 => k_asm); (case h5 => k_asm); (case h6 => k_is); (case h1 => k_extra "m_tok"); (case h2 => k_extra "m_tok"); (case h3 => k_extra "m_tok"))
  k_with "b18" => (intro b9 hb9)
  k_with "IEnd" => (dsimp only [IEnd])
  k_with "IEndN" => (refine stop_ ?_)
  k_with "lt_room" => (first | with_unfolding_all exact room2 (j := 0) hdp rfl rfl | with_unfolding_all exact room0 (j := 0) hdp rfl rfl | with_unfolding_all exact room2 (j := 1) hdp rfl rfl | with_unfolding_all exact room0 (j := 1) hdp rfl rfl | with_unfolding_all exact room2 (j := 2) hdp rfl rfl | with_unfolding_all exact room0 (j := 2) hdp rfl rfl | with_unfolding_all exact room2 (j := 3) hdp rfl rfl | with_unfolding_all exact room0 (j := 3) hdp rfl rfl | with_unfolding_all exact room2 (j := 4) hdp rfl rfl | with_unfolding_all exact room0 (j := 4) hdp rfl rfl | with_unfolding_all exact room2 (j := 5) hdp rfl rfl | with_unfolding_all exact room0 (j := 5) hdp rfl rfl | with_unfolding_all exact room2 (j := 6) hdp rfl rfl | with_unfolding_all exact room0 (j := 6) hdp rfl rfl | with_unfolding_all exact room2 (j := 7) hdp rfl rfl | with_unfolding_all exact room0 (j := 7) hdp rfl rfl | (trace "heavy"; ktr_room))
  k_with "lt_units" => (first | with_unfolding_all exact room2 (j := 0) hun rfl rfl | with_unfolding_all exact room0 (j := 0) hun rfl rfl | with_unfolding_all exact room2 (j := 1) hun rfl rfl | with_unfolding_all exact room0 (j := 1) hun rfl rfl | with_unfolding_all exact room2 (j := 2) hun rfl rfl | with_unfolding_all exact room0 (j := 2) hun rfl rfl | with_unfolding_all exact room2 (j := 3) hun rfl rfl | with_unfolding_all exact room0 (j := 3) hun rfl rfl | with_unfolding_all exact room2 (j := 4) hun rfl rfl | with_unfolding_all exact room0 (j := 4) hun rfl rfl | with_unfolding_all exact room2 (j := 5) hun rfl rfl | with_unfolding_all exact room0 (j := 5) hun rfl rfl | with_unfolding_all exact room2 (j := 6) hun rfl rfl | with_unfolding_all exact room0 (j := 6) hun rfl rfl | with_unfolding_all exact room2 (j := 7) hun rfl rfl | with_unfolding_all exact room0 (j := 7) hun rfl rfl | (trace "heavy"; ktr_units))
  k_dflt (refine' pure_code (n0 := []) (binds := [(Str.ofString "a", .str (Str.ofString "abcdefgh") t), (Str.ofString "b", .str ⟨#[97 + k]⟩ u)]) ?k1 ?k2 ?k3 ?k5 News.nil ?kA ?kF ?kK ?k6 ?k7 ?k8 ?k9 ?kB ?_ ?c2 ?c3 ?c4 ?c5; walk_at "m_enter")
  k_with "m_enum" => ((rename Fr _ _ _ _ => lF9); (rename News _ _ _ _ => lN9); (with_unfolding_all refine' idx_loop k [Str.ofString "i", Str.ofString "j"] (by exact hk8) (by decide +kernel) lF9 lN9 (fun i T ch iu iv um kH kTk kOwn kLe kV kOff kCh kTup kFr kNews => ?turn)); (clear lF9 lN9); (have kTok := tok_facts kV hu1 hu2 (by first | (show s.toks ≤ tk0; omega) | exact Nat.le_add_right _ _ | (show Nat.le _ _; simp only [List.length_cons, List.length_nil]; omega) | (dsimp only; omega))))
  generalize hTk : s.toks + _ = tk0
  k_with "m_tok" => (first | exact kTok.1 | exact kTok.2.1 | exact kTok.2.2)
  k_steps
  · refine leaveP_ (by assumption) (by assumption) [] sub_nil new_nil ⟨rfl, int_end ?_⟩
    have q := one_inj ((by assumption : _ = true → (⟨#[ch]⟩ : Str) = ⟨#[97 + k]⟩) (by assumption))
    rw [sign_abc kCh] at q; omega
  · refine leaveP_ (by assumption) (by assumption) [] sub_nil new_nil ⟨rfl, int_end ?_⟩
    have q := one_inj (eq_of_beq (by assumption : ((⟨#[ch]⟩ : Str) == ⟨#[97 + k]⟩) = true))
    rw [sign_abc kCh] at q; omega
  · refine Stop.mk ⟨?_, _, _, _, _, rfl, by assumption, by assumption, (fun _ h => nomatch h), (fun p hp => List.mem_append_right _ hp), ?_⟩
    · have q : ((⟨#[ch]⟩ : Str) == ⟨#[97 + k]⟩) = false := by assumption
      rcases Nat.lt_or_ge i k with h | h
      · exact h
      · have : i = k := by omega
        subst this
        rw [sign_abc kCh] at q
        simp at q
    · intro z hz
      rw [if_neg (fun e => by rw [e] at hz; revert hz; decide +kernel), if_neg (fun e => by rw [e] at hz; revert hz; decide +kernel), hz]
      rfl
end
set_option maxRecDepth 100000
set_option maxHeartbeats 8000000
theorem pure_codeB {prog : Program} {w : World} {A A₀ : Around} {s : Shared} {K : Frag} {L : Addr} {h₀ base : Heap} {m mg mb : Str → Option Value} {p : Program} {loose : List Str} {mean : ExcName → Option Value} {env : Env} {outer : List Env} {name qual : Str} {params : Arguments} {body : List Stmt} {scope : Scope} {dV kV doc pm cdv ct oc : Value} {an od : Option Addr} {osl : Array (Option Value)} {f : Addr} {vs : List Value} {binds : List (Str × Value)} {Out : Value → List (Addr × Obj) → Prop} {n0 : List (Addr × Obj)}
    (B : Below A₀ base outer h₀) (F : Fr h₀ L s.heap m) (X₀ : K.In h₀) (T : Top p loose mean mg mb h₀) (N : News h₀ L s.heap n0) (hA : A.frames = some (env :: outer)) (hf : env.frame = some L) (hke : env.scope.kind = .function)
    (ho : K.lookup f = some ⟨oc, od, .func (fnOf name qual params body scope dV kV doc pm an cdv ct), osl⟩) (hcd : codeIn K cdv qual = true) (hroom : A.depth < recursionLimit)
    (hbind : BindsTo s (fnOf name qual params body scope dV kV doc pm an cdv ct) ⟨vs, []⟩ binds) (hloc : ∀ y ∈ binds, scope.names.lookup y.1 = some .local)
    (h : ∀ g L' h₁, Fr g L' h₁ (fun y => binds.reverse.lookup y) → News g L' h₁ n0 → Below A base (env :: outer) g → K.In g → Top p loose mean mg mb g → (∀ b o, b ∉ n0.map (·.1) → s.heap.get? b = some o → g.get? b = some o) →
      wpAny (model prog w) (A.deeper (envOf qual scope L' f cdv)) (execs body (envOf qual scope L' f cdv))
        (fun fl s' => LeaveP g n0 Out s (match fl with | .ret v => v | _ => .none) s')
        (fun _ _ => False)
        { s with heap := h₁, toks := s.toks + binds.length })
    (hco : scope.isCoroutine = false) (hgen : scope.isGenerator = false) (hk : scope.kind = .function)
    (hcell : ∀ x ∈ scope.names, x.2 ≠ .cell) : PureAt prog w A h₀ L m s f vs Out := by
  refine wpAny_call ?_
  obtain ⟨FG, BG, st, _⟩ := groundX (R := fun _ _ => True) B F N hA hf hke
  refine codeAny_call_def (fd := fnOf name qual params body scope dV kV doc pm an cdv ct) (body := body) (binds := binds) hroom ((X₀.keeps F.keep) _ _ ho) rfl (T.nolimit.keeps F.keep) (codeRec_of (X₀.keeps F.keep) hcd) rfl hbind hcell hloc (fun h₁ hns hk₁ => ?_) hco hgen hk
  refine wpAny_mono (h _ s.heap.objs.size h₁ ⟨hns, fun b o e => hk₁ b o (of_hideAll _ e), Nat.le_of_eq (hideAll_size _ _)⟩
    (fun p hp => ⟨hk₁ _ _ (N p hp).1, Nat.ne_of_lt (Heap.lt_size (N p hp).1), hideAll_none _ (List.mem_map_of_mem hp)⟩) BG (X₀.keeps st) (T.keeps st) fun b o hb e => hideAll_get _ e hb) (fun fl s' hl => ?_) (fun _ _ x => x.elim)
  obtain ⟨L', m', all, tl, h', tk', rfl, F', N', k, j, o⟩ := hl
  have stay : s.heap.StaysIn h' := fun b ob e => by
    by_cases hb : b ∈ n0.map (·.1)
    · obtain ⟨q, hq, rfl⟩ := List.mem_map.mp hb
      have e1 := (N q hq).1
      rw [e] at e1
      rw [Option.some.inj e1]
      exact (N' q (k q hq)).1
    · exact F'.keep b ob (hideAll_get _ e hb)
  refine ⟨tl, h', tk', rfl, o, ?_, stay, fun p hp => ⟨(N' p (j p hp).1).1, ?_⟩⟩
  · obtain ⟨oL, es, ep, hL, hLd, hLk, hLf⟩ := F.ns
    exact ⟨⟨oL, es, ep, stay L oL hL, hLd, hLk, hLf⟩, fun b o e => stay b o (F.keep b o e), F.above⟩
  · have e1 := (N' p (j p hp).1).2.2
    rwa [hideAll_ne _ fun q => ?_] at e1
    obtain ⟨q', hq', e'⟩ := List.mem_map.mp q
    exact (j p hp).2 q' hq' e'
noncomputable def spotS (size spot : Int) (ch : Nat) : Int := if ch = 32 then spot + 1 else spot + (size - Int.fmod spot size)
noncomputable def spotF (size : Int) (x : Str) : Int := x.cps.toList.foldl (spotS size) 0
noncomputable def rowF (x : Str) : List Int := [spotF 1 x, spotF 2 x, spotF 3 x, spotF 4 x, spotF 5 x]
inductive RowsIn (tl : List (Addr × Obj)) : List Value → List (List Int) → Prop
  | nil : RowsIn tl [] []
  | cons {D : Addr} {vv vs : List Value} {n : Nat} {row : List Int} {rows : List (List Int)} : (D, listOf vv.toArray n) ∈ tl → IntsAre vv row → RowsIn tl vs rows → RowsIn tl (.ref D :: vs) (row :: rows)
structure HunS where
  S : Addr
  vs : List Value
  n : Nat
  tl : List (Addr × Obj)
  rows : List (List Int)
noncomputable def HunS.P (leads : List Str) (i : Nat) (c : HunS) : Prop := c.rows = (leads.take i).map rowF ∧ c.vs.length = i
structure RowS where
  v : List Value
  k : Nat
  cnt : List Int
noncomputable def RowS.P (x : Str) (i : Nat) (c : RowS) : Prop := c.cnt = (rowF x).take i
noncomputable def SpotP (size : Int) (x : Str) (j : Nat) (c : Int × Tok) : Prop := c.1 = (x.cps.toList.take j).foldl (spotS size) 0 ∧ 0 ≤ c.1 ∧ c.1 ≤ 8 * (j : Int)
theorem row_len {x : Str} {i : Nat} {c : RowS} (h : RowS.P x i c) : c.cnt.length ≤ i := by rw [h, List.length_take]; omega
theorem off_lt2 {a b : Nat} {l1 : List (Addr × Obj)} (h : @LT.lt Nat _ b a ∧ AllLt a l1) : ∀ p ∈ l1, p.1 ≠ a := fun p hp => Nat.ne_of_lt (kst_ltOf h.2 p hp)
theorem off_lt3 {a b : Nat} {l1 l2 : List (Addr × Obj)} (h : @LT.lt Nat _ b a ∧ AllLt a (l1 ++ l2)) : (∀ p ∈ l1, p.1 ≠ a) ∧ ∀ p ∈ l2, p.1 ≠ a :=
  ⟨fun p hp => Nat.ne_of_lt (kst_ltOf h.2 p (List.mem_append_left _ hp)), fun p hp => Nat.ne_of_lt (kst_ltOf h.2 p (List.mem_append_right _ hp))⟩
theorem ints_snoc {v : List Value} {cnt : List Int} {y : Int} {t : Tok} (h : IntsAre v cnt) : IntsAre (v ++ [.int y t]) (cnt ++ [y]) := by
  induction h with
  | nil => exact .cons _ _ .nil
  | cons _ _ _ ih => exact .cons _ _ ih
theorem RowsIn.mono {tl tl' : List (Addr × Obj)} {vs : List Value} {rows : List (List Int)} (h : RowsIn tl vs rows) (k : ∀ p ∈ tl, p ∈ tl') : RowsIn tl' vs rows := by
  induction h with
  | nil => exact .nil
  | cons m i _ ih => exact .cons (k _ m) i ih
theorem RowsIn.snoc {tl : List (Addr × Obj)} {vs v : List Value} {rows : List (List Int)} {D : Addr} {n : Nat} {row : List Int} (h : RowsIn tl vs rows) (m : (D, listOf v.toArray n) ∈ tl) (i : IntsAre v row) : RowsIn tl (vs ++ [.ref D]) (rows ++ [row]) := by
  induction h with
  | nil => exact .cons m i .nil
  | cons m' i' _ ih => exact .cons m' i' ih
theorem hun_step {leads : List Str} {i : Nat} {x : Str} {S S' : Addr} {vs : List Value} {n n' : Nat} {tl tl' : List (Addr × Obj)} {rows : List (List Int)} {v : List Value} {k : Nat} {cnt : List Int} {D : Value} (h : HunS.P leads i ⟨S, vs, n, tl, rows⟩) (hx : leads[i]? = some x) (h2 : RowS.P x 5 ⟨v, k, cnt⟩) :
    HunS.P leads (i + 1) ⟨S', vs ++ [D], n', tl', rows ++ [cnt]⟩ := by
  obtain ⟨h1, h3⟩ := h
  dsimp only at h1 h3
  have h4 : cnt = rowF x := h2
  refine ⟨?_, ?_⟩
  · dsimp only
    rw [h1, h4, List.take_add_one, hx]
    simp
  · simp [h3]
theorem item_rowK {prog : Program} {w : World} {A : Around} {E : Value → Shared → Prop} {s : Shared} {h₀ : Heap} {L : Addr} {value slice : PySem.Expr} {l : Addr} {vs : List Value} {n : Nat} {k : Int} {u : Tok} {news tl : List (Addr × Obj)} {rows : List (List Int)} {Q : Value → Shared → Prop} (R : RowsIn tl vs rows) (N : News h₀ L s.heap news) (hm : (l, listOf vs.toArray n) ∈ news) (h0 : 0 ≤ k) (h1 : k < (rows.length : Int)) (hfit : k < 2 ^ 63)
    (h : ∀ D vv n row, rows[k.toNat]? = some row → (D, listOf vv.toArray n) ∈ tl → IntsAre vv row → Q (.ref D) s)
    (hs : subscripted slice false (.ref l) (.int k u) = operate [.ref l, .int k u] (getItem (.ref l) (.int k u))) :
    wpAny (model prog w) A (subscriptTail value slice (.ref l) (.int k u)) Q E s := by
  have hl : s.heap.IsList l vs.toArray := ⟨_, (N _ hm).1, rfl, _, rfl⟩
  obtain ⟨D, vv, n', row, e1, e2, e3, e4⟩ : ∃ D vv n row, vs[k.toNat]? = some (.ref D) ∧ rows[k.toNat]? = some row ∧ (D, listOf (List.toArray vv) n) ∈ tl ∧ IntsAre vv row := by
    have hk : k.toNat < rows.length := by omega
    clear hm hl h0 h1 hfit h hs
    generalize k.toNat = j at hk
    induction R generalizing j with
    | nil => simp at hk
    | cons m i _ ih =>
      cases j with
      | zero => exact ⟨_, _, _, _, rfl, rfl, m, i⟩
      | succ j => simpa using ih j (by simpa using hk)
  exact tail_any hl.typeIs slot_list_getitem.lookup (wpAny_getItem_list hl h0 hfit (by simpa using e1) (h D vv n' row e2 e3 e4)) hs
inductive Climb (lt : Nat → Nat → Bool) (hs : List Int) (r : Nat) : Int → Int → Prop
  | stop {k : Int} : lt k.toNat r = true → Climb lt hs r k k
  | go {k k1 k' : Int} : lt k.toNat r = false → hs[k.toNat]? = some k1 → Climb lt hs r k1 k' → Climb lt hs r k k'
theorem Climb.mono {lt : Nat → Nat → Bool} {hs : List Int} {r : Nat} {k k' y : Int} (h : Climb lt hs r k k') : Climb lt (hs ++ [y]) r k k' := by
  induction h with
  | stop a => exact .stop a
  | go a b _ ih => exact .go a (by rw [List.getElem?_append_left (List.getElem?_eq_some_iff.mp b).1]; exact b) ih
noncomputable def rowLt (rows : List (List Int)) (k r : Nat) : Bool := (ltB (rows.getD k []) (rows.getD r [])).all id
noncomputable def HungIs (lt : Nat → Nat → Bool) (hs : List Int) : Prop := hs[0]? = some 0 ∧ ∀ r, 0 < r → r < hs.length → ∃ k : Int, hs[r]? = some k ∧ 0 ≤ k ∧ k < (r : Int) ∧ Climb lt hs r ((r : Int) - 1) k
structure HngS where
  v : List Value
  k : Nat
  hs : List Int
noncomputable def HngS.P (lt : Nat → Nat → Bool) (i : Nat) (c : HngS) : Prop := c.hs.length = i + 1 ∧ HungIs lt c.hs
noncomputable def WhP (lt : Nat → Nat → Bool) (hs : List Int) (r : Nat) (c : Int × Tok) : Prop := 0 ≤ c.1 ∧ c.1 < (r : Int) ∧ ∀ k', Climb lt hs r c.1 k' → Climb lt hs r ((r : Int) - 1) k'
theorem whp_open {lt : Nat → Nat → Bool} {hs : List Int} {r : Nat} {q : Int} {t : Tok} (h : WhP lt hs r (q, t)) : 0 ≤ q ∧ q < (r : Int) := ⟨h.1, h.2.1⟩
theorem strs_len {lv : List Value} {leads : List Str} (h : StrsAre lv leads) : lv.length = leads.length := by
  induction h with
  | nil => rfl
  | cons y t _ ih => simp [ih]
theorem hun_done {lv : List Value} {leads : List Str} {c : HunS} (h : HunS.P leads lv.toArray.size c) (hi : StrsAre lv leads) (hn : leads.length = 8) : c.rows = leads.map rowF ∧ c.rows.length = 8 := by
  have e : c.rows = leads.map rowF := by rw [h.1, List.take_of_length_le (by simp [strs_len hi])]
  exact ⟨e, by rw [e, List.length_map, hn]⟩
theorem row_le {leads : List Str} {rows : List (List Int)} {row : List Int} {j : Nat} (h : rows = leads.map rowF) (e : rows[j]? = some row) : row.length ≤ 1000 := by
  rw [h, List.getElem?_map] at e
  cases q : leads[j]? with
  | none => rw [q] at e; cases e
  | some x => rw [q] at e; rw [← Option.some.inj e]; show 5 ≤ 1000; omega
theorem led_sw {α : Type} {A B : α} {tl own : List α} : ∀ p ∈ A :: B :: tl, p ∈ B :: A :: (tl ++ own) := by
  intro p hp
  simp only [List.mem_cons, List.mem_append] at hp ⊢
  rcases hp with h | h | h <;> simp [h]
theorem wh_0 {lt : Nat → Nat → Bool} {hs : List Int} {r : Nat} {k : Int} {t : Tok} (h : 0 < r) (e : k = (r : Int) - 1) : WhP lt hs r (k, t) := ⟨by dsimp only; omega, by dsimp only; omega, fun _ h => e ▸ h⟩
theorem row_lt {rows : List (List Int)} {a b : List Int} {k r : Nat} (h1 : rows[k]? = some a) (h2 : rows[r]? = some b) : rowLt rows k r = (ltB a b).all id := by
  unfold rowLt
  rw [List.getD_eq_getElem?_getD, List.getD_eq_getElem?_getD, h1, h2]
  rfl
theorem hng_step {lt : Nat → Nat → Bool} {i r : Nat} {c c' : HngS} {k : Int} {t : Tok} (h : HngS.P lt i c) (hr : r = i + 1) (hw : WhP lt c.hs r (k, t)) (hl : lt k.toNat r = true) (e : c'.hs = c.hs ++ [k]) : HngS.P lt (i + 1) c' := by
  obtain ⟨h1, h2, h3⟩ := h
  obtain ⟨w1, w2, w3⟩ := hw
  dsimp only at w1 w2 w3
  refine ⟨by rw [e, List.length_append, h1]; rfl, ?_, fun q hq0 hq => ?_⟩
  · rw [e, List.getElem?_append_left (by omega)]; exact h2
  · rw [e] at hq ⊢
    rw [List.length_append, List.length_singleton] at hq
    rcases Nat.lt_or_ge q c.hs.length with hq' | hq'
    · obtain ⟨k2, a1, a2, a3, a4⟩ := h3 q hq0 hq'
      exact ⟨k2, by rw [List.getElem?_append_left hq']; exact a1, a2, a3, a4.mono⟩
    · have : q = c.hs.length := by omega
      subst this
      refine ⟨k, by simp, w1, by omega, ?_⟩
      have e2 : c.hs.length = r := by omega
      rw [e2]
      exact (w3 k (.stop hl)).mono
theorem wh_go {lt : Nat → Nat → Bool} {i r : Nat} {c : HngS} {k k1 : Int} {t t1 : Tok} (h : HngS.P lt i c) (hr : r = i + 1) (hw : WhP lt c.hs r (k, t)) (h0 : lt 0 r = true) (hl : lt k.toNat r = false) (e : k1 = c.hs.getD k.toNat 0) :
    WhP lt c.hs r (k1, t1) ∧ k1.toNat < k.toNat := by
  obtain ⟨h1, h2, h3⟩ := h
  obtain ⟨w1, w2, w3⟩ := hw
  dsimp only at w1 w2 w3
  have hk0 : 0 < k.toNat := by
    rcases Nat.eq_zero_or_pos k.toNat with q | q
    · rw [q, h0] at hl; cases hl
    · exact q
  have hkl : k.toNat < c.hs.length := by omega
  obtain ⟨k2, a1, a2, a3, _⟩ := h3 k.toNat hk0 hkl
  have e2 : k1 = k2 := by rw [e, List.getD_eq_getElem?_getD, a1]; rfl
  subst e2
  exact ⟨⟨a2, by dsimp only; omega, fun k' hc => w3 k' (.go hl a1 hc)⟩, by omega⟩
theorem spot_0 {size : Int} {x : Str} {t : Tok} : SpotP size x 0 (0, t) := ⟨rfl, Int.le_refl _, Int.le_refl _⟩
theorem strs_get {lv : List Value} {leads : List Str} (h : StrsAre lv leads) : ∀ {i : Nat} {v : Value}, lv.toArray[i]? = some v → ∃ x t, v = .str x t ∧ leads[i]? = some x ∧ x ∈ leads := by
  induction h with
  | nil => intro i v h; simp at h
  | cons y t _ ih =>
    intro i v h
    simp only [List.getElem?_toArray] at h ih
    cases i with
    | zero => simp at h; exact ⟨_, _, h.symm, rfl, List.mem_cons_self⟩
    | succ i =>
      obtain ⟨x, t, h1, h2, h3⟩ := ih (by simpa using h)
      exact ⟨x, t, h1, h2, List.mem_cons_of_mem _ h3⟩
theorem news_hd {h₀ h : Heap} {L a : Addr} {o : Obj} {r : List (Addr × Obj)} (_ : News h₀ L h ((a, o) :: r)) : ∃ x, x = a := ⟨a, rfl⟩
theorem list_off {h₀ h : Heap} {L l : Addr} {items : Array Value} {news keep : List (Addr × Obj)} (hB : h₀.IsList l items) (N : News h₀ L h news) : ∀ q ∈ news, q.1 = l → q ∈ keep := fun q hq e => by
  have hz := (N q hq).2.2
  obtain ⟨o, ho, _⟩ := hB
  rw [e, ho] at hz
  cases hz
theorem fr_off {h₀ h : Heap} {L l : Addr} {items : Array Value} {m : Str → Option Value} (hB : h₀.IsList l items) (F : Fr h₀ L h m) : L ≠ l := fun e => by
  obtain ⟨o, ho, _⟩ := hB
  exact absurd (Heap.lt_size ho) (by rw [← e]; exact Nat.not_lt.mpr F.above)
theorem item_lastK {prog : Program} {w : World} {A : Around} {E : Value → Shared → Prop} {s : Shared} {value slice : PySem.Expr} {l : Addr} {its : Array Value} {v : Value} {u : Tok} {Q : Value → Shared → Prop} (hl : s.heap.IsList l (its.push v)) (h : Q v s)
    (hs : subscripted slice false (.ref l) (.int (-1) u) = operate [.ref l, .int (-1) u] (getItem (.ref l) (.int (-1) u)) := by with_unfolding_all rfl) :
    wpAny (model prog w) A (subscriptTail value slice (.ref l) (.int (-1) u)) Q E s := by
  refine tail_any hl.typeIs slot_list_getitem.lookup (wpAny_getItem_list_neg hl (by decide) (by simp; omega) (by decide) ?_ h) hs
  have : ((-1 : Int) + ((its.push v).size : Int)).toNat = its.size := by rw [Array.size_push]; omega
  rw [this]
  exact Array.getElem?_push_size
theorem spot_1 {size : Int} {x : Str} {j ch : Nat} {sp y : Int} {t t' : Tok} (h : SpotP size x j (sp, t)) (hc : x.cps[j]? = some ch) (h1 : 1 ≤ size) (h5 : size ≤ 5) (e : spotS size sp ch = y) : SpotP size x (j + 1) (y, t') := by
  obtain ⟨h2, h3, h4⟩ := h
  dsimp only at h2 h3 h4
  have e1 : x.cps.toList[j]? = some ch := by rw [← Array.getElem?_toList] at hc; exact hc
  refine ⟨?_, ?_, ?_⟩
  · dsimp only
    rw [List.take_add_one, e1, Option.toList_some, List.foldl_append, ← h2, ← e]
    rfl
  · dsimp only
    rw [← e]
    have := Int.fmod_nonneg_of_pos sp (by omega : 0 < size)
    have := Int.fmod_lt_of_pos sp (by omega : 0 < size)
    unfold spotS
    split <;> omega
  · dsimp only
    rw [← e]
    have := Int.fmod_nonneg_of_pos sp (by omega : 0 < size)
    have := Int.fmod_lt_of_pos sp (by omega : 0 < size)
    unfold spotS
    split <;> omega
theorem spot_sp {size sp : Int} : spotS size sp 32 = sp + 1 := rfl
theorem spot_ch {size sp : Int} {ch : Nat} (h : ch ≠ 32) : spotS size sp ch = sp + (size - Int.fmod sp size) := if_neg h
theorem spot_all {size : Int} {x : Str} {c : Int × Tok} (h : SpotP size x x.cps.size c) : c.1 = spotF size x := by rw [h.1, List.take_of_length_le (by simp)]; rfl
theorem row_step {x : Str} {i : Nat} {v v' : List Value} {k k' : Nat} {cnt : List Int} {y : Int} (h : RowS.P x i ⟨v, k, cnt⟩) (hi : i < 5) (e : y = spotF (1 + (i : Nat)) x) : RowS.P x (i + 1) ⟨v', k', cnt ++ [y]⟩ := by
  have h' : cnt = (rowF x).take i := h
  show cnt ++ [y] = (rowF x).take (i + 1)
  subst h' e
  rcases i with _ | _ | _ | _ | _ | i
  · rfl
  · rfl
  · rfl
  · rfl
  · rfl
  · omega
theorem one_inj' {a : Nat} (h : (⟨#[a]⟩ : Str) = Str.ofString " ") : a = 32 := by
  have e : (Str.ofString " ") = ⟨#[32]⟩ := by decide +kernel
  rw [e] at h
  have := congrArg (fun s : Str => s.cps[0]?) h
  simpa using this
theorem sign_sp {ch : Nat} (h : ((⟨#[ch]⟩ : Str) == Str.ofString " ") = true) : ch = 32 := by
  exact one_inj' (eq_of_beq h)
theorem sign_ns {ch : Nat} (h : ((⟨#[ch]⟩ : Str) == Str.ofString " ") = false) : ch ≠ 32 := by
  intro e
  subst e
  revert h
  decide +kernel
set_option maxRecDepth 100000
set_option maxHeartbeats 8000000
local macro_rules | `(tactic| walk_at "subscriptTail") => `(tactic| (k_extra "g19"; (with_unfolding_all refine' item_lastK ?k1 ?_ ?k6; k_extra "a19")))
local macro_rules | `(tactic| walk_at "subscriptTail Name Name ref int") => `(tactic| (k_extra "g20"; k_dflt (refine' item_rowK (by assumption) ?N ?m ?a ?b ?c ?_ ?s; k_extra "a20"); k_extra "b20"))
section
variable {w : World} {p : Program} {loose : List Str} {mean : ExcName → Option Value} {mg mb : Str → Option Value} {dp un : Nat} {gd : Option (List Code)} {cn : Str} {cs : Scope} {a : Addr} {ccd : Value} {cl : List (Str × Addr)} {outer : List Env} {A₀ : Around} {base h₀ : Heap} {L : Addr} {m : Str → Option Value} {s : Shared}
theorem hung_p {LA : Addr} {lv : List Value} {leads : List Str} (hl : s.heap.IsList LA lv.toArray) (hi : StrsAre lv leads) (hn : leads.length = 8) (hC : ∀ x ∈ leads, ∀ (i ch : Nat), x.cps[i]? = some ch → ch = 32 ∨ ch = 9) (hA : ∀ x ∈ leads, x.cps.all (· < 128) = true) (hL : ∀ x ∈ leads, x.cps.size ≤ 4) (h0 : ∀ r, 0 < r → r < 8 → rowLt (leads.map rowF) 0 r = true) (B : Below A₀ base outer h₀) (F : Fr h₀ L s.heap m) (X : (hd.heap_1 w.params).In h₀) (TP : Top p loose mean mg mb h₀) (hk : cs.kind = .function) (hdp : dp + 8 < recursionLimit) (hun : un + 80 < cLine) :
    PureAt PR w (ktrTop dp un gd cn cs L a ccd cl outer) h₀ L m s 218 [.ref LA] (fun r tl => ∃ D v n hs, r = .ref D ∧ tl = [(D, listOf (List.toArray v) n)] ∧ IntsAre v hs ∧ hs.length = 8 ∧ HungIs (rowLt (leads.map rowF)) hs) := by
  k_with_none
  w_top off
  k_with "m_enter" => ((case kA => exact rfl); (case kF => exact rfl); (case kK => assumption); (case k1 => k_asm); (case k2 => k_asm); (case k3 => k_asm); (case k5 => k_asm); (case k6 => k_is); (case k7 => k_is); (case k8 => walk_at "lt_room"); (case k9 => exact BindsTo.of_eq rfl); (case c5 => decide); (case kB => exact locs rfl); (case c2 => exact rfl); (case c3 => exact rfl); (case c4 => exact rfl); k_whole; intro g' L' h' F' N' B' X' T' stB; (try dsimp only [List.reverse, List.reverseAux, List.length]))
  k_with "m_pure" => ((case k1 => k_asm); (case k2 => k_asm); (case k3 => k_asm); (case k4 => k_asm); (case kK => first | exact rfl | assumption); (case kd => walk_at "lt_room"); (case ku => walk_at "lt_units"))
  k_with "m_useI" => (walk_at "m_pure"; (case k5 => k_asm); intro t9 h9 tk9 F9 N9; (try dsimp only); (try k_sweep))
  k_with "m_same" => (intro z h2 h3; (try simp only [List.forall_mem_cons, List.not_mem_nil, false_implies, implies_true, and_true, ne_eq, List.contains_cons, List.contains_nil, Bool.or_false, Bool.or_eq_false_iff, beq_eq_false_iff_ne] at h2 h3); simp [kstB, h2, h3])
  k_with "m_useB" => (walk_at "m_pure"; (case k5 => k_asm); intro h9 tk9 F9 N9; (try dsimp only); (try k_sweep))
  k_with "l_idx" => (k_dflt (k_extra "m_idx"))
  k_with "g9" => (k_here; (with_reducible show wpAny _ _ (subscriptTail _ _ (Value.ref _) (Value.int _ _)) _ _ _))
  k_with "a9" => ((case k1 => is_list); (case k3 => omega); (case k5 => omega); (case k6 => with_unfolding_all rfl); k_whole)
  k_with "m_sameN" => (intro z h1 h2 h3; (try simp only [List.forall_mem_cons, List.not_mem_nil, false_implies, implies_true, and_true, ne_eq, List.contains_cons, List.contains_nil, Bool.or_false, Bool.or_eq_false_iff, beq_eq_false_iff_ne] at h2 h3); first | rfl | ((show (if z = _ then _ else _) = _); rw [if_neg h1]; rfl) | (simp [kstB, h1, h2, h3]; done))
  k_with "mul_fits" => (k_extra "m_mul")
  k_with "InvEndN" => (refine stop_ ?_)
  k_with "KswEnd" => (refine stop_ ?_)
  k_with "m_new" => (first | exact List.forall_mem_nil _ | (refine List.forall_mem_cons.mpr ⟨⟨by k_mem, by k_all⟩, ?_⟩; walk_at "m_new"))
  k_with "exec For Name Name cons nil" => (k_here; with_unfolding_all refine wpAny_For ?_)
  k_with "exec For Name Call cons nil" => (k_here; with_unfolding_all refine wpAny_For ?_)
  k_with "exec For Tuple Name cons nil" => (k_here; with_unfolding_all refine wpAny_For ?_)
  k_with "exec For Tuple Call cons nil" => (k_here; with_unfolding_all refine wpAny_For ?_)
  k_with "pyIter ref" => (k_dflt (k_extra "m_iter"))
  k_with "pyIter str" => (k_dflt (k_extra "m_siter"))
  k_with "XEnd" => (dsimp only [XEnd])
  k_with "XEndN" => (refine stop_ ?_)
  k_with "k_all" => (first | (with_reducible assumption) | (refine List.forall_mem_append.mpr ⟨?_, ?_⟩ <;> k_all) | fail "m_all")
  k_with "k_room" => (walk_at "lt_room")
  k_with "k_room" => (walk_at "lt_room")
  k_with "k_units" => (walk_at "lt_units")
  k_with "size_fits" => ((simp only [List.size_toArray, Array.size_push, PySem.sizeLine_eq]); omega)
  k_with "g19" => (k_here; (with_reducible show wpAny _ _ (subscriptTail _ _ (Value.ref _) (Value.int (-1) _)) _ _ _))
  k_with "a19" => ((case k1 => is_list); (case k6 => with_unfolding_all rfl); k_whole)
  k_with "lsm_bools" => (assumption)
  k_with "exec While UnaryOp cons nil" => (k_extra "m_while")
  k_with "eval ListComp" => (k_here; k_dflt (refine comp_zip (by k_asm) (by decide) (by decide) (by rfl) (by decide) (by rfl) (by rfl) (by decide) (by decide) (by decide) ?_ (by intro _; rfl)))
  k_with "call type:zip" => (k_here; k_dflt (k_extra "m_zip"))
  k_with "g20" => (k_here; (with_reducible show wpAny _ _ (subscriptTail _ _ (Value.ref _) (Value.int _ _)) _ _ _))
  k_with "a20" => ((case N => k_asm); (case m => k_mem); (case a => l_idx); (case b => l_idx); (case c => l_idx); (case s => with_unfolding_all rfl); k_whole)
  k_with "b20" => (intro rD rV rN rR rE rM rI)
  k_with "lt_room" => (first | with_unfolding_all exact room2 (j := 0) hdp rfl rfl | with_unfolding_all exact room0 (j := 0) hdp rfl rfl | with_unfolding_all exact room2 (j := 1) hdp rfl rfl | with_unfolding_all exact room0 (j := 1) hdp rfl rfl | with_unfolding_all exact room2 (j := 2) hdp rfl rfl | with_unfolding_all exact room0 (j := 2) hdp rfl rfl | with_unfolding_all exact room2 (j := 3) hdp rfl rfl | with_unfolding_all exact room0 (j := 3) hdp rfl rfl | with_unfolding_all exact room2 (j := 4) hdp rfl rfl | with_unfolding_all exact room0 (j := 4) hdp rfl rfl | with_unfolding_all exact room2 (j := 5) hdp rfl rfl | with_unfolding_all exact room0 (j := 5) hdp rfl rfl | with_unfolding_all exact room2 (j := 6) hdp rfl rfl | with_unfolding_all exact room0 (j := 6) hdp rfl rfl | with_unfolding_all exact room2 (j := 7) hdp rfl rfl | with_unfolding_all exact room0 (j := 7) hdp rfl rfl | (trace "heavy"; ktr_room))
  k_with "lt_units" => (first | with_unfolding_all exact room2 (j := 0) hun rfl rfl | with_unfolding_all exact room0 (j := 0) hun rfl rfl | with_unfolding_all exact room2 (j := 1) hun rfl rfl | with_unfolding_all exact room0 (j := 1) hun rfl rfl | with_unfolding_all exact room2 (j := 2) hun rfl rfl | with_unfolding_all exact room0 (j := 2) hun rfl rfl | with_unfolding_all exact room2 (j := 3) hun rfl rfl | with_unfolding_all exact room0 (j := 3) hun rfl rfl | with_unfolding_all exact room2 (j := 4) hun rfl rfl | with_unfolding_all exact room0 (j := 4) hun rfl rfl | with_unfolding_all exact room2 (j := 5) hun rfl rfl | with_unfolding_all exact room0 (j := 5) hun rfl rfl | with_unfolding_all exact room2 (j := 6) hun rfl rfl | with_unfolding_all exact room0 (j := 6) hun rfl rfl | with_unfolding_all exact room2 (j := 7) hun rfl rfl | with_unfolding_all exact room0 (j := 7) hun rfl rfl | (trace "heavy"; ktr_units))
  k_dflt (refine' pure_codeB (n0 := []) (binds := [(Str.ofString "leads", .ref LA)]) ?k1 ?k2 ?k3 ?k5 News.nil ?kA ?kF ?kK ?k6 ?k7 ?k8 ?k9 ?kB ?_ ?c2 ?c3 ?c4 ?c5; walk_at "m_enter")
  have hB := hl.at fun o e => stB _ o (by simp) e
  clear stB
  k_with "m_iter" => (first | ((rename News _ _ _ _ => lN9); (obtain ⟨S0, lE9⟩ := news_hd lN9); (subst lE9); (rename Fr _ _ _ _ => lF9); (rename News _ _ _ _ => lN9); (refine' x_list (σ := HunS) (fun c => (c.S, listOf c.vs.toArray c.n) :: c.tl) (fun c => [(Str.ofString "spots", .ref c.S)]) (fun c => (∀ p ∈ c.tl, p.1 ≠ c.S) ∧ RowsIn c.tl c.vs c.rows) [Str.ofString "lead", Str.ofString "size", Str.ofString "spot", Str.ofString "sign"] (HunS.P leads) (fun _ => 0) (⟨S0, [], 0, [], []⟩) ([]) ?hgox2 ?hlx2 ?hhx2 ?hklx2 ?hkx2 ?h0x2 lF9 ?lN9x2 ?hLx2 ?hfx2 ?hpsx2 ?hpx2 ?htbx2 ?hEx2 (fun c i v kU kH kTk kOwn kIt kOff kFacts kInv kTB kFr kNews => ?turnx2) (fun c kU kH kTk kFacts kInv kTB kFr kNews => ?donex2)); (case hgox2 => exact .inl ⟨_, _, rfl⟩); (case hlx2 => exact hB.at fun o e => lF9.keep _ o e); (case hhx2 => rfl); (case hklx2 => exact (fun _ h => nomatch h)); (case hkx2 => exact (fun _ _ h => nomatch h)); (case h0x2 => exact list_off hB lN9); (case lN9x2 => exact lN9); (case htbx2 => exact Nat.zero_le _); (case hEx2 => passes_own); (case hLx2 => exact fr_off hB lF9); (case hfx2 => exact ⟨(fun _ h => nomatch h), .nil⟩); (case hpsx2 => kst_all); (case hpx2 => exact ⟨rfl, rfl⟩); (clear lF9 lN9); (all_goals (obtain ⟨S, vs, n, tl, rows⟩ := c; (try dsimp only [kstB] at kFr); (try simp only [List.cons_append] at kNews); (try dsimp only at kOff); dsimp only at kFacts; obtain ⟨kNe, kRows⟩ := kFacts)); (case' donex2 => (obtain ⟨kRe, kR8⟩ := hun_done kInv hi hn); (dsimp only at kRe kR8)); (case' turnx2 => (obtain ⟨x, tx, rfl, hx, hxm⟩ := strs_get hi kIt; (have kLen := kInv.2); (dsimp only at kLen); (have kI8 := (List.getElem?_eq_some_iff.mp hx).1); (rw [hn] at kI8); (simp only [List.forall_mem_cons] at kOff; obtain ⟨ko0, ko1⟩ := kOff)))) | ((rename News _ _ _ _ => lN9); (obtain ⟨R0, lE9⟩ := news_hd lN9); (subst lE9); (rename Fr _ _ _ _ => lF9); (rename News _ _ _ _ => lN9); (refine' x_range (σ := RowS) (fun c => (R0, listOf c.v.toArray c.k) :: _) (fun _ => []) (fun c => IntsAre c.v c.cnt) [Str.ofString "size", Str.ofString "spot", Str.ofString "sign"] (RowS.P x) (fun _ => 0) (⟨[], 0, []⟩) ?hrx3 ?hsmx3 ?hnx3 ?hhx3 lF9 ?lN9x3 ?hfx3 ?hpsx3 ?hpx3 ?htbx3 ?hEx3 (fun c i2 tsz kU kH2 kTk kOwn2 kLt kOff2 kInts kInv2 kTB kFr kNews => ?turnx3) (fun c kU kH2 kTk kInts kInv2 kTB kFr kNews => ?donex3)); (case hrx3 => assumption); (case hsmx3 => decide); (case hnx3 => exact (show _ = ((5 : Nat) : Int) by decide)); (case hhx3 => rfl); (case lN9x3 => exact lN9); (case htbx3 => exact Nat.zero_le _); (case hEx3 => passes_own); (case hfx3 => exact .nil); (case hpsx3 => exact (fun _ h => nomatch h)); (case hpx3 => exact rfl); (clear lF9 lN9); (all_goals (obtain ⟨v, k, cnt⟩ := c; (try dsimp only [kstB] at kFr); (try simp only [List.cons_append] at kNews); (try dsimp only at kOff2); dsimp only at kInts)); (case' turnx3 => ((simp only [List.forall_mem_cons, List.forall_mem_append] at kOff2); (obtain ⟨ko20, ko21, ko22⟩ := kOff2); (obtain ⟨kRb, kRc⟩ := off_lt3 (by assumption)); (have kVl := kInts.length); (have kCl := row_len kInv2); (dsimp only at kCl)))) | ((rename News _ _ _ _ => lN9); (obtain ⟨H0, lE9⟩ := news_hd lN9); (subst lE9); (rename Fr _ _ _ _ => lF9); (rename News _ _ _ _ => lN9); (refine' x_range (σ := HngS) (fun c => (H0, listOf c.v.toArray c.k) :: _) (fun _ => []) (fun c => IntsAre c.v c.hs) [Str.ofString "r", Str.ofString "k"] (HngS.P (rowLt rows)) (fun _ => 0) (⟨[_], 0, [0]⟩) ?hrx1 ?hsmx1 ?hnx1 ?hhx1 lF9 ?lN9x1 ?hfx1 ?hpsx1 ?hpx1 ?htbx1 ?hEx1 (fun c i tr kU kH2 kTk kOwn2 kLt kOff2 kInts kInv2 kTB kFr kNews => ?turnx1) (fun c kU kH2 kTk kInts kInv2 kTB kFr kNews => ?donex1)); (case hrx1 => assumption); (case hsmx1 => decide); (case hnx1 => exact (show _ = ((7 : Nat) : Int) by decide)); (case hhx1 => rfl); (case lN9x1 => exact lN9); (case htbx1 => exact Nat.zero_le _); (case hEx1 => passes_own); (case hfx1 => exact .cons _ _ .nil); (case hpsx1 => exact (fun _ h => nomatch h)); (case hpx1 => exact ⟨rfl, rfl, fun r h1 h2 => absurd h2 (by simp; omega)⟩); (clear lF9 lN9); (all_goals (obtain ⟨v, k, hs⟩ := c; (try dsimp only [kstB] at kFr); (try simp only [List.cons_append] at kNews); (try dsimp only at kOff2); dsimp only at kInts; (have kHl := kInv2.1); (dsimp only at kHl); (have kVl := kInts.length))); (case' turnx1 => ((simp only [List.forall_mem_cons] at kOff2); (obtain ⟨ko20, ko21, ko22⟩ := kOff2); (have kHt := off_lt2 (by assumption))))))
  k_with "m_while" => ((rename Fr _ _ _ _ => lF9); (rename News _ _ _ _ => lN9); (refine' ksw_while (σ := Int × Tok) (fun _ => _) (fun c => [(Str.ofString "k", Value.int c.1 c.2)]) (fun _ => True) [] (WhP (rowLt rows) hs (1 + i)) (fun c => c.1.toNat) (_, _) lF9 ?wlN ?whf ?whk ?whp (fun c kU3 kH3 kTk3 kFacts3 kWh kFr kNews => ?wturn)); (case wlN => exact lN9); (case whf => trivial); (case whk => kst_all); (case whp => exact wh_0 (by omega) (by omega)); (clear lF9 lN9); (obtain ⟨q, tq⟩ := c); (dsimp only [kstB] at kFr); (obtain ⟨kW1, kW2⟩ := whp_open kWh))
  k_with "m_zip" => ((rename Fr _ _ _ _ => lF9); (rename News _ _ _ _ => lN9); (refine' call_zipZ ?zh lF9 lN9 (List.mem_cons_of_mem _ (List.mem_cons_of_mem _ (List.mem_append_left _ (by assumption)))) (List.mem_cons_of_mem _ (List.mem_cons_of_mem _ (List.mem_append_left _ (by assumption)))) (by assumption) (by assumption) ?zl (fun zD zh ztk zys zF zN zne zB => ?zq)); (case zh => rfl); (case zl => exact row_le kRe (by assumption)); (simp only [List.forall_mem_cons] at zne); (obtain ⟨zn1, zn2, zn3⟩ := zne); (replace zn1 := neN zn1); (replace zn2 := neN zn2))
  k_with "m_idx" => omega
  k_with "m_siter" => ((rename Fr _ _ _ _ => lF9); (rename News _ _ _ _ => lN9); (refine' x_str (σ := Int × Tok) (fun _ => _) (fun c => [(Str.ofString "spot", .int c.1 c.2)]) (fun _ => True) [Str.ofString "sign"] (SpotP (1 + (i2 : Nat)) x) (fun _ => 0) ((0, _)) ?hax4 ?hhx4 lF9 ?lN9x4 ?hfx4 ?hpsx4 ?hpx4 ?htbx4 ?hEx4 (fun c j ch tv kU kH3 kTk kOwn3 kCh kOff3 kT kInv3 kTB kFr kNews => ?turnx4) (fun c kU kH3 kTk kT kInv3 kTB kFr kNews => ?donex4)); (case hax4 => exact hA x hxm); (case hhx4 => rfl); (case lN9x4 => exact lN9); (case htbx4 => exact Nat.zero_le _); (case hEx4 => passes_own); (case hfx4 => trivial); (case hpsx4 => kst_all); (case hpx4 => exact spot_0); (clear lF9 lN9); all_goals (obtain ⟨sp, tsp⟩ := c; (try dsimp only [kstB] at kFr); (try simp only [List.cons_append] at kNews)))
  k_steps
  · refine Stop.mk (xend_ (σ := Int × Tok) (_, _) (by assumption) (by assumption) ?hn1 ?ho1 kOff3 trivial (by kst_all) (by walk_at "m_same") ?hp1 (Nat.zero_le _))
    case hn1 => first | kst_in | kst_inAny
    case ho1 => kst_anyIn
    case hp1 =>
      have q := sign_sp (by assumption)
      subst q
      exact spot_1 kInv3 kCh (by omega) (by omega) spot_sp
  · refine Stop.mk (xend_ (σ := Int × Tok) (_, _) (by assumption) (by assumption) ?hn2 ?ho2 kOff3 trivial (by kst_all) (by walk_at "m_same") ?hp2 (Nat.zero_le _))
    case hn2 => first | kst_in | kst_inAny
    case ho2 => kst_anyIn
    case hp2 => exact spot_1 kInv3 kCh (by omega) (by omega) (spot_ch (sign_ns (by assumption)))
  · rename News _ _ _ _ => nE
    rw [show v.toArray.push (Value.int sp tsp) = (v ++ [Value.int sp tsp]).toArray from List.push_toArray ..] at nE
    refine Stop.mk (xend_ (σ := RowS) ⟨v ++ [.int sp tsp], k + 1, cnt ++ [sp]⟩ (by assumption) nE ?hn3 ?ho3 (List.forall_mem_cons.mpr ⟨ko20, List.forall_mem_cons.mpr ⟨ko21, List.forall_mem_append.mpr ko22⟩⟩) (ints_snoc kInts) (fun _ h => nomatch h) (by walk_at "m_same") (row_step kInv2 kLt (spot_all kInv3)) (Nat.zero_le _))
    case hn3 => first | kst_in | kst_inAny
    case ho3 => kst_anyIn
  · obtain ⟨kRb, kRc⟩ := off_lt3 (by assumption)
    simp only [List.push_toArray] at kNews
    refine Stop.mk (xend_ (σ := HunS) ⟨S, vs ++ [.ref R0], n + 1, (R0, listOf v.toArray k) :: tl, rows ++ [cnt]⟩ kFr kNews ?hn4 ?ho4 (List.forall_mem_cons.mpr ⟨ko0, List.forall_mem_cons.mpr ⟨kRc, ko1⟩⟩) ⟨List.forall_mem_cons.mpr ⟨by k_ne, kNe⟩, (kRows.mono fun p hp => List.mem_cons_of_mem _ hp).snoc (.head _) kInts⟩ (by kst_all) (by walk_at "m_same") (hun_step kInv hx kInv2) (Nat.zero_le _))
    case hn4 => exact led_sw
    case ho4 => kst_anyIn
  · have hlt : rowLt rows q.toNat (1 + i) = true := (row_lt (by assumption) (by assumption)).trans (by assumption)
    rename News _ _ _ _ => nE
    simp only [List.push_toArray] at nE
    refine Stop.mk (xend_ (σ := HngS) ⟨v ++ [.int q tq], k + 1, hs ++ [q]⟩ (by assumption) nE ?hn5 ?ho5 (List.forall_mem_cons.mpr ⟨ko20, List.forall_mem_cons.mpr ⟨ko21, ko22⟩⟩) (ints_snoc kInts) (fun _ h => nomatch h) (by walk_at "m_same") (hng_step kInv2 (by omega) kWh hlt rfl) (Nat.zero_le _))
    case hn5 => first | kst_in | kst_inAny
    case ho5 => kst_anyIn
  · have hlt : rowLt rows q.toNat (1 + i) = false := (row_lt (by assumption) (by assumption)).trans (by assumption)
    have hgo := fun t1 : Tok => wh_go (t1 := t1) kInv2 (by omega) kWh (by rw [kRe]; exact h0 _ (by omega) (by omega)) hlt rfl
    refine Stop.mk (ksw_end (σ := Int × Tok) (_, _) (by assumption) (by assumption) ?hn6 trivial (by kst_all) (by walk_at "m_same") (hgo _).1 (hgo 0).2)
    case hn6 => first | kst_in | kst_inAny
  · refine leaveP_ (by assumption) (by assumption) [(H0, listOf v.toArray k)] (fun _ h => nomatch h) ?hz ⟨_, _, _, _, rfl, rfl, kInts, kHl, kRe ▸ kInv2.2⟩
    case hz => walk_at "m_new"
end
set_option maxRecDepth 100000
set_option maxHeartbeats 4000000
/-- an object of an own subclass of list -/
noncomputable abbrev subO (C dx : Addr) (its : Array Value) (n : Nat) : Obj := { cls := .ref C, dict := some dx, data := .seq its n }
noncomputable def makesL (K : Frag) (C : Addr) : Bool := match K.lookup C with
  | some ⟨_, _, .cls cd, sl⟩ => !cd.hasDel && (sl.toList[4]?).join == some (.builtin "list.__new__") && !cd.mro.isEmpty && cd.mro.contains (.ref C) && cd.mro.contains (.type "list") &&
      specialIn K (.ref C) "__call__" == some (some (.builtin "type.__call__")) && instIn K (.ref C) (.type "type") == some true
  | _ => false
structure MakesL (M : Model) (h : Heap) (C : Addr) : Prop where
  obj : ∃ oc od cd sl, h.get? C = some ⟨oc, od, .cls cd, sl⟩ ∧ cd.hasDel = false ∧ cd.mro.isEmpty = false
  made : Looks M h (Bind.madeBy (.ref C)) (some "list.__new__")
  base : Looks M h (Bind.staticBase (.ref C)) (.ref C)
  self : Looks M h (isSubtype (.ref C) (.ref C)) true
  top : Looks M h (isSubtype (.ref C) (.type "list")) true
  call : Looks M h (specialOf (.ref C) "__call__") (some (.builtin "type.__call__"))
  typ : Looks M h (isInstance (.ref C) (.type "type")) true
theorem makesL_of {K : Frag} {M : Model} {h : Heap} (X : K.In h) {C : Addr} (e : makesL K C = true) : MakesL M h C := by
  unfold makesL at e
  split at e
  · rename_i oc od cd sl ho
    simp only [Bool.and_eq_true, Bool.not_eq_true', beq_iff_eq] at e
    obtain ⟨⟨⟨⟨⟨⟨e2, e3⟩, e4⟩, e5⟩, e6⟩, e7⟩, e8⟩ := e
    have hc : clsIn K C = some cd := by unfold clsIn; rw [ho]
    have hm : Looks M h (mroOf (.ref C)) cd.mro := (looks_clsIn X hc).andThen .now
    obtain ⟨c, l, hl⟩ : ∃ c l, cd.mro = c :: l := by cases q : cd.mro with | nil => rw [q] at e4; cases e4 | cons c l => exact ⟨c, l, rfl⟩
    have made : Looks M h (Bind.madeBy (.ref C)) (some "list.__new__") := by
      intro A Q E s k q
      unfold Bind.madeBy
      refine wpAny_bind (hm A _ E s k ?_)
      rw [hl, List.forIn_cons]
      refine wpAny_bind (wpAny_bind (wpAny_bind (wpAny_bind (wpAny_loadPart (k _ _ (X _ _ ho)) (wpAny_pure ?_)))))
      dsimp only
      rw [← Array.getElem?_toList, e3]
      exact wpAny_pure (wpAny_pure (wpAny_pure q))
    refine ⟨⟨oc, od, cd, sl, X _ _ ho, e2, e4⟩, made, ?_, looks_mroIn X ?_, looks_mroIn X ?_, looks_specialIn X e7, looks_instIn X e8⟩
    · intro A Q E s k q
      unfold Bind.staticBase
      refine wpAny_bind (hm A _ E s k ?_)
      rw [hl, List.forIn_cons]
      exact wpAny_bind (wpAny_bind (wpAny_bind (made A _ E s k (wpAny_pure (wpAny_pure (wpAny_pure q))))))
    · unfold mroIn; rw [hc, Option.bind_some, if_neg (by rw [e4]; decide), e5]
    · unfold mroIn; rw [hc, Option.bind_some, if_neg (by rw [e4]; decide), e6]
  · cases e
theorem ln_kind : builtinKind "list.__new__" = some .builtinFn := by decide +kernel
theorem ln_split : splitId "list.__new__" = some ("list", "__new__") := by decide +kernel
section
variable {prog : Program} {w : World} {A : Around} {K : Frag} {C : Addr} {R : Result → Shared → Prop} {h : Heap} {g : Array GenState} {d : Drawn} {t : Nat} {os : OsState}
theorem ln_args (C : Addr) (a : Value) : (match Manifest.signature? "list.__new__" with | some sig => Bind.checkArgs "list.__new__" sig ⟨[.ref C, a], []⟩ | x => pure ()) = (pure () : Sem Unit) := by kernel_rfl
theorem newL_K {a : Value} (Y : MakesL (model prog w) h C)
    (hq : R (.ok (.ret (.ref (h.objs.size + 1)))) ⟨(h.push emptyDict).push (subO C h.objs.size #[] 0), g, d, t, os⟩) :
    codeAny (model prog w) A (.call (.builtin "list.__new__") ⟨[.ref C, a], []⟩) R ⟨h, g, d, t, os⟩ := by
  obtain ⟨⟨oc, od, cd, sl, hC, e2, e4⟩, made, base, self, top, call, typ⟩ := Y
  refine codeAny_call_builtin_code (plainId_quiet F.plain_list_new _) ?_
  have isT : Looks (model prog w) h (isType (.ref C)) true := by
    intro A Q E s k q
    unfold isType loadHead
    exact wpAny_bind (wpAny_loadPart_at (k _ _ hC) (wpAny_pure q))
  simp only [checkBuiltinCall, ln_kind, ln_split]
  have fin : codeAny (model prog w) A (.builtin "list.__new__" ⟨[.ref C, a], []⟩) R ⟨h, g, d, t, os⟩ := by
    refine codeAny_builtin_stack F.entry_list_new rfl fun p st => ?_
    rw [Around.under_plainId F.plain_list_new _]
    have hown := owner_list_new
    simp only [hown]
    repeat (first | simp only [Bool.not_true, Bool.false_eq_true, if_false] | lk)
    refine wpAny_load (Heap.get?_push_of_some _ (Heap.get?_push_of_some _ hC)) (wpAny_pure ?_)
    rw [e2]
    refine wpAny_pure (wpAny_pure ?_)
    show R _ _
    rw [Heap.size_push]
    exact hq
  repeat (first | simp only [bne_self_eq_false, BEq.rfl, Bool.not_true, Bool.false_eq_true, if_false, if_true] | lk)
  exact fin
theorem makeL_core {a : Value} {init : Value} (Y : MakesL (model prog w) h C) (hi : Looks (model prog w) h (typeLookup (.ref C) "__init__") (some init))
    (hb : ∀ self, Looks (model prog w) h (bindSpecial init self) (init, [self]))
    (hq : codeAny (model prog w) (A.under (.builtin "type.__call__" ⟨[.ref C, a], []⟩)) (.call init ⟨[.ref (h.objs.size + 1), a], []⟩) (InitBack (h.objs.size + 1) R) ⟨(h.push emptyDict).push (subO C h.objs.size #[] 0), g, d, t, os⟩) :
    codeAny (model prog w) A (.call (.ref C) ⟨[a], []⟩) R ⟨h, g, d, t, os⟩ := by
  have Y' := Y
  obtain ⟨⟨oc, od, cd, sl, hC, e2, e4⟩, made, base, self, top, call, typ⟩ := Y
  refine codeAny_of_tree ?_
  show wpAny _ _ (callAny (.ref C) _) _ _ _
  refine nd_load hC ?_
  show wpAny _ _ (callAny.viaDunder (.ref C) _) _ _ _
  unfold callAny.viaDunder
  refine wpAny_bind (call.at ?_)
  dsimp only
  rw [tc_bind]
  refine wpAny_bind (wpAny_pure (wpAny_bind (wpAny_pure ?_)))
  refine wpAny_pure (a := Fin.again (.call (.builtin "type.__call__") ⟨[.ref C, a], []⟩)) (And.intro rfl ?_)
  refine codeAny_call_builtin_at (Code.quiet_builtin _ (by decide +kernel)) entry_typeCall (check_slot tc_kind tc_split typ (tc_args _ _ _) ?_)
  unfold Builtin.«type.__call__»
  have hm : Looks (model prog w) h (mroOf (.ref C)) cd.mro := ((Looks.ld (part := none) hC).andThen .now).andThen .now
  repeat (first | simp only [e4, Bool.false_eq_true, if_false] | with_reducible refine wpAny_call ?_ | lk)
  refine newL_K Y' ?_
  have k : ∀ b o, h.get? b = some o → ((h.push emptyDict).push (subO C h.objs.size #[] 0)).get? b = some o := fun b o e => Heap.get?_push_of_some _ (Heap.get?_push_of_some _ e)
  have hx : ((h.push emptyDict).push (subO C h.objs.size #[] 0)).get? (h.objs.size + 1) = some (subO C h.objs.size #[] 0) := by heap_get
  have t1 : Looks (model prog w) ((h.push emptyDict).push (subO C h.objs.size #[] 0)) (typeOf (.ref (h.objs.size + 1))) (.ref C) := (Looks.ld hx).andThen .now
  have s1 := self.keeps k
  have i1 := hi.keeps k
  have b1 := (hb (.ref (h.objs.size + 1))).keeps k
  unfold isInstance callSpecial? specialOf
  repeat (first | with_reducible refine wpAny_call ?_ | lk)
  refine codeAny_mono hq fun r s' z => ?_
  rcases r with e | (v | _ | _ | _) <;> first | exact z | exact z.elim | skip
  obtain ⟨rfl, z⟩ := z
  exact wpAny_pure (wpAny_pure z)
end
section
variable {prog : Program} {w : World} {A : Around} {K : Frag} {C : Addr} {s : Shared} {h₀ : Heap} {L : Addr} {m : Str → Option Value} {news : List (Addr × Obj)} {E : Value → Shared → Prop}
theorem makeL_K {a : Value} {fI : Addr} {Q : Value → Shared → Prop} (F : Fr h₀ L s.heap m) (N : News h₀ L s.heap news) (X : K.In h₀) (hm : makesL K C = true)
    (hi : findIn K (.ref C) "__init__" = some (some (.ref fI))) (hf : typeIn K (.ref fI) = some (.type "function"))
    (h : ∀ x dx h', Fr h₀ L h' m → News h₀ L h' ((x, subO C dx #[] 0) :: (dx, dictOf [] 0) :: news) → (∀ p ∈ news, p.1 < dx) → dx < x →
      codeAny (model prog w) (A.under (.builtin "type.__call__" ⟨[.ref C, a], []⟩)) (.call (.ref fI) ⟨[.ref x, a], []⟩) (InitBack x fun r s' => match r with | .ok (.ret v) => Q v s' | .ok _ => False | .error e => E e s') { s with heap := h' }) :
    wpAny (model prog w) A (call (.ref C) [a]) Q E s := by
  obtain ⟨hh, g, d, t, os⟩ := s
  have X' := X.keeps F.keep
  refine wpAny_call (makeL_core (makesL_of X' hm) (looks_findIn X' hi) (fun self => bind_fn X' self hf) (h _ hh.objs.size _ ((F.push _).push _) ?_ (fun p hp => Heap.lt_size (N p hp).1) (Nat.lt_succ_self _)))
  have := (N.push F emptyDict).push (F.push _) (subO C hh.objs.size #[] 0)
  rwa [Heap.size_push] at this
end
set_option maxRecDepth 100000
set_option maxHeartbeats 4000000
theorem instOfSub {h : Heap} {h₀ : Heap} {L x C dx : Addr} {news : List (Addr × Obj)} {od : Obj} {its : Array Value} {n : Nat} (N : News h₀ L h news) (h1 : (x, subO C dx its n) ∈ news) (h2 : (dx, od) ∈ news) :
    InstAt h x (subO C dx its n) C (some od) := ⟨(N _ h1).1, rfl, rfl, (N _ h2).1⟩
noncomputable abbrev boundO (bt id : String) (x : Addr) : Obj := { cls := .type bt, dict := none, data := .fields #[.builtin id, .ref x], slots := #[] }
theorem wd_entry : entryFor table "wrapper_descriptor.__get__" = some Builtin.«wrapper_descriptor.__get__» := entryFor_of_tree (by kernel_rfl)
theorem wd_plain : plainId "wrapper_descriptor.__get__" = true := by decide +kernel
theorem wd_kind : builtinKind "wrapper_descriptor.__get__" = some .slot := by decide +kernel
theorem wd_split : splitId "wrapper_descriptor.__get__" = some ("wrapper_descriptor", "__get__") := by decide +kernel
theorem wd_args (a b c : Value) : argsOk "wrapper_descriptor.__get__" ⟨[a, b, c], []⟩ := by unfold argsOk; kernel_rfl
theorem md_entry : entryFor table "method_descriptor.__get__" = some Builtin.«method_descriptor.__get__» := entryFor_of_tree (by kernel_rfl)
theorem md_plain : plainId "method_descriptor.__get__" = true := by decide +kernel
theorem md_kind : builtinKind "method_descriptor.__get__" = some .slot := by decide +kernel
theorem md_split : splitId "method_descriptor.__get__" = some ("method_descriptor", "__get__") := by decide +kernel
theorem md_args (a b c : Value) : argsOk "method_descriptor.__get__" ⟨[a, b, c], []⟩ := by unfold argsOk; kernel_rfl
theorem wd_look : typeLookup (.type "wrapper_descriptor") "__get__" = pure (some (.builtin "wrapper_descriptor.__get__")) := by rw [typeLookup_type, builtinLookup_eq_fast]; kernel_rfl
theorem md_look : typeLookup (.type "method_descriptor") "__get__" = pure (some (.builtin "method_descriptor.__get__")) := by rw [typeLookup_type, builtinLookup_eq_fast]; kernel_rfl
theorem ll_type : typeOf (.builtin "list.__len__") = pure (.type "wrapper_descriptor") := by show builtinType _ = _; rw [builtinType_eq_fast]; kernel_rfl
theorem li_type : typeOf (.builtin "list.__init__") = pure (.type "wrapper_descriptor") := by show builtinType _ = _; rw [builtinType_eq_fast]; kernel_rfl
theorem lp_type : typeOf (.builtin "list.pop") = pure (.type "method_descriptor") := by show builtinType _ = _; rw [builtinType_eq_fast]; kernel_rfl
theorem sub_cast {M : Model} {h : Heap} {c : Value} {a b : String} {r : Bool} (l : Looks M h (isSubtype c (.type a)) r) (e : b = a) : Looks M h (isSubtype c (.type b)) r := e ▸ l
section
variable {prog : Program} {w : World} {A : Around} {C : Addr} {h : Heap} {g : Array GenState} {d : Drawn} {t : Nat} {os : OsState} {E : Value → Shared → Prop}
theorem ll_get {x : Addr} {o : Obj} {Q : Fin → Shared → Prop} (hx : h.get? x = some o) (ho : o.cls = .ref C) (hi : Looks (model prog w) h (isSubtype (.ref C) (.type "list")) true)
    (hq : Q (.done (.ret (.ref h.objs.size))) ⟨h.push (boundO "method-wrapper" "list.__len__" x), g, d, t, os⟩) :
    wpAny (model prog w) A (Builtin.«wrapper_descriptor.__get__» ⟨[.builtin "list.__len__", .ref x, .ref C], []⟩) Q E ⟨h, g, d, t, os⟩ := by
  unfold Builtin.«wrapper_descriptor.__get__»
  obtain ⟨oc, od, odt, osl⟩ := o
  dsimp only at ho
  subst ho
  repeat (first | (with_reducible refine wpAny_loadPart_at (by assumption) ?_) | (refine Looks.at (sub_cast (by assumption) (by kernel_rfl)) ?_) | simp only [Bool.not_true, Bool.false_eq_true, if_false] | lk)
  exact hq
theorem li_get {x : Addr} {o : Obj} {Q : Fin → Shared → Prop} (hx : h.get? x = some o) (ho : o.cls = .ref C) (hi : Looks (model prog w) h (isSubtype (.ref C) (.type "list")) true)
    (hq : Q (.done (.ret (.ref h.objs.size))) ⟨h.push (boundO "method-wrapper" "list.__init__" x), g, d, t, os⟩) :
    wpAny (model prog w) A (Builtin.«wrapper_descriptor.__get__» ⟨[.builtin "list.__init__", .ref x, .ref C], []⟩) Q E ⟨h, g, d, t, os⟩ := by
  unfold Builtin.«wrapper_descriptor.__get__»
  obtain ⟨oc, od, odt, osl⟩ := o
  dsimp only at ho
  subst ho
  repeat (first | (with_reducible refine wpAny_loadPart_at (by assumption) ?_) | (refine Looks.at (sub_cast (by assumption) (by kernel_rfl)) ?_) | simp only [Bool.not_true, Bool.false_eq_true, if_false] | lk)
  exact hq
theorem lp_get {x : Addr} {o : Obj} {Q : Fin → Shared → Prop} (hx : h.get? x = some o) (ho : o.cls = .ref C) (hi : Looks (model prog w) h (isSubtype (.ref C) (.type "list")) true)
    (hq : Q (.done (.ret (.ref h.objs.size))) ⟨h.push (boundO "builtin_function_or_method" "list.pop" x), g, d, t, os⟩) :
    wpAny (model prog w) A (Builtin.«method_descriptor.__get__» ⟨[.builtin "list.pop", .ref x, .ref C], []⟩) Q E ⟨h, g, d, t, os⟩ := by
  unfold Builtin.«method_descriptor.__get__»
  obtain ⟨oc, od, odt, osl⟩ := o
  dsimp only at ho
  subst ho
  repeat (first | (with_reducible refine wpAny_loadPart_at (by assumption) ?_) | (refine Looks.at (sub_cast (by assumption) (by kernel_rfl)) ?_) | simp only [Bool.not_true, Bool.false_eq_true, if_false] | lk)
  exact hq
/-- one of a descriptor's classes, as super()'s getattr meets it -/
structure Desc (dt : String) (bi : Builtin) (bt id : String) : Prop where
  type : typeOf (.builtin id) = pure (.type dt)
  look : typeLookup (.type dt) "__get__" = pure (some (.builtin (dt ++ ".__get__")))
  plain : plainId (dt ++ ".__get__") = true
  entry : entryFor table (dt ++ ".__get__") = some bi
  kind : builtinKind (dt ++ ".__get__") = some .slot
  split : splitId (dt ++ ".__get__") = some (dt, "__get__")
  self : isSubtype (.type dt) (.type dt) = pure true
  args : ∀ a b c, argsOk (dt ++ ".__get__") ⟨[a, b, c], []⟩
  run : ∀ {prog : Program} {w : World} {A : Around} {C : Addr} {h : Heap} {g : Array GenState} {d : Drawn} {t : Nat} {os : OsState} {E : Value → Shared → Prop} {x : Addr} {o : Obj} {Q : Fin → Shared → Prop}, h.get? x = some o → o.cls = .ref C → Looks (model prog w) h (isSubtype (.ref C) (.type "list")) true →
    Q (.done (.ret (.ref h.objs.size))) ⟨h.push (boundO bt id x), g, d, t, os⟩ → wpAny (model prog w) A (bi ⟨[.builtin id, .ref x, .ref C], []⟩) Q E ⟨h, g, d, t, os⟩
theorem wd_self : isSubtype (.type "wrapper_descriptor") (.type "wrapper_descriptor") = pure true := by rw [isSubtype_type]; kernel_rfl
theorem md_self : isSubtype (.type "method_descriptor") (.type "method_descriptor") = pure true := by rw [isSubtype_type]; kernel_rfl
theorem ll_desc : Desc "wrapper_descriptor" Builtin.«wrapper_descriptor.__get__» "method-wrapper" "list.__len__" := ⟨ll_type, wd_look, wd_plain, wd_entry, wd_kind, wd_split, wd_self, wd_args, fun a b c e => ll_get a b c e⟩
theorem li_desc : Desc "wrapper_descriptor" Builtin.«wrapper_descriptor.__get__» "method-wrapper" "list.__init__" := ⟨li_type, wd_look, wd_plain, wd_entry, wd_kind, wd_split, wd_self, wd_args, fun a b c e => li_get a b c e⟩
theorem lp_desc : Desc "method_descriptor" Builtin.«method_descriptor.__get__» "builtin_function_or_method" "list.pop" := ⟨lp_type, md_look, md_plain, md_entry, md_kind, md_split, md_self, md_args, fun a b c e => lp_get a b c e⟩
theorem desc_call {dt bt id : String} {bi : Builtin} (Y : Desc dt bi bt id) {x : Addr} {o : Obj} {Q : Value → Shared → Prop} (hx : h.get? x = some o) (ho : o.cls = .ref C) (hi : Looks (model prog w) h (isSubtype (.ref C) (.type "list")) true)
    (hq : Q (.ref h.objs.size) ⟨h.push (boundO bt id x), g, d, t, os⟩) : wpAny (model prog w) A (call (.builtin (dt ++ ".__get__")) [.builtin id, .ref x, .ref C]) Q E ⟨h, g, d, t, os⟩ := by
  have hI : Looks (model prog w) h (isInstance (.builtin id) (.type dt)) true := (Looks.of_pure Y.type).andThen (Looks.of_pure Y.self)
  exact wpAny_call (codeAny_call_builtin Y.plain Y.entry (check_slot Y.kind Y.split hI (Y.args _ _ _) (Y.run hx ho hi hq)))
theorem super_ga {so D x : Addr} {ox : Obj} {l₀ l : List Value} {K : Frag} {name : Str} {tk : Tok} {dt bt id : String} {bi : Builtin} {Q : Fin → Shared → Prop} (Y : Desc dt bi bt id)
    (hso : h.get? so = some { cls := .type "super", dict := none, data := .fields #[.ref D, .ref x, .ref C], slots := #[] }) (hno : Looks (model prog w) h (opaqueClassAbove (.ref C)) none)
    (hC : Looks (model prog w) h (mroOf (.ref C)) l₀) (hl : (l₀.dropWhile (· != .ref D)).drop 1 = l) (X : K.In h)
    (hf : alongIn K name l = some (some (.builtin id))) (hxC : x ≠ C) (hn : (name == ("__class__" : Str)) = false) (hx : h.get? x = some ox) (ho : ox.cls = .ref C) (hi : Looks (model prog w) h (isSubtype (.ref C) (.type "list")) true)
    (hq : Q (.done (.ret (.ref h.objs.size))) ⟨h.push (boundO bt id x), g, d, t, os⟩) :
    wpAny (model prog w) A (Builtin.«super.__getattribute__» ⟨[.ref so, .str name tk], []⟩) Q E ⟨h, g, d, t, os⟩ := by
  have hlk := Y.look
  have hty := Y.type
  have hne : (Value.ref x == Value.ref C) = false := by simp [hxC]
  have hdt : ({ cls := .type "super", dict := none, data := .fields #[.ref D, .ref x, .ref C], slots := #[] } : Obj).data = .fields #[.ref D, .ref x, .ref C] := rfl
  have f0 : (#[.ref D, .ref x, .ref C] : Array Value)[0]? = some (.ref D) := rfl
  have f1 : (#[.ref D, .ref x, .ref C] : Array Value)[1]? = some (.ref x) := rfl
  have f2 : (#[.ref D, .ref x, .ref C] : Array Value)[2]? = some (.ref C) := rfl
  unfold Builtin.«super.__getattribute__»
  repeat (first
    | (with_reducible refine wpAny_field hso hdt f0 ?_) | (with_reducible refine wpAny_field hso hdt f1 ?_) | (with_reducible refine wpAny_field hso hdt f2 ?_)
    | (with_reducible refine ks_wpAny_notOpaque hno ?_)
    | (with_reducible refine Looks.at hC ?_; rw [hl])
    | (refine ks_forIn_along X (fun _ _ => rfl) rfl ?_ hf)
    | (with_reducible refine wpAny_bind (wpAny_of_eq hty ?_))
    | (with_reducible refine desc_call Y hx ho hi ?_)
    | (simp only [hn, hne, Bool.or_false, Bool.false_eq_true, if_false])
    | wp_step
    | dsimp only)
  all_goals first | exact hq | trace_state
theorem super_meth {so D x : Addr} {ox : Obj} {l₀ l : List Value} {K : Frag} {name : Str} {pl : Sem Bool} {dt bt id : String} {bi : Builtin} {Q : Value × List Value → Shared → Prop} (Y : Desc dt bi bt id)
    (hso : h.get? so = some { cls := .type "super", dict := none, data := .fields #[.ref D, .ref x, .ref C], slots := #[] }) (hno : Looks (model prog w) h (opaqueClassAbove (.ref C)) none)
    (hC : Looks (model prog w) h (mroOf (.ref C)) l₀) (hl : (l₀.dropWhile (· != .ref D)).drop 1 = l) (X : K.In h)
    (hf : alongIn K name l = some (some (.builtin id))) (hxC : x ≠ C) (hn : (name == ("__class__" : Str)) = false) (hx : h.get? x = some ox) (ho : ox.cls = .ref C) (hi : Looks (model prog w) h (isSubtype (.ref C) (.type "list")) true)
    (hq : Q (.ref h.objs.size, []) ⟨h.push (boundO bt id x), g, d, t + 1, os⟩) :
    wpAny (model prog w) A (getMethod (.ref so) name pl) Q E ⟨h, g, d, t, os⟩ := by
  have hlk := F.ks_slot_super_ga.lookup
  have hcan := F.ks_canon_super_ga
  have hT : ∀ t', (⟨h, g, d, t', os⟩ : Shared).TypeIs (.ref so) "super" := fun _ => ⟨_, hso, rfl⟩
  unfold getMethod
  refine wpAny_bind (wpAny_specialOf (hT _) hlk ?_)
  show wpAny _ _ (if (Manifest.canonical "super.__getattribute__" != "object.__getattribute__") = true then _ else _) _ _ _
  rw [if_pos hcan]
  unfold getAttr getAttrBy
  refine wpAny_bind (wpAny_bind (wpAny_mkText (wpAny_holding (wpAny_bind (wpAny_typeOf (hT _) (wpAny_bind (wpAny_of_eq hlk ?_)))))))
  show wpAny _ _ (getAttrByItsOwn (.ref so) (.str name t) (.type "super") (.builtin "super.__getattribute__") true false) _ _ _
  unfold getAttrByItsOwn hookBefore callGetattribute boundAndCalled
  refine wpAny_bind (wpAny_of_eq (show (if onTheHeap (.type "super") then typeLookup (.type "super") "__getattr__" else pure none) = pure none from rfl) ?_)
  refine wpAny_bind (wpAny_attempt (wpAny_holding ?_))
  show wpAny _ _ (bindSpecial (.builtin "super.__getattribute__") (.ref so) >>= _) _ _ _
  refine wpAny_bind (wpAny_of_eq (F.ks_slot_super_ga.bind _) ?_)
  refine wpAny_mono (Q := fun v s' => v = .ref h.objs.size ∧ s' = ⟨h.push (boundO bt id x), g, d, t + 1, os⟩) (E := fun _ _ => False)
    (wpAny_call_entry F.ks_slot_super_ga (hT _) F.ks_entry_super_ga (super_ga Y hso hno hC hl X hf hxC hn hx ho hi ⟨_, rfl, rfl, rfl⟩) (F.ks_gaArgs_super _ _)) (fun v s' hv => ?_) fun _ _ z => z.elim
  obtain ⟨rfl, rfl⟩ := hv
  exact wpAny_pure (wpAny_pure hq)
end
section
variable {prog : Program} {w : World} {A : Around} {E : Value → Shared → Prop} {s : Shared} {h₀ : Heap} {L : Addr} {m : Str → Option Value} {news news' : List (Addr × Obj)} {K : Frag} {x C D so : Addr} {ox : Obj} {odx : Option Obj}
theorem subK {h : Heap} (X : K.In h) (e : mroIn K C (.type "list") = some true) : Looks (model prog w) h (isSubtype (.ref C) (.type "list")) true := looks_mroIn X e
theorem super_K {name : Str} {pl : Sem Bool} {dt bt id : String} {bi : Builtin} {Q : Value × List Value → Shared → Prop} (Y : Desc dt bi bt id) (F : Fr h₀ L s.heap m) (X₀ : K.In h₀) (N : News h₀ L s.heap news) (hso : (so, ks_superObj D x C) ∈ news) (I : InstAt s.heap x ox C odx) (ho : nsIn K cStatics "thirdparty.any" = some none)
    (hm : ks_superIn K C D name = some (some (.builtin id))) (hs : mroIn K C (.type "list") = some true) (hn : (name == ("__class__" : Str)) = false)
    (h : ∀ q h', Fr h₀ L h' m → News h₀ L h' ((q, boundO bt id x) :: news) → (∀ p ∈ news, p.1 < q) → Q (.ref q, []) { s with heap := h', toks := s.toks + 1 }) : wpAny (model prog w) A (getMethod (.ref so) name pl) Q E s := by
  have X : K.In s.heap := X₀.keeps F.keep
  obtain ⟨hh, g, d, t, os⟩ := s
  cases hc : clsIn K C with
  | none => unfold ks_superIn at hm; rw [hc] at hm; cases hm
  | some cd =>
    unfold ks_superIn at hm
    rw [hc] at hm
    refine super_meth Y (N _ hso).1 (looks_opaque X ho) (l₀ := cd.mro) ?_ rfl X hm (ks_ne X I hc) hn I.at_ I.cls (subK X hs) ?_
    · exact fun A Q E s k q => wpAny_bind ((looks_clsIn X hc) A _ E s k (wpAny_pure q))
    · obtain ⟨F', N', l'⟩ := ks_newsPush (s := ⟨hh, g, d, t, os⟩) (o := boundO bt id x) F N rfl (Heap.get?_push_at rfl rfl) (fun b o e => Heap.get?_push_of_some _ e)
      exact h _ _ F' N' l'
end
set_option maxRecDepth 100000
set_option maxHeartbeats 4000000
section
variable {prog : Program} {w : World} {M : Model} {A : Around} {C : Addr} {h : Heap} {g : Array GenState} {d : Drawn} {t : Nat} {os : OsState} {E : Value → Shared → Prop}
theorem keeps_B {q x : Addr} {bt id : String} (hb : (Value.type bt != .type "method") = true) (hb2 : (Value.type bt == .type "builtin_function_or_method" || Value.type bt == .type "method-wrapper") = true) (h : Heap) (X : h.get? q = some (boundO bt id x)) :
    ∃ k, (k = Keeper.frame ∨ k = Keeper.machine ∨ k = Keeper.boundFrame) ∧ Looks M h (keeperOf (.ref q)) k := by
  refine ⟨.machine, .inr (.inl rfl), (Looks.ld (part := none) X).andThen ?_⟩
  dsimp only
  rw [hb, if_pos rfl, hb2, if_pos rfl]
  exact .now
theorem callWith_B0 {q x : Addr} {bt id : String} {pos : Pos} {env : Env} {Q : Value → Shared → Prop} (hb : (Value.type bt != .type "method") = true) (hb2 : (Value.type bt == .type "builtin_function_or_method" || Value.type bt == .type "method-wrapper") = true)
    {s : Shared} (X : s.heap.get? q = some (boundO bt id x)) (h : wpAny M A (call (.ref q) []) Q E s) : wpAny M A (callWith pos (.ref q) [] (backTo pos (starEach [] env)) []) Q E s :=
  callWith_of (P := fun h => h.get? q = some (boundO bt id x)) rfl (keeps_B hb hb2) (evalArgs_nil3 ⟨X, h⟩)
theorem ll_bound (x : Addr) : checkBoundCall "list.__len__" ⟨[.ref x], []⟩ = pure () := by kernel_rfl
theorem li_bound (x : Addr) : checkBoundCall "list.__init__" ⟨[.ref x], []⟩ = pure () := by kernel_rfl
theorem ll_plain : plainId "list.__len__" = true := by decide +kernel
theorem li_plain : plainId "list.__init__" = true := by decide +kernel
theorem li_entry : entryFor table "list.__init__" = some Builtin.«list.__init__» := entryFor_of_tree (by kernel_rfl)
theorem lp_plain : plainId "list.pop" = true := by decide +kernel
theorem lp_entry : entryFor table "list.pop" = some Builtin.«list.pop» := entryFor_of_tree (by kernel_rfl)
theorem bound_call {q x : Addr} {id : String} {b : Builtin} {Q : Value → Shared → Prop} (hq : h.get? q = some (boundO "method-wrapper" id x)) (hc : checkBoundCall id ⟨[.ref x], []⟩ = pure ()) (hp : plainId id = true) (he : entryFor table id = some b)
    (k : ∀ A', wpAny (model prog w) A' (b ⟨[.ref x], []⟩) (fun fin s' => ∃ v, fin = .done (.ret v) ∧ Q v s') E ⟨h, g, d, t, os⟩) : wpAny (model prog w) A (call (.ref q) []) Q E ⟨h, g, d, t, os⟩ := by
  refine wpAny_call (codeAny_of_tree ?_)
  show wpAny _ _ (callAny (.ref q) _) _ _ _
  unfold callAny
  refine wpAny_bind (wpAny_load hq ?_)
  dsimp only
  rw [if_pos (by decide)]
  show wpAny _ _ (if (Value.type "method-wrapper" != Value.type "method") = true then (checkBoundCall id ⟨[.ref x], []⟩ >>= fun _ => again (.builtin id ⟨[.ref x], []⟩)) else _) _ _ _
  rw [if_pos (by decide), hc]
  refine wpAny_bind (wpAny_pure (wpAny_pure ⟨plainId_quiet hp _, codeAny_builtin he ?_⟩))
  rw [Around.under_plainId hp _]
  refine wpAny_mono (k _) (fun fin s' hv => ?_) fun _ _ e => e
  obtain ⟨v, rfl, hv⟩ := hv
  exact hv
theorem bound_len {q x dx : Addr} {its : Array Value} {n : Nat} {Q : Value → Shared → Prop} (hq : h.get? q = some (boundO "method-wrapper" "list.__len__" x)) (hx : h.get? x = some (subO C dx its n))
    (k : Q (.int (its.size : Int) t) ⟨h, g, d, t + 1, os⟩) : wpAny (model prog w) A (call (.ref q) []) Q E ⟨h, g, d, t, os⟩ := by
  refine bound_call hq (ll_bound x) ll_plain entry_list_len fun A' => ?_
  unfold Builtin.«list.__len__»
  wp_walk
  exact ⟨_, rfl, k⟩
theorem sub_upd {x dx : Addr} {its : Array Value} {n : Nat} (f : Array Value → Array Value) (hx : h.get? x = some (subO C dx its n)) : ∃ n', (h.update x (Obj.mapSeq f)).get? x = some (subO C dx (f its) n') := by
  refine ⟨_, Heap.get?_update_self _ hx rfl⟩
theorem bound_init {q x dx : Addr} {its : Array Value} {n : Nat} {Q : Value → Shared → Prop} (hq : h.get? q = some (boundO "method-wrapper" "list.__init__" x)) (hx : h.get? x = some (subO C dx its n)) 
    (k : ∀ h' n', Heap.SameBut x h h' → h'.get? x = some (subO C dx #[] n') → Q .none ⟨h', g, d, t, os⟩) : wpAny (model prog w) A (call (.ref q) []) Q E ⟨h, g, d, t, os⟩ := by
  refine bound_call hq (li_bound x) li_plain li_entry fun A' => ?_
  unfold Builtin.«list.__init__»
  wp_walk
  obtain ⟨n', e⟩ := sub_upd (fun _ => #[]) hx
  exact ⟨_, rfl, k _ n' (Heap.SameBut.update ..) e⟩
theorem lp_bound {x dx : Addr} {its : Array Value} {n : Nat} {od : Option Addr} {cd : ClassData} {sl : Array (Option Value)} {Q : Unit → Shared → Prop} (hx : h.get? x = some (subO C dx its n)) (hC : h.get? C = some ⟨.type "type", od, .cls cd, sl⟩) (hqn : (toString cd.qualname.toString ++ toString "." ++ toString (Bind.lastOf "list.pop") != "*") = true) (hm : Looks (model prog w) h (isSubtype (.ref C) (.type "module")) false)
    (k : Q () ⟨h, g, d, t, os⟩) : wpAny (model prog w) A (checkBoundCall "list.pop" ⟨[.ref x], []⟩) Q E ⟨h, g, d, t, os⟩ := by
  have hT : Looks (model prog w) h (typeOf (.ref x)) (.ref C) := (Looks.ld hx).andThen .now
  have hI : Looks (model prog w) h (isInstance (.ref x) (.type "module")) false := hT.andThen hm
  have hT2 : Looks (model prog w) h (typeOf (.ref C)) (.type "type") := (Looks.ld hC).andThen .now
  unfold checkBoundCall
  repeat (first | simp only [Bool.false_eq_true, if_false] | lk)
  repeat (first | simp only [hqn, if_true] | lk)
  exact k
theorem bound_pop {q x dx : Addr} {its : Array Value} {v : Value} {n : Nat} {od : Option Addr} {cd : ClassData} {sl : Array (Option Value)} {Q : Value → Shared → Prop} (hq : h.get? q = some (boundO "builtin_function_or_method" "list.pop" x)) (hx : h.get? x = some (subO C dx (its.push v) n)) 
    (hC : h.get? C = some ⟨.type "type", od, .cls cd, sl⟩) (hqn : (toString cd.qualname.toString ++ toString "." ++ toString (Bind.lastOf "list.pop") != "*") = true) (hm : Looks (model prog w) h (isSubtype (.ref C) (.type "module")) false)
    (k : ∀ h' n', Heap.SameBut x h h' → h'.get? x = some (subO C dx its n') → Q v ⟨h', g, d, t, os⟩) (hsz : (its.push v).size ≤ sizeLine) : wpAny (model prog w) A (call (.ref q) []) Q E ⟨h, g, d, t, os⟩ := by
  refine wpAny_call (codeAny_of_tree ?_)
  show wpAny _ _ (callAny (.ref q) _) _ _ _
  unfold callAny
  refine wpAny_bind (wpAny_load hq ?_)
  dsimp only
  rw [if_pos (by decide)]
  show wpAny _ _ (if (Value.type "builtin_function_or_method" != Value.type "method") = true then (checkBoundCall "list.pop" ⟨[.ref x], []⟩ >>= fun _ => again (.builtin "list.pop" ⟨[.ref x], []⟩)) else _) _ _ _
  rw [if_pos (by decide)]
  refine wpAny_bind (lp_bound hx hC hqn hm (wpAny_pure ⟨plainId_quiet lp_plain _, codeAny_builtin lp_entry ?_⟩))
  rw [Around.under_plainId lp_plain _]
  unfold Builtin.«list.pop»
  wp_walk
  have e : ((seqIndex? (-1) (its.push v).size).bind fun k => Option.map (fun x => (k, x)) (its.push v)[k]?) = some (its.size, v) := by
    have e1 : seqIndex? (-1) (its.push v).size = some its.size := by
      unfold seqIndex?
      rw [Array.size_push]
      have : (-1 : Int) < 0 := by decide
      simp only [this, if_true]
      rw [if_pos (by simp; omega)]
      congr 1
      omega
    rw [e1]
    simp
  rw [e]
  obtain ⟨n', e'⟩ := sub_upd (fun x => x.eraseIdxIfInBounds its.size) hx
  have e2 : (its.push v).eraseIdxIfInBounds its.size = its := by
    unfold Array.eraseIdxIfInBounds
    rw [dif_pos (by rw [Array.size_push]; exact Nat.lt_succ_self _)]
    apply Array.toList_inj.mp
    rw [Array.toList_eraseIdx, Array.toList_push, ← Array.length_toList, List.eraseIdx_append_of_length_le (Nat.le_refl _)]
    simp
  rw [e2] at e'
  show wpAny _ _ (updateSeq x (fun x => x.eraseIdxIfInBounds its.size) >>= fun _ => ret v) _ _ _
  exact wpAny_bind (wpAny_updateSeq hx rfl (wpAny_pure (k _ n' (Heap.SameBut.update ..) e')) hsz (by rw [e2]; have := hsz; rw [Array.size_push] at this; omega))
theorem la_bind (self : Value) : bindSpecial (.builtin "list.append") self = pure (.builtin "list.append", [self]) := slot_list_append.bind self
theorem la_kind : builtinKind "list.append" = some .method := by decide +kernel
theorem la_split : splitId "list.append" = some ("list", "append") := by decide +kernel
theorem la_plain : plainId "list.append" = true := by decide +kernel
theorem check_meth {M : Model} {A : Around} {E : Value → Shared → Prop} {s : Shared} {i owner n : String} {self : Value} {rest : List Value} {kw : List (Str × Value)} {Q : Unit → Shared → Prop}
    (hk : builtinKind i = some .method) (hs : splitId i = some (owner, n)) (hi : Looks M s.heap (isInstance self (.type owner)) true) (ha : argsOk i ⟨self :: rest, kw⟩) (q : Q () s) :
    wpAny M A (checkBuiltinCall i ⟨self :: rest, kw⟩) Q E s := by
  simp only [checkBuiltinCall, hk, hs]
  refine wpAny_bind (hi.here ?_)
  simp only [Bool.not_true, Bool.false_eq_true, if_false]
  cases hsig : Manifest.signature? i with
  | none => exact wpAny_pure q
  | some sig =>
    simp only [argsOk, hsig] at ha
    have h2 : Bind.checkArgs i sig ⟨self :: rest, kw⟩ = pure () := ha
    show wpAny M A (Bind.checkArgs i sig ⟨self :: rest, kw⟩) Q E s
    rw [h2]; exact wpAny_pure q
theorem sub_append {x dx : Addr} {its : Array Value} {v : Value} {n : Nat} {Q : Value → Shared → Prop} (hx : h.get? x = some (subO C dx its n)) (hl : Looks (model prog w) h (isSubtype (.ref C) (.type "list")) true)
    (k : ∀ h' n', Heap.SameBut x h h' → h'.get? x = some (subO C dx (its.push v) n') → Q .none ⟨h', g, d, t, os⟩) (hsz : its.size ≤ sizeLine) : wpAny (model prog w) A (call (.builtin "list.append") [.ref x, v]) Q E ⟨h, g, d, t, os⟩ := by
  have hI : Looks (model prog w) h (isInstance (.ref x) (.type "list")) true := ((Looks.ld hx).andThen .now).andThen hl
  refine wpAny_call (codeAny_call_builtin la_plain entry_list_append (check_meth la_kind la_split hI (args_list_append _ _) ?_))
  show wpAny _ _ (updateSeq x (·.push v) >>= fun _ => ret .none) _ _ _
  obtain ⟨n', e'⟩ := sub_upd (·.push v) hx
  exact wpAny_bind (wpAny_updateSeq hx rfl (wpAny_pure (k _ n' (Heap.SameBut.update ..) e')))
end
set_option maxRecDepth 100000
set_option maxHeartbeats 4000000
section
variable {prog : Program} {w : World} {M : Model} {A : Around} {C : Addr} {h : Heap} {g : Array GenState} {d : Drawn} {t : Nat} {os : OsState} {E : Value → Shared → Prop}
structure SubLooks (M : Model) (h : Heap) (x C : Addr) : Prop where
  ty : Looks M h (typeOf (.ref x)) (.ref C)
  li : Looks M h (isSubtype (.ref C) (.type "list")) true
  dq : Looks M h (isSubtype (.ref C) (.type "collections.deque")) false
  gi : Looks M h (typeLookup (.ref C) "__getitem__") (some (.builtin "list.__getitem__"))
  si : Looks M h (typeLookup (.ref C) "__setitem__") (some (.builtin "list.__setitem__"))
theorem SubLooks.keeps {x : Addr} {h' : Heap} (Y : SubLooks M h x C) (k : ∀ b o, h.get? b = some o → h'.get? b = some o) : SubLooks M h' x C := ⟨Y.ty.keeps k, Y.li.keeps k, Y.dq.keeps k, Y.gi.keeps k, Y.si.keeps k⟩
theorem gi_kind : builtinKind "list.__getitem__" = some .method := by decide +kernel
theorem gi_split : splitId "list.__getitem__" = some ("list", "__getitem__") := by decide +kernel
theorem gi_plain : plainId "list.__getitem__" = true := by decide +kernel
theorem si_kind : builtinKind "list.__setitem__" = some .slot := by decide +kernel
theorem si_split : splitId "list.__setitem__" = some ("list", "__setitem__") := by decide +kernel
theorem si_plain : plainId "list.__setitem__" = true := by decide +kernel
theorem si_entry : entryFor table "list.__setitem__" = some Builtin.«list.__setitem__» := entryFor_of_tree (by kernel_rfl)
theorem si_args (a b c : Value) : argsOk "list.__setitem__" ⟨[a, b, c], []⟩ := by unfold argsOk; kernel_rfl
theorem si_bind (self : Value) : bindSpecial (.builtin "list.__setitem__") self = pure (.builtin "list.__setitem__", [self]) :=
  (Slot.of (T := "list") (name := "__setitem__") (owner := "list") (n := "__setitem__") (by rw [typeLookup_type, builtinLookup_eq_fast]; kernel_rfl) (by decide +kernel) (by decide +kernel) (by decide +kernel)
    (.inl (by decide +kernel)) (by rw [isSubtype_type]; kernel_rfl)).bind self
theorem sub_seqKey {x : Addr} {k : Value} {name : Str} {Q : Value → Shared → Prop} (Y : SubLooks M h x C) (q : Q k ⟨h, g, d, t, os⟩) : wpAny M A (sequenceKey (.ref x) k name) Q E ⟨h, g, d, t, os⟩ := by
  obtain ⟨a, b, c, _, _⟩ := Y
  unfold sequenceKey seqItemTypes
  repeat (first | simp only [List.anyM, Bool.false_eq_true, if_false, Bool.not_false, if_true] | lk)
  exact q
theorem sub_getRun {x sl dx : Addr} {items : Array Value} {n : Nat} {vl vu vs : Value} {lo hi st : Option Int} {Q : Fin → Shared → Prop} (hx : h.get? x = some (subO C dx items n))
    (hs : h.IsSliceOf sl vl vu vs) (pl : IsPart vl lo) (pu : IsPart vu hi) (ps : IsPart vs st) (h0 : st ≠ some 0)
    (k : Q (.done (.ret (.ref h.objs.size))) ⟨h.push { cls := .type "list", data := .seq (slicePick items lo hi st) }, g, d, t, os⟩)
    (hsz : items.size ≤ sizeLine) : wpAny (model prog w) A (Builtin.«list.__getitem__» ⟨[.ref x, .ref sl], []⟩) Q E ⟨h, g, d, t, os⟩ := by
  obtain ⟨osl, hos, hcs, hds⟩ := id hs
  have hTs : (⟨h, g, d, t, os⟩ : Shared).TypeIs (.ref sl) "slice" := ⟨osl, hos, hcs⟩
  show wpAny _ _ (Builtin.List.listSubscript? (.ref sl) >>= _) _ _ _
  refine wpAny_bind ?_
  · unfold Builtin.List.listSubscript?
    refine wpAny_bind (wpAny_specialOf hTs slice_no_index ?_)
    simp only [Option.isNone_none, if_true]
    refine wpAny_pure ?_
    show wpAny _ _ (typeOf (.ref sl) >>= _) _ _ _
    refine wpAny_bind (wpAny_typeOf hTs ?_)
    rw [if_neg (by decide)]
    rw [listSliceParts_eq]
    have hstep : ¬ ((rawPart st == rawInt 0) = true) := by
      cases st with
      | none => exact Bool.false_ne_true
      | some c =>
        intro hh
        have : c = 0 := by simpa [rawPart, rawInt] using hh
        exact h0 (by rw [this])
    refine wpAny_bind (wpAny_bind (wpAny_field hos hds (x := vs) rfl (wpAny_bind (wpAny_listPart ps ?_))))
    rw [if_neg hstep]
    refine wpAny_bind (wpAny_field hos hds (x := vl) rfl (wpAny_bind (wpAny_listPart pl ?_)))
    refine wpAny_bind (wpAny_field hos hds (x := vu) rfl (wpAny_bind (wpAny_listPart pu (wpAny_pure ?_))))
    refine wpAny_bind (m := Builtin.List.listItems (.ref x)) ?_
    · unfold Builtin.List.listItems
      refine wpAny_bind (wpAny_seqItems hx rfl (wpAny_pure ?_))
      refine wpAny_bind (wpAny_of_eq (sliceIndices_raw lo hi st items.size h0) ?_)
      exact wpAny_bind (wpAny_newObj_type (wpAny_pure k) (Nat.le_trans (slicePick_size_le items lo hi st) hsz))
theorem sub_setRun {x sl dx e : Addr} {items : Array Value} {n a : Nat} {u : Tok} {Q : Fin → Shared → Prop} (hx : h.get? x = some (subO C dx items n))
    (hs : h.IsSliceOf sl (.int a u) .none .none) (ha : a ≤ items.size) (he : h.IsList e #[]) (hne : x ≠ e)
    (k : ∀ h' n', Heap.SameBut x h h' → h'.get? x = some (subO C dx (items.extract 0 a) n') → Q (.done (.ret .none)) ⟨h', g, d, t, os⟩)
    (hsz : items.size ≤ 1000) : wpAny (model prog w) A (Builtin.«list.__setitem__» ⟨[.ref x, .ref sl, .ref e], []⟩) Q E ⟨h, g, d, t, os⟩ := by
  obtain ⟨osl, hos, hcs, hds⟩ := id hs
  obtain ⟨oe, hoe, hce, ne, hde⟩ := id he
  have hTs : (⟨h, g, d, t, os⟩ : Shared).TypeIs (.ref sl) "slice" := ⟨osl, hos, hcs⟩
  have hTe : (⟨h, g, d, t, os⟩ : Shared).TypeIs (.ref e) "list" := ⟨oe, hoe, hce⟩
  show wpAny _ _ (Builtin.List.listSubscript? (.ref sl) >>= _) _ _ _
  refine wpAny_bind ?_
  · unfold Builtin.List.listSubscript?
    refine wpAny_bind (wpAny_specialOf hTs slice_no_index ?_)
    simp only [Option.isNone_none, if_true]
    refine wpAny_pure ?_
    show wpAny _ _ (typeOf (.ref sl) >>= _) _ _ _
    refine wpAny_bind (wpAny_typeOf hTs ?_)
    rw [if_neg (by decide)]
    rw [listSliceParts_eq]
    refine wpAny_bind (wpAny_bind (wpAny_field hos hds (x := .none) rfl (wpAny_bind (wpAny_listPart .none ?_))))
    rw [if_neg (by exact Bool.false_ne_true)]
    refine wpAny_bind (wpAny_field hos hds (x := .int a u) rfl (wpAny_bind (wpAny_listPart (.int a u) ?_)))
    refine wpAny_bind (wpAny_field hos hds (x := .none) rfl (wpAny_bind (wpAny_listPart .none (wpAny_pure ?_))))
    have hsr : Builtin.List.listSameRef (.ref x) (.ref e) = false := by
      show (x == e) = false
      simp [hne]
    rw [hsr]
    simp only [Bool.false_eq_true, if_false]
    unfold Builtin.List.listAllItems
    refine wpAny_bind (wpAny_bind (wpAny_typeOf hTe ?_))
    rw [if_pos (by decide)]
    unfold Builtin.List.listItems
    refine wpAny_bind (wpAny_seqItems hoe hde (wpAny_pure ?_))
    refine wpAny_bind (wpAny_bind (wpAny_seqItems hx rfl (wpAny_pure ?_)))
    refine wpAny_bind (wpAny_of_eq (sliceIndices_raw (some a) none none items.size (by simp)) ?_)
    have eb : sliceBounds (some (a : Int)) none none items.size = ((a : Int), (items.size : Int), 1) := by
      simp only [sliceBounds, Option.getD_none]
      have h1 : ¬ ((a : Int) < 0) := by omega
      simp only [h1, if_false, show (1 : Int) > 0 by decide, if_true]
      congr 1
      omega
    rw [eb]
    rw [if_pos (show (((a : Int), (items.size : Int), (1 : Int)).2.snd == 1) = true from rfl)]
    refine wpAny_bind (wpAny_rule ?_)
    have hz : ¬ (Builtin.List.listTooLong (items.size + (#[] : Array Value).size) = true) := by
      unfold Builtin.List.listTooLong
      rw [decide_eq_true_eq, sizeLine_eq]
      have : (#[] : Array Value).size = 0 := rfl
      omega
    rw [if_neg hz]
    have e1 : ((a : Int)).toNat = a := rfl
    have e2 : (max (a : Int) (items.size : Int)).toNat = items.size := by omega
    have e3 : (items.extract 0 a ++ #[] ++ items.extract items.size items.size) = items.extract 0 a := by simp
    obtain ⟨n', e'⟩ := sub_upd (fun xs : Array Value => xs.extract 0 a ++ #[] ++ xs.extract items.size xs.size) hx
    rw [e3] at e'
    dsimp only
    rw [e1, e2]
    refine wpAny_bind (m := updateSeq x fun xs : Array Value => xs.extract 0 a ++ #[] ++ xs.extract items.size xs.size) (wpAny_updateSeq hx rfl ?_ (by rw [sizeLine_eq]; omega) (by rw [e3, sizeLine_eq, Array.size_extract]; omega))
    refine wpAny_bind (wpAny_letGo ?_)
    exact wpAny_pure (k _ n' (Heap.SameBut.update ..) e')
theorem call_gi {x sl : Addr} {Q : Value → Shared → Prop} (hI : Looks (model prog w) h (isInstance (.ref x) (.type "list")) true)
    (k : wpAny (model prog w) A.in1 (Builtin.«list.__getitem__» ⟨[.ref x, .ref sl], []⟩) (fun fin s' => ∃ v, fin = .done (.ret v) ∧ Q v s') E ⟨h, g, d, t, os⟩) : wpAny (model prog w) A (call (.builtin "list.__getitem__") [.ref x, .ref sl]) Q E ⟨h, g, d, t, os⟩ := by
  refine wpAny_call (codeAny_call_builtin gi_plain entry_list_getitem (@check_meth (model prog w) _ _ ⟨h, g, d, t, os⟩ "list.__getitem__" "list" "__getitem__" (.ref x) [.ref sl] [] _ gi_kind gi_split hI (args_list_getitem (.ref x) (.ref sl)) (wpAny_mono k (fun fin s' h' => ?_) fun _ _ h' => h')))
  obtain ⟨v, rfl, hv⟩ := h'; exact hv
theorem call_si {x sl e : Addr} {Q : Value → Shared → Prop} (hI : Looks (model prog w) h (isInstance (.ref x) (.type "list")) true)
    (k : wpAny (model prog w) A.in1 (Builtin.«list.__setitem__» ⟨[.ref x, .ref sl, .ref e], []⟩) (fun fin s' => ∃ v, fin = .done (.ret v) ∧ Q v s') E ⟨h, g, d, t, os⟩) : wpAny (model prog w) A (call (.builtin "list.__setitem__") [.ref x, .ref sl, .ref e]) Q E ⟨h, g, d, t, os⟩ := by
  refine wpAny_call (codeAny_call_builtin si_plain si_entry (@check_slot (model prog w) _ _ ⟨h, g, d, t, os⟩ "list.__setitem__" "list" "__setitem__" (.ref x) [.ref sl, .ref e] [] _ si_kind si_split hI (si_args (.ref x) (.ref sl) (.ref e)) (wpAny_mono k (fun fin s' h' => ?_) fun _ _ h' => h')))
  obtain ⟨v, rfl, hv⟩ := h'; exact hv
theorem sub_special {x : Addr} {name : Str} {id : String} {args : List Value} {Q : Option Value → Shared → Prop} (hty : Looks M h (typeOf (.ref x)) (.ref C)) (hgi : Looks M h (typeLookup (.ref C) name) (some (.builtin id))) (hbi : bindSpecial (.builtin id) (.ref x) = pure (.builtin id, [.ref x]))
    (k : wpAny M A (call (.builtin id) (.ref x :: args)) (fun v s' => Q (some v) s') E ⟨h, g, d, t, os⟩) : wpAny M A (callSpecial? (.ref x) name args) Q E ⟨h, g, d, t, os⟩ := by
  unfold callSpecial? specialOf
  refine wpAny_bind (wpAny_bind (hty.at (hgi.at ?_)))
  refine wpAny_holding (wpAny_bind (wpAny_of_eq hbi ?_))
  exact wpAny_bind (wpAny_mono k (fun v s' hv => wpAny_pure hv) fun _ _ e => e)
theorem sub_getSlice {x sl dx : Addr} {items : Array Value} {n : Nat} {vl vu vs : Value} {lo hi st : Option Int} {Q : Value → Shared → Prop} (Y : SubLooks (model prog w) h x C) (hx : h.get? x = some (subO C dx items n))
    (hs : h.IsSliceOf sl vl vu vs) (pl : IsPart vl lo) (pu : IsPart vu hi) (ps : IsPart vs st) (h0 : st ≠ some 0)
    (k : Q (.ref h.objs.size) ⟨h.push { cls := .type "list", data := .seq (slicePick items lo hi st) }, g, d, t, os⟩)
    (hsz : items.size ≤ sizeLine) : wpAny (model prog w) A (getItem (.ref x) (.ref sl)) Q E ⟨h, g, d, t, os⟩ := by
  have hI : Looks (model prog w) h (isInstance (.ref x) (.type "list")) true := Y.ty.andThen Y.li
  unfold getItem
  refine wpAny_holding (wpAny_bind (sub_seqKey Y (wpAny_bind (sub_special Y.ty Y.gi (slot_list_getitem.bind (.ref x)) ?_))))
  exact call_gi hI (sub_getRun hx hs pl pu ps h0 ⟨_, rfl, wpAny_pure k⟩ hsz)
theorem sub_setSlice {x sl dx e : Addr} {items : Array Value} {n a : Nat} {u : Tok} {Q : Unit → Shared → Prop} (Y : SubLooks (model prog w) h x C) (hx : h.get? x = some (subO C dx items n))
    (hs : h.IsSliceOf sl (.int a u) .none .none) (ha : a ≤ items.size) (he : h.IsList e #[]) (hne : x ≠ e)
    (k : ∀ h' n', Heap.SameBut x h h' → h'.get? x = some (subO C dx (items.extract 0 a) n') → Q () ⟨h', g, d, t, os⟩)
    (hsz : items.size ≤ 1000) : wpAny (model prog w) A (setItem (.ref x) (.ref sl) (.ref e)) Q E ⟨h, g, d, t, os⟩ := by
  have hI : Looks (model prog w) h (isInstance (.ref x) (.type "list")) true := Y.ty.andThen Y.li
  unfold setItem
  refine wpAny_holding (wpAny_bind (sub_seqKey Y (wpAny_bind (sub_special Y.ty Y.si (si_bind (.ref x)) ?_))))
  exact call_si hI (sub_setRun hx hs ha he hne (fun h' n' e1 e2 => ⟨_, rfl, wpAny_pure (k h' n' e1 e2)⟩) hsz)
end
set_option maxRecDepth 100000
set_option maxHeartbeats 4000000
theorem refuse_list (self : Value) : refuseLoop self "__setattr__" [.type "list", .type "object"] = pure () := by kernel_rfl
section
variable {prog : Program} {w : World} {A : Around} {C x dx : Addr} {s : Shared} {E : Value → Shared → Prop} {h₀ : Heap} {L : Addr} {m : Str → Option Value} {K : Frag} {its : Array Value} {n : Nat}
theorem setL {cd : ClassData} {name : Str} {v : Value} {rest : List (Addr × Obj)} {Q : Unit → Shared → Prop} (F : Fr h₀ L s.heap m) (N : News h₀ L s.heap ((x, subO C dx its n) :: (dx, dictOf [] 0) :: rest)) (X₀ : K.In h₀)
    (hs : findIn K (.ref C) "__setattr__" = some (some (.builtin "object.__setattr__"))) (hc : clsIn K C = some cd) (hmro : cd.mro = [.ref C, .type "list", .type "object"]) (ht : findIn K (.ref C) name = some none) (hhd : cd.hasDict = true) (ne1 : x ≠ dx) (ne2 : ∀ p ∈ rest, p.1 ≠ dx)
    (h : ∀ h' k, Fr h₀ L h' m → News h₀ L h' ((x, subO C dx its n) :: (dx, dictOf [⟨PyData.keyHash w.params name, .str name (s.toks + 1), v⟩] k) :: rest) → Q () { s with heap := h', toks := s.toks + 2 }) :
    wpAny (model prog w) A (setAttr (.ref x) name v) Q E s := by
  have SF := PySem.F.store_object
  have X := X₀.keeps F.keep
  have hx := (N _ (.head _)).1
  have hd := (N _ (.tail _ (.head _))).1
  have I : InstAt s.heap x (subO C dx its n) C (some (dictOf [] 0)) := ⟨hx, rfl, rfl, hd⟩
  have sub : Looks (model prog w) s.heap (isInstance (.ref x) (.type "object")) true := I.type.andThen (looks_mroIn X (by unfold mroIn; rw [hc, Option.bind_some, hmro]; simp))
  have hm : Looks (model prog w) s.heap (mroOf (.ref C)) cd.mro := (looks_clsIn X hc).andThen .now
  obtain ⟨hh, g, d, t, os⟩ := s
  refine set_plain X I hs (codeAny_call_builtin SF.slot.plain SF.entry (@check_slot (model prog w) _ _ ⟨hh, g, d, t + 1, os⟩ "object.__setattr__" "object" "__setattr__" (.ref x) [.str name t, v] [] _ SF.kind SF.split sub (SF.args (.ref x) (.str name t) v) ?_))
  rw [osa_eq, refuse_eq]
  refine wpAny_bind (wpAny_bind (I.type.at (wpAny_bind (hm.at ?_))))
  rw [hmro, refuseLoop_ref, refuse_list]
  refine wpAny_pure (wpAny_bind (I.type.at (wpAny_bind ((looks_findIn X ht).at (wpAny_bind (wpAny_pure ?_))))))
  refine wpAny_bind (wpAny_pure (wpAny_bind (wpAny_bind (wpAny_loadPart hx (wpAny_bind ((looks_clsIn X hc).at ?_))))))
  rw [hhd]
  refine wpAny_pure (a := some dx) (wpAny_bind (wpAny_pure (wpAny_bind ?_)))
  unfold nsSet
  refine wpAny_bind (wpAny_bind (wpAny_askSetting (wpAny_pure (wpAny_bind (wpAny_mkText (wpAny_bind (wpAny_loadPart hd ?_)))))))
  have e : Obj.putName name (PyData.keyHash w.params name) (.str name (t + 1)) v (dictOf [] 0) = dictOf [⟨PyData.keyHash w.params name, .str name (t + 1), v⟩] (putN name [] 0) := putName_dict ..
  obtain ⟨U1, U2⟩ := news_upd (pre := [(x, subO C dx its n)]) (post := rest) (f := Obj.putName name (PyData.keyHash w.params name) (.str name (t + 1)) v) F N (fun p hp => by rw [List.mem_singleton.mp hp]; exact ne1) ne2 e rfl
  have D' := (U2 _ (.tail _ (.head _))).1
  have c : aRefKeyMayBeTheName name #[] = false := by rw [aRefKeyMayBeTheName_at]; simp
  dsimp only
  show wpAny _ _ (if aRefKeyMayBeTheName name #[] = true then _ else _) _ _ _
  rw [c]
  refine wpAny_updatePart hd ?_
  refine wpAny_bind (wpAny_lookBehind D' (pastItsLine_dict (by rw [sizeLine_eq]; exact Nat.le_of_ble_eq_true rfl)) ?_)
  exact wpAny_pure (h _ _ U1 U2)
end
set_option maxRecDepth 100000
set_option maxHeartbeats 8000000
section
variable {prog : Program} {w : World} {A : Around} {E : Value → Shared → Prop} {s : Shared} {h₀ : Heap} {L : Addr} {m : Str → Option Value} {news news' : List (Addr × Obj)} {x C q dx : Addr} {its : Array Value} {n : Nat}
theorem callWith_BK {bt id : String} {pos : Pos} {env : Env} {Q : Value → Shared → Prop} (hb : (Value.type bt != .type "method") = true) (hb2 : (Value.type bt == .type "builtin_function_or_method" || Value.type bt == .type "method-wrapper") = true)
    (N : News h₀ L s.heap news) (X : (q, boundO bt id x) ∈ news) (h : wpAny (model prog w) A (call (.ref q) []) Q E s) : wpAny (model prog w) A (callWith pos (.ref q) [] (backTo pos (starEach [] env)) []) Q E s := callWith_B0 hb hb2 (N _ X).1 h
theorem bound_pop_K {K : Frag} {v : Value} {f : Nat → List (Addr × Obj)} {od : Option Addr} {cd : ClassData} {sl : Array (Option Value)} {Q : Value → Shared → Prop} (N : News h₀ L s.heap news) (Z : (q, boundO "builtin_function_or_method" "list.pop" x) ∈ news) (U : ∀ n', Upd x (subO C dx (its.push v) n) (subO C dx its n') news (f n')) (F : Fr h₀ L s.heap m) (X₀ : K.In h₀) (hC : K.lookup C = some ⟨.type "type", od, .cls cd, sl⟩)
    (hqn : (toString cd.qualname.toString ++ toString "." ++ toString (Bind.lastOf "list.pop") != "*") = true) (hm : mroIn K C (.type "module") = some false) (hz : its.size ≤ 1000)
    (k : ∀ n' h', Fr h₀ L h' m → News h₀ L h' (f n') → Q v { s with heap := h' }) : wpAny (model prog w) A (call (.ref q) []) Q E s := by
  have X := X₀.keeps F.keep
  have hx : (x, subO C dx (its.push v) n) ∈ news := by
    obtain ⟨pre, post, e, _, _, _⟩ := (U 0).split
    rw [e]; exact List.mem_append.mpr (.inr (.head _))
  have e1 := (N _ hx).1
  have e2 := N _ hx
  have e3 := (N _ Z).1
  have key : ∀ n' h', Heap.SameBut x s.heap h' → h'.get? x = some (subO C dx its n') → Fr h₀ L h' m ∧ News h₀ L h' (f n') := fun n' h' sb e => by
    obtain ⟨pre, post, e4, e5, a, b⟩ := (U n').split
    rw [e5]
    rw [e4] at N
    exact ⟨F.change sb e2.2.1 e2.2.2, news_set N a b sb e⟩
  obtain ⟨hh, g, d, t, os⟩ := s
  refine bound_pop e3 e1 (X _ _ hC) hqn (looks_mroIn X hm) (fun h' n' sb e2 => k n' h' (key n' h' sb e2).1 (key n' h' sb e2).2) (by rw [Array.size_push, sizeLine_eq]; omega)
theorem upd_key {its its' : Array Value} {f : Nat → List (Addr × Obj)} (N : News h₀ L s.heap news) (U : ∀ n', Upd x (subO C dx its n) (subO C dx its' n') news (f n')) (F : Fr h₀ L s.heap m) :
    s.heap.get? x = some (subO C dx its n) ∧ ∀ n' h', Heap.SameBut x s.heap h' → h'.get? x = some (subO C dx its' n') → Fr h₀ L h' m ∧ News h₀ L h' (f n') := by
  have hx : (x, subO C dx its n) ∈ news := by
    obtain ⟨pre, post, e, _, _, _⟩ := (U 0).split
    rw [e]; exact List.mem_append.mpr (.inr (.head _))
  have e2 := N _ hx
  refine ⟨e2.1, fun n' h' sb e => ?_⟩
  obtain ⟨pre, post, e4, e5, a, b⟩ := (U n').split
  rw [e5]
  rw [e4] at N
  exact ⟨F.change sb e2.2.1 e2.2.2, news_set N a b sb e⟩
theorem append_sub_K {K : Frag} {v : Value} {f : Nat → List (Addr × Obj)} {Q : Value → Shared → Prop} (N : News h₀ L s.heap news) (U : ∀ n', Upd x (subO C dx its n) (subO C dx (its.push v) n') news (f n')) (F : Fr h₀ L s.heap m) (X₀ : K.In h₀) (hm : mroIn K C (.type "list") = some true) (hz : its.size ≤ 1000)
    (k : ∀ n' h', Fr h₀ L h' m → News h₀ L h' (f n') → Q .none { s with heap := h' }) : wpAny (model prog w) A (call (.builtin "list.append") [.ref x, v]) Q E s := by
  obtain ⟨e1, key⟩ := upd_key N U F
  have X := X₀.keeps F.keep
  obtain ⟨hh, g, d, t, os⟩ := s
  exact sub_append e1 (subK X hm) (fun h' n' sb e2 => k n' h' (key n' h' sb e2).1 (key n' h' sb e2).2) (by rw [sizeLine_eq]; omega)
theorem subLooks_of {K : Frag} {h : Heap} (X : K.In h) {o : Obj} (hx : h.get? x = some o) (hc : o.cls = .ref C) (h1 : mroIn K C (.type "list") = some true) (h2 : mroIn K C (.type "collections.deque") = some false)
    (h3 : findIn K (.ref C) "__getitem__" = some (some (.builtin "list.__getitem__"))) (h4 : findIn K (.ref C) "__setitem__" = some (some (.builtin "list.__setitem__"))) : SubLooks (model prog w) h x C :=
  ⟨by have z : Looks (model prog w) h (typeOf (.ref x)) o.cls := (Looks.ld hx).andThen .now
      rw [hc] at z; exact z, looks_mroIn X h1, looks_mroIn X h2, looks_findIn X h3, looks_findIn X h4⟩
theorem sub_slice {K : Frag} {value slice : Expr} {vl vu : Value} {lo hi : Option Int} {Q : Value → Shared → Prop} (F : Fr h₀ L s.heap m) (N : News h₀ L s.heap news) (X₀ : K.In h₀) (hx : (x, subO C dx its n) ∈ news) (pl : IsPart vl lo) (pu : IsPart vu hi) (h1 : mroIn K C (.type "list") = some true) (h2 : mroIn K C (.type "collections.deque") = some false)
    (h3 : findIn K (.ref C) "__getitem__" = some (some (.builtin "list.__getitem__"))) (h4 : findIn K (.ref C) "__setitem__" = some (some (.builtin "list.__setitem__"))) (hz : its.size ≤ 1000)
    (h : ∀ D h', Fr h₀ L h' m → News h₀ L h' ((D, { cls := .type "list", data := .seq (slicePick its lo hi none) }) :: news) → (∀ p ∈ news, p.1 < D) → Q (.ref D) { s with heap := h' })
    (hs : subscripted slice false (.ref x) (.ref s.heap.objs.size) = operate [.ref s.heap.objs.size, .ref x] (getItem (.ref x) (.ref s.heap.objs.size)))
    (hg : ∀ r, letTemporaryGo value (.ref x) r = pure ()) :
    wpAny (model prog w) A (subscriptTail value slice (.ref x) (.ref s.heap.objs.size)) Q E { s with heap := s.heap.push { cls := .type "slice", data := .fields #[vl, vu, .none] } } := by
  obtain ⟨hh, g, d, t, os⟩ := s
  have F1 := F.push { cls := .type "slice", data := .fields #[vl, vu, .none] }
  have N0 : News h₀ L (hh.push { cls := .type "slice", data := .fields #[vl, vu, .none] }) news := N.grown fun _ _ e => Heap.get?_push_of_some _ e
  have X1 := X₀.keeps F1.keep
  have e1 := (N0 _ hx).1
  have Y : SubLooks (model prog w) _ x C := subLooks_of X1 e1 rfl h1 h2 h3 h4
  have N1 := News.push F1 N0 { cls := .type "list", data := .seq (slicePick its lo hi none) }
  rw [Heap.size_push] at N1
  unfold subscriptTail getitemInPython specialOf
  refine wpAny_bind (wpAny_bind (wpAny_bind (Y.ty.here (Y.gi.here (wpAny_pure ?_)))))
  have hget : wpAny (model prog w) A (getItem (.ref x) (.ref hh.objs.size)) Q E ⟨hh.push { cls := .type "slice", data := .fields #[vl, vu, .none] }, g, d, t, os⟩ := by
    refine sub_getSlice Y e1 (Heap.IsSliceOf.new ..) pl pu .none (by simp) ?_ (by rw [sizeLine_eq]; omega)
    rw [Heap.size_push]
    exact h _ _ (F1.push _) N1 fun p hp => Nat.lt_succ_of_lt (Heap.lt_size (N p hp).1)
  have fin : wpAny (model prog w) A (subscripted slice false (.ref x) (.ref hh.objs.size)) (fun r s₃ => wpAny (model prog w) A (letTemporaryGo value (.ref x) r >>= fun _ => pure r) Q E s₃) E ⟨hh.push { cls := .type "slice", data := .fields #[vl, vu, .none] }, g, d, t, os⟩ := by
    rw [hs]
    exact wpAny_operating (wpAny_mono hget (fun r s₃ h₃ => wpAny_bind (wpAny_of_eq (hg r) (wpAny_pure h₃))) fun _ _ x => x)
  first
    | exact fin
    | exact wpAny_pure (wpAny_bind fin)
    | exact wpAny_bind (wpAny_pure (wpAny_bind fin))
    | exact wpAny_bind fin
theorem sub_setAt {K : Frag} {e : Addr} {a : Nat} {u : Tok} {f : Nat → List (Addr × Obj)} {Q : Unit → Shared → Prop} (F : Fr h₀ L s.heap m) (N : News h₀ L s.heap news) (X₀ : K.In h₀) (U : ∀ n', Upd x (subO C dx its n) (subO C dx (its.extract 0 a) n') news (f n')) (he : (e, listOf #[] 0) ∈ news) (hne : x ≠ e) (ha : a ≤ its.size) (h1 : mroIn K C (.type "list") = some true) (h2 : mroIn K C (.type "collections.deque") = some false)
    (h3 : findIn K (.ref C) "__getitem__" = some (some (.builtin "list.__getitem__"))) (h4 : findIn K (.ref C) "__setitem__" = some (some (.builtin "list.__setitem__"))) (hz : its.size ≤ 1000)
    (h : ∀ n' h', Fr h₀ L h' m → News h₀ L h' (f n') → Q () { s with heap := h' }) :
    wpAny (model prog w) A (setItem (.ref x) (.ref s.heap.objs.size) (.ref e)) Q E { s with heap := s.heap.push { cls := .type "slice", data := .fields #[.int a u, .none, .none] } } := by
  obtain ⟨e0, key⟩ := upd_key (s := { s with heap := s.heap.push { cls := .type "slice", data := .fields #[.int a u, .none, .none] } }) (N.grown fun _ _ e => Heap.get?_push_of_some _ e) U (F.push _)
  obtain ⟨hh, g, d, t, os⟩ := s
  have F1 := F.push { cls := .type "slice", data := .fields #[.int a u, .none, .none] }
  have N0 : News h₀ L (hh.push { cls := .type "slice", data := .fields #[.int a u, .none, .none] }) news := N.grown fun _ _ e => Heap.get?_push_of_some _ e
  have X1 := X₀.keeps F1.keep
  have Y : SubLooks (model prog w) _ x C := subLooks_of X1 e0 rfl h1 h2 h3 h4
  exact sub_setSlice Y e0 (Heap.IsSliceOf.new ..) ha ⟨_, (N0 _ he).1, rfl, _, rfl⟩ hne (fun h' n' sb e2 => h n' h' (key n' h' sb e2).1 (key n' h' sb e2).2) hz
theorem bound_init_K {f : Nat → List (Addr × Obj)} {Q : Value → Shared → Prop} (N : News h₀ L s.heap news) (Z : (q, boundO "method-wrapper" "list.__init__" x) ∈ news) (U : ∀ n', Upd x (subO C dx its n) (subO C dx #[] n') news (f n')) (F : Fr h₀ L s.heap m)
    (k : ∀ n' h', Fr h₀ L h' m → News h₀ L h' (f n') → Q .none { s with heap := h' }) : wpAny (model prog w) A (call (.ref q) []) Q E s := by
  obtain ⟨e1, key⟩ := upd_key N U F
  have e3 := (N _ Z).1
  obtain ⟨hh, g, d, t, os⟩ := s
  exact bound_init e3 e1 (fun h' n' sb e2 => k n' h' (key n' h' sb e2).1 (key n' h' sb e2).2)
theorem methL {A : Around} {od : Option Obj} {ox : Obj} {K : Frag} {f tf : Value} {name : Str} {pl : Sem Bool} {Q : Value × List Value → Shared → Prop} (X : K.In s.heap) (I : InstAt s.heap x ox C od) (hga : findIn K (.ref C) "__getattribute__" = some (some (.builtin "list.__getattribute__"))) (hk : findIn K (.ref C) "__getattr__" = some none)
    (hf : findIn K (.ref C) name = some (some f)) (ht : Looks (model prog w) s.heap (typeOf f) tf) (htf : ¬ ((tf != .type "function" && tf != .type "method_descriptor" && tf != .type "wrapper_descriptor") = true)) (hs : shadowIn od name = some false) (h : Q (f, [.ref x]) s) :
    wpAny (model prog w) A (getMethod (.ref x) name pl) Q E s := by
  unfold getMethod specialOf
  refine wpAny_bind (wpAny_bind (I.type.here ((looks_findIn X hga).here ?_)))
  dsimp only
  rw [canon_list_getattribute, if_neg (by decide)]
  refine wpAny_bind (wpAny_bind (I.type.here ((looks_findIn X hk).here ?_)))
  refine wpAny_bind (wpAny_bind (I.type.here ((looks_findIn X hf).here (wpAny_bind (ht.here ?_)))))
  rw [if_neg htf]
  refine wpAny_bind (wpAny_loadPart I.at_ ?_)
  have hd := I.dict
  cases e : ox.dict with
  | none => exact wpAny_bind (wpAny_rule (wpAny_pure h))
  | some dx =>
    cases od with
    | none => rw [e] at hd; exact hd.elim
    | some o =>
      rw [e] at hd
      obtain ⟨r, a, b⟩ := Option.map_eq_some_iff.mp hs
      refine wpAny_bind (wpAny_bind (wpAny_loadPart hd ?_))
      rw [nsLook_of a]
      refine wpAny_pure ?_
      rw [b]
      exact wpAny_bind (wpAny_rule (wpAny_pure h))
theorem methL_fn {K : Frag} {es : List DictEntry} {n : Nat} {ox : Obj} {f : Addr} {name : Str} {pl : Sem Bool} {Q : Value × List Value → Shared → Prop} (F : Fr h₀ L s.heap m) (X₀ : K.In h₀) (I : InstAt s.heap x ox C (some (dictOf es n))) (hga : findIn K (.ref C) "__getattribute__" = some (some (.builtin "list.__getattribute__"))) (hk : findIn K (.ref C) "__getattr__" = some none)
    (hf : findIn K (.ref C) name = some (some (.ref f))) (ht : isFn K (.ref f) = true) (hl : getL name es = some none) (h : Q (.ref f, [.ref x]) s) : wpAny (model prog w) A (getMethod (.ref x) name pl) Q E s :=
  methL (X₀.keeps F.keep) I hga hk hf (looks_typeIn (X₀.keeps F.keep) (beq_iff_eq.mp ht)) (by decide +kernel) (by show (lookIn name (dictOf es n)).map _ = _; rw [lookIn_dict, hl]; rfl) h
theorem methL_app {K : Frag} {es : List DictEntry} {n : Nat} {ox : Obj} {name : Str} {pl : Sem Bool} {Q : Value × List Value → Shared → Prop} (F : Fr h₀ L s.heap m) (X₀ : K.In h₀) (I : InstAt s.heap x ox C (some (dictOf es n))) (hga : findIn K (.ref C) "__getattribute__" = some (some (.builtin "list.__getattribute__"))) (hk : findIn K (.ref C) "__getattr__" = some none)
    (hf : findIn K (.ref C) name = some (some (.builtin "list.append"))) (hl : getL name es = some none) (h : Q (.builtin "list.append", [.ref x]) s) : wpAny (model prog w) A (getMethod (.ref x) name pl) Q E s :=
  methL (X₀.keeps F.keep) I hga hk hf (Looks.of_pure type_list_append) (by decide +kernel) (by show (lookIn name (dictOf es n)).map _ = _; rw [lookIn_dict, hl]; rfl) h
theorem bound_len_K {Q : Value → Shared → Prop} {z : Int} (N : News h₀ L s.heap news) (X : (q, boundO "method-wrapper" "list.__len__" x) ∈ news) (Y : (x, subO C dx its n) ∈ news)
    (e : (its.size : Int) = z) (k : Q (.int z s.toks) { s with toks := s.toks + 1 }) : wpAny (model prog w) A (call (.ref q) []) Q E s := by
  subst e
  obtain ⟨hh, g, d, t, os⟩ := s
  exact bound_len (N _ X).1 (N _ Y).1 k
end
local macro_rules | `(tactic| k_inst) => `(tactic| (k_extra "g21"; refine' instOfSub ?N ?h1 ?h2; k_extra "a21"))
local macro_rules | `(tactic| walk_at "m_super ll_desc") => `(tactic| (k_extra "g22"; k_dflt (refine' super_K ll_desc ?k1 ?k2 ?k3 ?k4 ?k5 ?k6 ?k7 ?k8 ?k9 ?_; k_extra "a22")))
local macro_rules | `(tactic| walk_at "m_super li_desc") => `(tactic| (k_extra "g23"; k_dflt (refine' super_K li_desc ?k1 ?k2 ?k3 ?k4 ?k5 ?k6 ?k7 ?k8 ?k9 ?_; k_extra "a23")))
local macro_rules | `(tactic| walk_at "m_super lp_desc") => `(tactic| (k_extra "g24"; k_dflt (refine' super_K lp_desc ?k1 ?k2 ?k3 ?k4 ?k5 ?k6 ?k7 ?k8 ?k9 ?_; k_extra "a24")))
local macro_rules | `(tactic| walk_at "getMethod ref") => `(tactic| (k_extra "g25"; k_dflt (refine' methL_fn ?k1 ?k2 ?k3 ?k4 ?k5 ?k6 ?k7 ?k8 ?_; k_extra "a25")))
local macro_rules | `(tactic| walk_at "getMethod ref") => `(tactic| (k_extra "g26"; k_dflt (refine' methL_app ?k1 ?k2 ?k3 ?k4 ?k5 ?k6 ?k8 ?_; k_extra "a26")))
local macro_rules | `(tactic| walk_at "callWith ref") => `(tactic| (k_extra "g27"; k_dflt (refine' callWith_BK ?k1 ?k2 ?k3 ?k4 ?_; k_extra "a27")))
local macro_rules | `(tactic| walk_at "call ref") => `(tactic| (k_extra "g28"; k_dflt (refine' bound_len_K ?k1 ?k2 ?k3 ?k4 ?_; k_extra "a28")))
noncomputable def OutP (h₀ : Heap) (L : Addr) (m : Str → Option Value) (s : Shared) (Out : Value → List (Addr × Obj) → Prop) (r : Value) (s' : Shared) : Prop :=
  ∃ news' h' tk', s' = { s with heap := h', toks := tk' } ∧ Out r news' ∧ Fr h₀ L h' m ∧ News h₀ L h' news'
theorem out_use {prog : Program} {w : World} {A : Around} {E Q : Value → Shared → Prop} {s : Shared} {h₀ : Heap} {L : Addr} {m : Str → Option Value} {f : Value} {vs : List Value} {Out : Value → List (Addr × Obj) → Prop} (C : wpAny (model prog w) A (call f vs) (OutP h₀ L m s Out) (fun _ _ => False) s)
    (k : ∀ r news' h' tk', Out r news' → Fr h₀ L h' m → News h₀ L h' news' → Q r { s with heap := h', toks := tk' }) : wpAny (model prog w) A (call f vs) Q E s := by
  refine wpAny_mono C (fun r s' hr => ?_) fun _ _ e => e.elim
  obtain ⟨news', h', tk', rfl, o, F', N'⟩ := hr
  exact k r news' h' tk' o F' N'
theorem out_useI {prog : Program} {w : World} {A : Around} {E Q : Value → Shared → Prop} {s : Shared} {h₀ : Heap} {L : Addr} {m : Str → Option Value} {f : Value} {vs : List Value} {z : Int} {n2 : List (Addr × Obj)} (C : wpAny (model prog w) A (call f vs) (OutP h₀ L m s (fun r news2 => (∃ t, r = .int z t) ∧ news2 = n2)) (fun _ _ => False) s)
    (k : ∀ t h' tk', Fr h₀ L h' m → News h₀ L h' n2 → Q (.int z t) { s with heap := h', toks := tk' }) : wpAny (model prog w) A (call f vs) Q E s :=
  out_use C fun r news' h' tk' o F' N' => by
    obtain ⟨⟨t, rfl⟩, rfl⟩ := o
    exact k t h' tk' F' N'
section
variable {w : World} {p : Program} {loose : List Str} {mean : ExcName → Option Value} {mg mb : Str → Option Value} {dp un : Nat} {gd : Option (List Code)} {cn : Str} {cs : Scope} {a : Addr} {ccd : Value} {cl : List (Str × Addr)} {outer : List Env} {A₀ : Around} {base h₀ : Heap} {L : Addr} {m : Str → Option Value} {s : Shared}
theorem count_p {x dx : Addr} {its : Array Value} {n c : Nat} {tk1 tk2 : Tok} {news : List (Addr × Obj)} (ne1 : ∀ p ∈ news, p.1 ≠ x) (hdx : (dx, dictOf [entS w "_initial_size" tk1 (.int 2 tk2)] c) ∈ news) (B : Below A₀ base outer h₀) (F : Fr h₀ L s.heap m) (X : (hd.heap_1 w.params).In h₀) (TP : Top p loose mean mg mb h₀) (hk : cs.kind = .function) (hdp : dp + 6 < recursionLimit) (hun : un + 60 < cLine)  (N : News h₀ L s.heap ((x, subO 143 dx its n) :: news)) :
    wpAny (model PR w) (ktrTop dp un gd cn cs L a ccd cl outer) (call (.ref 140) [.ref x]) (OutP h₀ L m s (fun r news2 => (∃ t, r = .int (its.size : Int) t) ∧ news2 = (x, subO 143 dx its n) :: news)) (fun _ _ => False) s := by
  k_with_none
  w_top off
  k_with "m_enter" => ((case kA => exact rfl); (case kF => exact rfl); (case kK => assumption); (case k1 => k_asm); (case k2 => k_asm); (case k3 => k_asm); (case k5 => k_asm); (case k6 => k_is); (case k7 => k_is); (case k8 => walk_at "lt_room"); (case k9 => exact BindsTo.of_eq rfl); (case c5 => decide); (case kB => exact locs rfl); (case c2 => exact rfl); (case c3 => exact rfl); (case c4 => exact rfl); k_whole; intro g' L' h' F' N' B' X' T'; (try dsimp only [List.reverse, List.reverseAux, List.length]))
  k_with "m_pure" => ((case k1 => k_asm); (case k2 => k_asm); (case k3 => k_asm); (case k4 => k_asm); (case kK => first | exact rfl | assumption); (case kd => walk_at "lt_room"); (case ku => walk_at "lt_units"))
  k_with "m_useI" => (walk_at "m_pure"; (case k5 => k_asm); intro t9 h9 tk9 F9 N9; (try dsimp only); (try k_sweep))
  k_with "m_same" => (intro z h2 h3; (try simp only [List.forall_mem_cons, List.not_mem_nil, false_implies, implies_true, and_true, ne_eq, List.contains_cons, List.contains_nil, Bool.or_false, Bool.or_eq_false_iff, beq_eq_false_iff_ne] at h2 h3); simp [kstB, h2, h3])
  k_with "m_useB" => (walk_at "m_pure"; (case k5 => k_asm); intro h9 tk9 F9 N9; (try dsimp only); (try k_sweep))
  k_with "l_idx" => (k_dflt (k_extra "m_idx"))
  k_with "g9" => (k_here; (with_reducible show wpAny _ _ (subscriptTail _ _ (Value.ref _) (Value.int _ _)) _ _ _))
  k_with "a9" => ((case k1 => is_list); (case k3 => omega); (case k5 => omega); (case k6 => with_unfolding_all rfl); k_whole)
  k_with "pyIter ref" => (k_dflt (k_extra "m_iter"))
  k_with "g10" => skip
  k_with "m_sameN" => (intro z h1 h2 h3; (try simp only [List.forall_mem_cons, List.not_mem_nil, false_implies, implies_true, and_true, ne_eq, List.contains_cons, List.contains_nil, Bool.or_false, Bool.or_eq_false_iff, beq_eq_false_iff_ne] at h2 h3); first | rfl | ((show (if z = _ then _ else _) = _); rw [if_neg h1]; rfl) | (simp [kstB, h1, h2, h3]; done))
  k_with "mul_fits" => (k_extra "m_mul")
  k_with "InvEndN" => (refine stop_ ?_)
  k_with "KswEnd" => (refine stop_ ?_)
  k_with "m_new" => (first | exact List.forall_mem_nil _ | (refine List.forall_mem_cons.mpr ⟨⟨by k_mem, by k_all⟩, ?_⟩; walk_at "m_new"))
  k_with "g21" => skip
  k_with "a21" => ((case N => k_asm); (case h1 => k_mem); (case h2 => first | exact List.Mem.tail _ (by assumption) | exact List.Mem.tail _ (List.Mem.tail _ (by assumption)) | exact List.Mem.tail _ (List.Mem.tail _ (List.Mem.tail _ (by assumption))) | k_mem))
  k_with "g22" => skip
  k_with "a22" => ((case k1 => k_asm); (case k2 => k_asm); (case k3 => k_asm); (case k4 => k_mem); (case k5 => k_inst); (case k6 => k_is); (case k7 => ks_is); (case k8 => k_is); (case k9 => decide); intro q' h' F' N' l1; (try k_lt l1))
  k_with "g23" => skip
  k_with "a23" => ((case k1 => k_asm); (case k2 => k_asm); (case k3 => k_asm); (case k4 => k_mem); (case k5 => k_inst); (case k6 => k_is); (case k7 => ks_is); (case k8 => k_is); (case k9 => decide); intro q' h' F' N' l1; (try k_lt l1))
  k_with "g24" => skip
  k_with "a24" => ((case k1 => k_asm); (case k2 => k_asm); (case k3 => k_asm); (case k4 => k_mem); (case k5 => k_inst); (case k6 => k_is); (case k7 => ks_is); (case k8 => k_is); (case k9 => decide); intro q' h' F' N' l1; (try k_lt l1))
  k_with "g25" => (k_here)
  k_with "a25" => ((case k1 => k_asm); (case k2 => k_asm); (case k3 => k_inst); (case k4 => k_is); (case k5 => k_is); (case k6 => k_is); (case k7 => k_is); (case k8 => k_get); k_whole)
  k_with "g26" => (k_here)
  k_with "a26" => ((case k1 => k_asm); (case k2 => k_asm); (case k3 => k_inst); (case k4 => k_is); (case k5 => k_is); (case k6 => k_is); (case k8 => k_get); k_whole)
  k_with "getMethod ref" => (k_here; first | walk_at "m_super ll_desc" | walk_at "m_super li_desc" | walk_at "m_super lp_desc")
  k_with "g27" => (k_here)
  k_with "a27" => ((case k3 => k_asm); (case k4 => k_mem); (case k1 => decide); (case k2 => decide))
  k_with "g28" => (k_here)
  k_with "a28" => ((case k1 => k_asm); (case k2 => k_mem); (case k3 => k_mem); (case k4 => first | assumption | rfl))
  k_with "wpAt" => (ks_step "eval Call"; k_dflt (refine ks_wpAt_MethodCall ?_))
  k_with "wpAt" => (ks_step "exec Expr"; k_dflt (refine ks_wpAt_Expr_any ?_))
  k_with "wpAt" => (dsimp only; ks_step "execs cons"; refine ks_wpAt_execs_cons ?_)
  k_with "OutP" => (refine stop_ ?_)
  k_with "k_room" => (walk_at "lt_room")
  k_with "k_room" => (walk_at "lt_room")
  k_with "k_units" => (walk_at "lt_units")
  k_with "lt_room" => (first | with_unfolding_all exact room2 (j := 0) hdp rfl rfl | with_unfolding_all exact room0 (j := 0) hdp rfl rfl | with_unfolding_all exact room2 (j := 1) hdp rfl rfl | with_unfolding_all exact room0 (j := 1) hdp rfl rfl | with_unfolding_all exact room2 (j := 2) hdp rfl rfl | with_unfolding_all exact room0 (j := 2) hdp rfl rfl | with_unfolding_all exact room2 (j := 3) hdp rfl rfl | with_unfolding_all exact room0 (j := 3) hdp rfl rfl | with_unfolding_all exact room2 (j := 4) hdp rfl rfl | with_unfolding_all exact room0 (j := 4) hdp rfl rfl | with_unfolding_all exact room2 (j := 5) hdp rfl rfl | with_unfolding_all exact room0 (j := 5) hdp rfl rfl | with_unfolding_all exact room2 (j := 6) hdp rfl rfl | with_unfolding_all exact room0 (j := 6) hdp rfl rfl | with_unfolding_all exact room2 (j := 7) hdp rfl rfl | with_unfolding_all exact room0 (j := 7) hdp rfl rfl | (trace "heavy"; ktr_room))
  k_with "lt_units" => (first | with_unfolding_all exact room2 (j := 0) hun rfl rfl | with_unfolding_all exact room0 (j := 0) hun rfl rfl | with_unfolding_all exact room2 (j := 1) hun rfl rfl | with_unfolding_all exact room0 (j := 1) hun rfl rfl | with_unfolding_all exact room2 (j := 2) hun rfl rfl | with_unfolding_all exact room0 (j := 2) hun rfl rfl | with_unfolding_all exact room2 (j := 3) hun rfl rfl | with_unfolding_all exact room0 (j := 3) hun rfl rfl | with_unfolding_all exact room2 (j := 4) hun rfl rfl | with_unfolding_all exact room0 (j := 4) hun rfl rfl | with_unfolding_all exact room2 (j := 5) hun rfl rfl | with_unfolding_all exact room0 (j := 5) hun rfl rfl | with_unfolding_all exact room2 (j := 6) hun rfl rfl | with_unfolding_all exact room0 (j := 6) hun rfl rfl | with_unfolding_all exact room2 (j := 7) hun rfl rfl | with_unfolding_all exact room0 (j := 7) hun rfl rfl | (trace "heavy"; ktr_units))
  have kMark : KstMark := kstMark
  obtain ⟨ck, cnm, cig, cic, cmo⟩ := cs
  dsimp only at hk
  subst hk
  k_steps
  exact Stop.mk ⟨_, _, _, rfl, ⟨⟨_, rfl⟩, rfl⟩, by assumption, kst_newsOf (by assumption) (by kst_inAny)⟩
local macro_rules | `(tactic| walk_at "call ref") => `(tactic| (k_extra "g29"; k_dflt (refine' out_useI (count_p ?ne1 ?hdx ?k1 ?k2 ?k3 ?k4 ?kK ?kd ?ku ?kN) ?_; k_extra "a29"); k_extra "b29"))
theorem pop0_p {x dx : Addr} {its : Array Value} {n c : Nat} {tk1 tk2 : Tok} {news : List (Addr × Obj)} (ne1 : ∀ p ∈ news, p.1 ≠ x) (hdx : (dx, dictOf [entS w "_initial_size" tk1 (.int 2 tk2)] c) ∈ news) (B : Below A₀ base outer h₀) (F : Fr h₀ L s.heap m) (X : (hd.heap_1 w.params).In h₀) (TP : Top p loose mean mg mb h₀) (hk : cs.kind = .function) (hdp : dp + 8 < recursionLimit) (hun : un + 80 < cLine) (e : (its.size : Int) = 0) (N : News h₀ L s.heap ((x, subO 143 dx its n) :: news)) :
    wpAny (model PR w) (ktrTop dp un gd cn cs L a ccd cl outer) (call (.ref 103) [.ref x]) (OutP h₀ L m s (fun r news2 => ∃ D t1 t2, r = .ref D ∧ (∀ p ∈ (x, subO 143 dx its n) :: news, p.1 < D) ∧ news2 = (D, tupO [.str (Str.ofString "") t1, .str (Str.ofString "") t2]) :: (x, subO 143 dx its n) :: news)) (fun _ _ => False) s := by
  k_with_none
  w_top off
  k_with "m_enter" => ((case kA => exact rfl); (case kF => exact rfl); (case kK => assumption); (case k1 => k_asm); (case k2 => k_asm); (case k3 => k_asm); (case k5 => k_asm); (case k6 => k_is); (case k7 => k_is); (case k8 => walk_at "lt_room"); (case k9 => exact BindsTo.of_eq rfl); (case c5 => decide); (case kB => exact locs rfl); (case c2 => exact rfl); (case c3 => exact rfl); (case c4 => exact rfl); k_whole; intro g' L' h' F' N' B' X' T'; (try dsimp only [List.reverse, List.reverseAux, List.length]))
  k_with "m_pure" => ((case k1 => k_asm); (case k2 => k_asm); (case k3 => k_asm); (case k4 => k_asm); (case kK => first | exact rfl | assumption); (case kd => walk_at "lt_room"); (case ku => walk_at "lt_units"))
  k_with "m_useI" => (walk_at "m_pure"; (case k5 => k_asm); intro t9 h9 tk9 F9 N9; (try dsimp only); (try k_sweep))
  k_with "m_same" => (intro z h2 h3; (try simp only [List.forall_mem_cons, List.not_mem_nil, false_implies, implies_true, and_true, ne_eq, List.contains_cons, List.contains_nil, Bool.or_false, Bool.or_eq_false_iff, beq_eq_false_iff_ne] at h2 h3); simp [kstB, h2, h3])
  k_with "m_useB" => (walk_at "m_pure"; (case k5 => k_asm); intro h9 tk9 F9 N9; (try dsimp only); (try k_sweep))
  k_with "l_idx" => (k_dflt (k_extra "m_idx"))
  k_with "g9" => (k_here; (with_reducible show wpAny _ _ (subscriptTail _ _ (Value.ref _) (Value.int _ _)) _ _ _))
  k_with "a9" => ((case k1 => is_list); (case k3 => omega); (case k5 => omega); (case k6 => with_unfolding_all rfl); k_whole)
  k_with "pyIter ref" => (k_dflt (k_extra "m_iter"))
  k_with "g10" => skip
  k_with "m_sameN" => (intro z h1 h2 h3; (try simp only [List.forall_mem_cons, List.not_mem_nil, false_implies, implies_true, and_true, ne_eq, List.contains_cons, List.contains_nil, Bool.or_false, Bool.or_eq_false_iff, beq_eq_false_iff_ne] at h2 h3); first | rfl | ((show (if z = _ then _ else _) = _); rw [if_neg h1]; rfl) | (simp [kstB, h1, h2, h3]; done))
  k_with "mul_fits" => (k_extra "m_mul")
  k_with "InvEndN" => (refine stop_ ?_)
  k_with "KswEnd" => (refine stop_ ?_)
  k_with "m_new" => (first | exact List.forall_mem_nil _ | (refine List.forall_mem_cons.mpr ⟨⟨by k_mem, by k_all⟩, ?_⟩; walk_at "m_new"))
  k_with "g21" => skip
  k_with "a21" => ((case N => k_asm); (case h1 => k_mem); (case h2 => first | exact List.Mem.tail _ (by assumption) | exact List.Mem.tail _ (List.Mem.tail _ (by assumption)) | exact List.Mem.tail _ (List.Mem.tail _ (List.Mem.tail _ (by assumption))) | k_mem))
  k_with "g22" => skip
  k_with "a22" => ((case k1 => k_asm); (case k2 => k_asm); (case k3 => k_asm); (case k4 => k_mem); (case k5 => k_inst); (case k6 => k_is); (case k7 => ks_is); (case k8 => k_is); (case k9 => decide); intro q' h' F' N' l1; (try k_lt l1))
  k_with "g23" => skip
  k_with "a23" => ((case k1 => k_asm); (case k2 => k_asm); (case k3 => k_asm); (case k4 => k_mem); (case k5 => k_inst); (case k6 => k_is); (case k7 => ks_is); (case k8 => k_is); (case k9 => decide); intro q' h' F' N' l1; (try k_lt l1))
  k_with "g24" => skip
  k_with "a24" => ((case k1 => k_asm); (case k2 => k_asm); (case k3 => k_asm); (case k4 => k_mem); (case k5 => k_inst); (case k6 => k_is); (case k7 => ks_is); (case k8 => k_is); (case k9 => decide); intro q' h' F' N' l1; (try k_lt l1))
  k_with "g25" => (k_here)
  k_with "a25" => ((case k1 => k_asm); (case k2 => k_asm); (case k3 => k_inst); (case k4 => k_is); (case k5 => k_is); (case k6 => k_is); (case k7 => k_is); (case k8 => k_get); k_whole)
  k_with "g26" => (k_here)
  k_with "a26" => ((case k1 => k_asm); (case k2 => k_asm); (case k3 => k_inst); (case k4 => k_is); (case k5 => k_is); (case k6 => k_is); (case k8 => k_get); k_whole)
  k_with "getMethod ref" => (k_here; first | walk_at "m_super ll_desc" | walk_at "m_super li_desc" | walk_at "m_super lp_desc")
  k_with "g27" => (k_here)
  k_with "a27" => ((case k3 => k_asm); (case k4 => k_mem); (case k1 => decide); (case k2 => decide))
  k_with "g28" => (k_here)
  k_with "a28" => ((case k1 => k_asm); (case k2 => k_mem); (case k3 => k_mem); (case k4 => first | assumption | rfl))
  k_with "wpAt" => (ks_step "eval Call"; k_dflt (refine ks_wpAt_MethodCall ?_))
  k_with "wpAt" => (ks_step "exec Expr"; k_dflt (refine ks_wpAt_Expr_any ?_))
  k_with "wpAt" => (dsimp only; ks_step "execs cons"; refine ks_wpAt_execs_cons ?_)
  k_with "OutP" => (refine stop_ ?_)
  k_with "k_room" => (walk_at "lt_room")
  k_with "k_room" => (walk_at "lt_room")
  k_with "k_units" => (walk_at "lt_units")
  k_with "g29" => (k_here)
  k_with "a29" => ((case ne1 => k_asm); (case hdx => k_asm); (case k1 => k_asm); (case k2 => k_asm); (case k3 => k_asm); (case k4 => k_asm); (case kK => first | exact rfl | assumption); (case kd => walk_at "lt_room"); (case ku => walk_at "lt_units"); (case kN => k_asm))
  k_with "b29" => (intro t9 h9 tk9 F9 N9; (try dsimp only); (try k_sweep))
  k_with "lt_room" => (first | with_unfolding_all exact room2 (j := 0) hdp rfl rfl | with_unfolding_all exact room0 (j := 0) hdp rfl rfl | with_unfolding_all exact room2 (j := 1) hdp rfl rfl | with_unfolding_all exact room0 (j := 1) hdp rfl rfl | with_unfolding_all exact room2 (j := 2) hdp rfl rfl | with_unfolding_all exact room0 (j := 2) hdp rfl rfl | with_unfolding_all exact room2 (j := 3) hdp rfl rfl | with_unfolding_all exact room0 (j := 3) hdp rfl rfl | with_unfolding_all exact room2 (j := 4) hdp rfl rfl | with_unfolding_all exact room0 (j := 4) hdp rfl rfl | with_unfolding_all exact room2 (j := 5) hdp rfl rfl | with_unfolding_all exact room0 (j := 5) hdp rfl rfl | with_unfolding_all exact room2 (j := 6) hdp rfl rfl | with_unfolding_all exact room0 (j := 6) hdp rfl rfl | with_unfolding_all exact room2 (j := 7) hdp rfl rfl | with_unfolding_all exact room0 (j := 7) hdp rfl rfl | (trace "heavy"; ktr_room))
  k_with "lt_units" => (first | with_unfolding_all exact room2 (j := 0) hun rfl rfl | with_unfolding_all exact room0 (j := 0) hun rfl rfl | with_unfolding_all exact room2 (j := 1) hun rfl rfl | with_unfolding_all exact room0 (j := 1) hun rfl rfl | with_unfolding_all exact room2 (j := 2) hun rfl rfl | with_unfolding_all exact room0 (j := 2) hun rfl rfl | with_unfolding_all exact room2 (j := 3) hun rfl rfl | with_unfolding_all exact room0 (j := 3) hun rfl rfl | with_unfolding_all exact room2 (j := 4) hun rfl rfl | with_unfolding_all exact room0 (j := 4) hun rfl rfl | with_unfolding_all exact room2 (j := 5) hun rfl rfl | with_unfolding_all exact room0 (j := 5) hun rfl rfl | with_unfolding_all exact room2 (j := 6) hun rfl rfl | with_unfolding_all exact room0 (j := 6) hun rfl rfl | with_unfolding_all exact room2 (j := 7) hun rfl rfl | with_unfolding_all exact room0 (j := 7) hun rfl rfl | (trace "heavy"; ktr_units))
  have kMark : KstMark := kstMark
  obtain ⟨ck, cnm, cig, cic, cmo⟩ := cs
  dsimp only at hk
  subst hk
  k_steps
  · exact Stop.mk ⟨_, _, _, rfl, ⟨_, _, _, rfl, kst_ltOf (l := _ :: _) (by assumption), rfl⟩, by assumption, kst_newsOf (by assumption) (by kst_inAny)⟩
  · exact absurd e (by assumption)
local macro_rules | `(tactic| walk_at "setAttr ref") => `(tactic| (k_extra "g30"; k_dflt (refine' setL ?k1 ?k2 ?k3 ?k4 ?k5 ?k6 ?k7 ?k8 ?k9 ?kA ?_; k_extra "a30"); k_extra "b30"))
local macro_rules | `(tactic| walk_at "call ref") => `(tactic| (k_extra "g31"; k_dflt (refine' makeL_K ?k1 ?k2 ?k3 ?k4 ?k5 ?k6 ?_; (case k1 => k_asm); (case k2 => k_asm); (case k3 => k_asm); (case k4 => kernel_rfl); (case k5 => k_is); (case k6 => k_is); intro x' d' h' F' N' l1 l2; (have l3 := fun p hp => Nat.lt_trans (l1 p hp) l2); (try k_lt l1); (try k_lt l3); (try k_lt2 l2); (refine' ks_code_super ?k1 ?k2 ?k3 ?k4 ?k5 ?kA ?kF ?kK ?k6 ?k7 ?k8 ?k9 ?kB ?_ ?c1 ?c2 ?c3 ?c4; (case kA => exact rfl); (case kF => exact rfl); (case kK => exact rfl); (case k1 => k_asm); (case k2 => k_asm); (case k3 => k_asm); (case k4 => k_asm); (case k5 => k_asm); (case k6 => k_is); (case k7 => k_is); (case k8 => k_room); (case k9 => exact binds_K (by k_in) rfl (by k_is) rfl rfl rfl); (case kB => exact locs rfl); (case c1 => decide); (case c2 => exact rfl); (case c3 => exact rfl); (case c4 => exact rfl); intro g' L' h' FG' F' N' B' X' T' l1; (try k_lt l1); (try dsimp only); (try k_lift B')))))
local macro_rules | `(tactic| walk_at "call ref") => `(tactic| (k_extra "g32"; k_dflt (refine' bound_init_K ?k1 ?k2 ?k3 ?k4 ?_; k_extra "a32"); k_extra "b32"))
local macro_rules | `(tactic| walk_at "setItem ref ref") => `(tactic| (k_extra "g33"; k_dflt (refine' sub_setAt ?k1 ?k2 ?k3 ?k4 ?k5 ?k6 ?k7 ?k8 ?k9 ?kA ?kB ?kC ?_; k_extra "a33"); k_extra "b33"))
local macro_rules | `(tactic| walk_at "subscriptTail") => `(tactic| (k_extra "g34"; k_dflt (refine' sub_slice ?k1 ?k2 ?k3 ?k4 ?k5 ?k6 ?k7 ?k8 ?k9 ?kA ?kB ?_ ?kC ?kD; k_extra "a34"); k_extra "b34"))
local macro_rules | `(tactic| walk_at "call builtin:list.append") => `(tactic| (k_extra "g35"; k_dflt (refine' append_sub_K ?k1 ?k2 ?k3 ?k4 ?k5 ?k6 ?_; k_extra "a35"); k_extra "b35"))
local macro_rules | `(tactic| walk_at "call ref") => `(tactic| (k_extra "g36"; k_dflt (refine' bound_pop_K ?k1 ?k2 ?k3 ?k4 ?k5 ?k6 ?k7 ?k8 ?k9 ?_; k_extra "a36"); k_extra "b36"))
theorem pop1_p {x dx : Addr} {its : Array Value} {n c : Nat} {tk1 tk2 : Tok} {news : List (Addr × Obj)} (ne1 : ∀ p ∈ news, p.1 ≠ x) (hdx : (dx, dictOf [entS w "_initial_size" tk1 (.int 2 tk2)] c) ∈ news) (B : Below A₀ base outer h₀) (F : Fr h₀ L s.heap m) (X : (hd.heap_1 w.params).In h₀) (TP : Top p loose mean mg mb h₀) (hk : cs.kind = .function) (hdp : dp + 8 < recursionLimit) (hun : un + 80 < cLine) (v : Value) (e : its.size ≤ 1000) (N : News h₀ L s.heap ((x, subO 143 dx (its.push v) n) :: news)) :
    wpAny (model PR w) (ktrTop dp un gd cn cs L a ccd cl outer) (call (.ref 103) [.ref x]) (OutP h₀ L m s (fun r news2 => r = v ∧ ∃ n2, news2 = (x, subO 143 dx its n2) :: news)) (fun _ _ => False) s := by
  k_with_none
  w_top off
  k_with "m_enter" => ((case kA => exact rfl); (case kF => exact rfl); (case kK => assumption); (case k1 => k_asm); (case k2 => k_asm); (case k3 => k_asm); (case k5 => k_asm); (case k6 => k_is); (case k7 => k_is); (case k8 => walk_at "lt_room"); (case k9 => exact BindsTo.of_eq rfl); (case c5 => decide); (case kB => exact locs rfl); (case c2 => exact rfl); (case c3 => exact rfl); (case c4 => exact rfl); k_whole; intro g' L' h' F' N' B' X' T'; (try dsimp only [List.reverse, List.reverseAux, List.length]))
  k_with "m_pure" => ((case k1 => k_asm); (case k2 => k_asm); (case k3 => k_asm); (case k4 => k_asm); (case kK => first | exact rfl | assumption); (case kd => walk_at "lt_room"); (case ku => walk_at "lt_units"))
  k_with "m_useI" => (walk_at "m_pure"; (case k5 => k_asm); intro t9 h9 tk9 F9 N9; (try dsimp only); (try k_sweep))
  k_with "m_same" => (intro z h2 h3; (try simp only [List.forall_mem_cons, List.not_mem_nil, false_implies, implies_true, and_true, ne_eq, List.contains_cons, List.contains_nil, Bool.or_false, Bool.or_eq_false_iff, beq_eq_false_iff_ne] at h2 h3); simp [kstB, h2, h3])
  k_with "m_useB" => (walk_at "m_pure"; (case k5 => k_asm); intro h9 tk9 F9 N9; (try dsimp only); (try k_sweep))
  k_with "l_idx" => (k_dflt (k_extra "m_idx"))
  k_with "g9" => (k_here; (with_reducible show wpAny _ _ (subscriptTail _ _ (Value.ref _) (Value.int _ _)) _ _ _))
  k_with "a9" => ((case k1 => is_list); (case k3 => omega); (case k5 => omega); (case k6 => with_unfolding_all rfl); k_whole)
  k_with "pyIter ref" => (k_dflt (k_extra "m_iter"))
  k_with "g10" => skip
  k_with "m_sameN" => (intro z h1 h2 h3; (try simp only [List.forall_mem_cons, List.not_mem_nil, false_implies, implies_true, and_true, ne_eq, List.contains_cons, List.contains_nil, Bool.or_false, Bool.or_eq_false_iff, beq_eq_false_iff_ne] at h2 h3); first | rfl | ((show (if z = _ then _ else _) = _); rw [if_neg h1]; rfl) | (simp [kstB, h1, h2, h3]; done))
  k_with "mul_fits" => (k_extra "m_mul")
  k_with "InvEndN" => (refine stop_ ?_)
  k_with "KswEnd" => (refine stop_ ?_)
  k_with "m_new" => (first | exact List.forall_mem_nil _ | (refine List.forall_mem_cons.mpr ⟨⟨by k_mem, by k_all⟩, ?_⟩; walk_at "m_new"))
  k_with "g21" => skip
  k_with "a21" => ((case N => k_asm); (case h1 => k_mem); (case h2 => first | exact List.Mem.tail _ (by assumption) | exact List.Mem.tail _ (List.Mem.tail _ (by assumption)) | exact List.Mem.tail _ (List.Mem.tail _ (List.Mem.tail _ (by assumption))) | k_mem))
  k_with "g22" => skip
  k_with "a22" => ((case k1 => k_asm); (case k2 => k_asm); (case k3 => k_asm); (case k4 => k_mem); (case k5 => k_inst); (case k6 => k_is); (case k7 => ks_is); (case k8 => k_is); (case k9 => decide); intro q' h' F' N' l1; (try k_lt l1))
  k_with "g23" => skip
  k_with "a23" => ((case k1 => k_asm); (case k2 => k_asm); (case k3 => k_asm); (case k4 => k_mem); (case k5 => k_inst); (case k6 => k_is); (case k7 => ks_is); (case k8 => k_is); (case k9 => decide); intro q' h' F' N' l1; (try k_lt l1))
  k_with "g24" => skip
  k_with "a24" => ((case k1 => k_asm); (case k2 => k_asm); (case k3 => k_asm); (case k4 => k_mem); (case k5 => k_inst); (case k6 => k_is); (case k7 => ks_is); (case k8 => k_is); (case k9 => decide); intro q' h' F' N' l1; (try k_lt l1))
  k_with "g25" => (k_here)
  k_with "a25" => ((case k1 => k_asm); (case k2 => k_asm); (case k3 => k_inst); (case k4 => k_is); (case k5 => k_is); (case k6 => k_is); (case k7 => k_is); (case k8 => k_get); k_whole)
  k_with "g26" => (k_here)
  k_with "a26" => ((case k1 => k_asm); (case k2 => k_asm); (case k3 => k_inst); (case k4 => k_is); (case k5 => k_is); (case k6 => k_is); (case k8 => k_get); k_whole)
  k_with "getMethod ref" => (k_here; first | walk_at "m_super ll_desc" | walk_at "m_super li_desc" | walk_at "m_super lp_desc")
  k_with "g27" => (k_here)
  k_with "a27" => ((case k3 => k_asm); (case k4 => k_mem); (case k1 => decide); (case k2 => decide))
  k_with "g28" => (k_here)
  k_with "a28" => ((case k1 => k_asm); (case k2 => k_mem); (case k3 => k_mem); (case k4 => first | assumption | rfl))
  k_with "wpAt" => (ks_step "eval Call"; k_dflt (refine ks_wpAt_MethodCall ?_))
  k_with "wpAt" => (ks_step "exec Expr"; k_dflt (refine ks_wpAt_Expr_any ?_))
  k_with "wpAt" => (dsimp only; ks_step "execs cons"; refine ks_wpAt_execs_cons ?_)
  k_with "OutP" => (refine stop_ ?_)
  k_with "k_room" => (walk_at "lt_room")
  k_with "k_room" => (walk_at "lt_room")
  k_with "k_units" => (walk_at "lt_units")
  k_with "g29" => (k_here)
  k_with "a29" => ((case ne1 => k_asm); (case hdx => k_asm); (case k1 => k_asm); (case k2 => k_asm); (case k3 => k_asm); (case k4 => k_asm); (case kK => first | exact rfl | assumption); (case kd => walk_at "lt_room"); (case ku => walk_at "lt_units"); (case kN => k_asm))
  k_with "b29" => (intro t9 h9 tk9 F9 N9; (try dsimp only); (try k_sweep))
  k_with "g30" => (k_here)
  k_with "a30" => ((case k1 => k_asm); (case k2 => k_asm); (case k3 => k_asm); (case k4 => k_is); (case k5 => with_unfolding_all rfl); (case k6 => with_unfolding_all rfl); (case k7 => k_is); (case k8 => with_unfolding_all rfl); (case k9 => k_ne); (case kA => k_all))
  k_with "b30" => (intro h9 k9 F9 N9; (try dsimp only); (try k_sweep))
  k_with "g31" => (k_here)
  k_with "g32" => (k_here)
  k_with "a32" => ((case k1 => k_asm); (case k2 => k_mem); (case k3 => (intro _; k_upd)); (case k4 => k_asm))
  k_with "b32" => (intro n9 h9 F9 N9; (try dsimp only); (try k_sweep))
  k_with "g33" => (k_here)
  k_with "a33" => ((case k1 => k_asm); (case k2 => k_asm); (case k3 => k_asm); (case k4 => (intro _; k_upd)); (case k5 => k_mem); (case k6 => k_ne); (case k7 => omega); (case k8 => k_is); (case k9 => k_is); (case kA => k_is); (case kB => k_is); (case kC => omega))
  k_with "b33" => (intro n9 h9 F9 N9; (try dsimp only); (try k_sweep))
  k_with "g34" => (k_here)
  k_with "a34" => ((case k1 => k_asm); (case k2 => k_asm); (case k3 => k_asm); (case k4 => k_mem); (case k5 => first | exact IsPart.int _ _ | exact IsPart.none); (case k6 => first | exact IsPart.int _ _ | exact IsPart.none); (case k7 => k_is); (case k8 => k_is); (case k9 => k_is); (case kA => k_is); (case kB => omega); (case kC => with_unfolding_all rfl); (case kD => (intro _; with_unfolding_all rfl)))
  k_with "b34" => (intro D9 h9 F9 N9 l1; (try k_lt l1); (try k_sweep))
  k_with "g35" => (k_here; (with_reducible show wpAny _ _ (call (Value.builtin _) [Value.ref _, _]) _ _ _))
  k_with "a35" => ((case k1 => k_asm); (case k2 => (intro _; k_upd)); (case k3 => k_asm); (case k4 => k_asm); (case k5 => k_is); (case k6 => omega))
  k_with "b35" => (intro n9 h9 F9 N9; (try dsimp only); (try k_sweep))
  k_with "k_all" => (first | (with_reducible assumption) | fail "m_all")
  k_with "g36" => (k_here)
  k_with "a36" => ((case k1 => k_asm); (case k2 => k_mem); (case k3 => (intro _; k_upd)); (case k4 => k_asm); (case k5 => k_asm); (case k6 => with_unfolding_all rfl); (case k7 => decide +kernel); (case k8 => k_is); (case k9 => omega))
  k_with "b36" => (intro n9 h9 F9 N9; (try dsimp only); (try k_sweep))
  k_with "lt_room" => (first | with_unfolding_all exact room2 (j := 0) hdp rfl rfl | with_unfolding_all exact room0 (j := 0) hdp rfl rfl | with_unfolding_all exact room2 (j := 1) hdp rfl rfl | with_unfolding_all exact room0 (j := 1) hdp rfl rfl | with_unfolding_all exact room2 (j := 2) hdp rfl rfl | with_unfolding_all exact room0 (j := 2) hdp rfl rfl | with_unfolding_all exact room2 (j := 3) hdp rfl rfl | with_unfolding_all exact room0 (j := 3) hdp rfl rfl | with_unfolding_all exact room2 (j := 4) hdp rfl rfl | with_unfolding_all exact room0 (j := 4) hdp rfl rfl | with_unfolding_all exact room2 (j := 5) hdp rfl rfl | with_unfolding_all exact room0 (j := 5) hdp rfl rfl | with_unfolding_all exact room2 (j := 6) hdp rfl rfl | with_unfolding_all exact room0 (j := 6) hdp rfl rfl | with_unfolding_all exact room2 (j := 7) hdp rfl rfl | with_unfolding_all exact room0 (j := 7) hdp rfl rfl | (trace "heavy"; ktr_room))
  k_with "lt_units" => (first | with_unfolding_all exact room2 (j := 0) hun rfl rfl | with_unfolding_all exact room0 (j := 0) hun rfl rfl | with_unfolding_all exact room2 (j := 1) hun rfl rfl | with_unfolding_all exact room0 (j := 1) hun rfl rfl | with_unfolding_all exact room2 (j := 2) hun rfl rfl | with_unfolding_all exact room0 (j := 2) hun rfl rfl | with_unfolding_all exact room2 (j := 3) hun rfl rfl | with_unfolding_all exact room0 (j := 3) hun rfl rfl | with_unfolding_all exact room2 (j := 4) hun rfl rfl | with_unfolding_all exact room0 (j := 4) hun rfl rfl | with_unfolding_all exact room2 (j := 5) hun rfl rfl | with_unfolding_all exact room0 (j := 5) hun rfl rfl | with_unfolding_all exact room2 (j := 6) hun rfl rfl | with_unfolding_all exact room0 (j := 6) hun rfl rfl | with_unfolding_all exact room2 (j := 7) hun rfl rfl | with_unfolding_all exact room0 (j := 7) hun rfl rfl | (trace "heavy"; ktr_units))
  have kMark : KstMark := kstMark
  obtain ⟨ck, cnm, cig, cic, cmo⟩ := cs
  dsimp only at hk
  subst hk
  k_steps
  · exact absurd (by assumption : ((its.push v).size : Int) = 0) (by rw [Array.size_push]; omega)
  · exact Stop.mk ⟨_, _, _, rfl, ⟨rfl, _, rfl⟩, by assumption, kst_newsOf (by assumption) (by kst_inAny)⟩
theorem push_p {x dx : Addr} {its : Array Value} {n c : Nat} {tk1 tk2 : Tok} {news : List (Addr × Obj)} (ne1 : ∀ p ∈ news, p.1 ≠ x) (hdx : (dx, dictOf [entS w "_initial_size" tk1 (.int 2 tk2)] c) ∈ news) (B : Below A₀ base outer h₀) (F : Fr h₀ L s.heap m) (X : (hd.heap_1 w.params).In h₀) (TP : Top p loose mean mg mb h₀) (hk : cs.kind = .function) (hdp : dp + 8 < recursionLimit) (hun : un + 80 < cLine) (e : its.size ≤ 1000) {sa sb : Str} {ta tb : Tok} (N : News h₀ L s.heap ((x, subO 143 dx its n) :: news)) :
    wpAny (model PR w) (ktrTop dp un gd cn cs L a ccd cl outer) (call (.ref 87) [.ref x, .str sa ta, .str sb tb]) (OutP h₀ L m s (fun r news2 => r = .none ∧ ∃ D n2, (∀ p ∈ (x, subO 143 dx its n) :: news, p.1 < D) ∧ news2 = (D, tupO [.str sa ta, .str sb tb]) :: (x, subO 143 dx (its.push (.ref D)) n2) :: news)) (fun _ _ => False) s := by
  k_with_none
  w_top off
  k_with "m_enter" => ((case kA => exact rfl); (case kF => exact rfl); (case kK => assumption); (case k1 => k_asm); (case k2 => k_asm); (case k3 => k_asm); (case k5 => k_asm); (case k6 => k_is); (case k7 => k_is); (case k8 => walk_at "lt_room"); (case k9 => exact BindsTo.of_eq rfl); (case c5 => decide); (case kB => exact locs rfl); (case c2 => exact rfl); (case c3 => exact rfl); (case c4 => exact rfl); k_whole; intro g' L' h' F' N' B' X' T'; (try dsimp only [List.reverse, List.reverseAux, List.length]))
  k_with "m_pure" => ((case k1 => k_asm); (case k2 => k_asm); (case k3 => k_asm); (case k4 => k_asm); (case kK => first | exact rfl | assumption); (case kd => walk_at "lt_room"); (case ku => walk_at "lt_units"))
  k_with "m_useI" => (walk_at "m_pure"; (case k5 => k_asm); intro t9 h9 tk9 F9 N9; (try dsimp only); (try k_sweep))
  k_with "m_same" => (intro z h2 h3; (try simp only [List.forall_mem_cons, List.not_mem_nil, false_implies, implies_true, and_true, ne_eq, List.contains_cons, List.contains_nil, Bool.or_false, Bool.or_eq_false_iff, beq_eq_false_iff_ne] at h2 h3); simp [kstB, h2, h3])
  k_with "m_useB" => (walk_at "m_pure"; (case k5 => k_asm); intro h9 tk9 F9 N9; (try dsimp only); (try k_sweep))
  k_with "l_idx" => (k_dflt (k_extra "m_idx"))
  k_with "g9" => (k_here; (with_reducible show wpAny _ _ (subscriptTail _ _ (Value.ref _) (Value.int _ _)) _ _ _))
  k_with "a9" => ((case k1 => is_list); (case k3 => omega); (case k5 => omega); (case k6 => with_unfolding_all rfl); k_whole)
  k_with "pyIter ref" => (k_dflt (k_extra "m_iter"))
  k_with "g10" => skip
  k_with "m_sameN" => (intro z h1 h2 h3; (try simp only [List.forall_mem_cons, List.not_mem_nil, false_implies, implies_true, and_true, ne_eq, List.contains_cons, List.contains_nil, Bool.or_false, Bool.or_eq_false_iff, beq_eq_false_iff_ne] at h2 h3); first | rfl | ((show (if z = _ then _ else _) = _); rw [if_neg h1]; rfl) | (simp [kstB, h1, h2, h3]; done))
  k_with "mul_fits" => (k_extra "m_mul")
  k_with "InvEndN" => (refine stop_ ?_)
  k_with "KswEnd" => (refine stop_ ?_)
  k_with "m_new" => (first | exact List.forall_mem_nil _ | (refine List.forall_mem_cons.mpr ⟨⟨by k_mem, by k_all⟩, ?_⟩; walk_at "m_new"))
  k_with "g21" => skip
  k_with "a21" => ((case N => k_asm); (case h1 => k_mem); (case h2 => first | exact List.Mem.tail _ (by assumption) | exact List.Mem.tail _ (List.Mem.tail _ (by assumption)) | exact List.Mem.tail _ (List.Mem.tail _ (List.Mem.tail _ (by assumption))) | k_mem))
  k_with "g22" => skip
  k_with "a22" => ((case k1 => k_asm); (case k2 => k_asm); (case k3 => k_asm); (case k4 => k_mem); (case k5 => k_inst); (case k6 => k_is); (case k7 => ks_is); (case k8 => k_is); (case k9 => decide); intro q' h' F' N' l1; (try k_lt l1))
  k_with "g23" => skip
  k_with "a23" => ((case k1 => k_asm); (case k2 => k_asm); (case k3 => k_asm); (case k4 => k_mem); (case k5 => k_inst); (case k6 => k_is); (case k7 => ks_is); (case k8 => k_is); (case k9 => decide); intro q' h' F' N' l1; (try k_lt l1))
  k_with "g24" => skip
  k_with "a24" => ((case k1 => k_asm); (case k2 => k_asm); (case k3 => k_asm); (case k4 => k_mem); (case k5 => k_inst); (case k6 => k_is); (case k7 => ks_is); (case k8 => k_is); (case k9 => decide); intro q' h' F' N' l1; (try k_lt l1))
  k_with "g25" => (k_here)
  k_with "a25" => ((case k1 => k_asm); (case k2 => k_asm); (case k3 => k_inst); (case k4 => k_is); (case k5 => k_is); (case k6 => k_is); (case k7 => k_is); (case k8 => k_get); k_whole)
  k_with "g26" => (k_here)
  k_with "a26" => ((case k1 => k_asm); (case k2 => k_asm); (case k3 => k_inst); (case k4 => k_is); (case k5 => k_is); (case k6 => k_is); (case k8 => k_get); k_whole)
  k_with "getMethod ref" => (k_here; first | walk_at "m_super ll_desc" | walk_at "m_super li_desc" | walk_at "m_super lp_desc")
  k_with "g27" => (k_here)
  k_with "a27" => ((case k3 => k_asm); (case k4 => k_mem); (case k1 => decide); (case k2 => decide))
  k_with "g28" => (k_here)
  k_with "a28" => ((case k1 => k_asm); (case k2 => k_mem); (case k3 => k_mem); (case k4 => first | assumption | rfl))
  k_with "wpAt" => (ks_step "eval Call"; k_dflt (refine ks_wpAt_MethodCall ?_))
  k_with "wpAt" => (ks_step "exec Expr"; k_dflt (refine ks_wpAt_Expr_any ?_))
  k_with "wpAt" => (dsimp only; ks_step "execs cons"; refine ks_wpAt_execs_cons ?_)
  k_with "OutP" => (refine stop_ ?_)
  k_with "k_room" => (walk_at "lt_room")
  k_with "k_room" => (walk_at "lt_room")
  k_with "k_units" => (walk_at "lt_units")
  k_with "g29" => (k_here)
  k_with "a29" => ((case ne1 => k_asm); (case hdx => k_asm); (case k1 => k_asm); (case k2 => k_asm); (case k3 => k_asm); (case k4 => k_asm); (case kK => first | exact rfl | assumption); (case kd => walk_at "lt_room"); (case ku => walk_at "lt_units"); (case kN => k_asm))
  k_with "b29" => (intro t9 h9 tk9 F9 N9; (try dsimp only); (try k_sweep))
  k_with "g30" => (k_here)
  k_with "a30" => ((case k1 => k_asm); (case k2 => k_asm); (case k3 => k_asm); (case k4 => k_is); (case k5 => with_unfolding_all rfl); (case k6 => with_unfolding_all rfl); (case k7 => k_is); (case k8 => with_unfolding_all rfl); (case k9 => k_ne); (case kA => k_all))
  k_with "b30" => (intro h9 k9 F9 N9; (try dsimp only); (try k_sweep))
  k_with "g31" => (k_here)
  k_with "g32" => (k_here)
  k_with "a32" => ((case k1 => k_asm); (case k2 => k_mem); (case k3 => (intro _; k_upd)); (case k4 => k_asm))
  k_with "b32" => (intro n9 h9 F9 N9; (try dsimp only); (try k_sweep))
  k_with "g33" => (k_here)
  k_with "a33" => ((case k1 => k_asm); (case k2 => k_asm); (case k3 => k_asm); (case k4 => (intro _; k_upd)); (case k5 => k_mem); (case k6 => k_ne); (case k7 => omega); (case k8 => k_is); (case k9 => k_is); (case kA => k_is); (case kB => k_is); (case kC => omega))
  k_with "b33" => (intro n9 h9 F9 N9; (try dsimp only); (try k_sweep))
  k_with "g34" => (k_here)
  k_with "a34" => ((case k1 => k_asm); (case k2 => k_asm); (case k3 => k_asm); (case k4 => k_mem); (case k5 => first | exact IsPart.int _ _ | exact IsPart.none); (case k6 => first | exact IsPart.int _ _ | exact IsPart.none); (case k7 => k_is); (case k8 => k_is); (case k9 => k_is); (case kA => k_is); (case kB => omega); (case kC => with_unfolding_all rfl); (case kD => (intro _; with_unfolding_all rfl)))
  k_with "b34" => (intro D9 h9 F9 N9 l1; (try k_lt l1); (try k_sweep))
  k_with "g35" => (k_here; (with_reducible show wpAny _ _ (call (Value.builtin _) [Value.ref _, _]) _ _ _))
  k_with "a35" => ((case k1 => k_asm); (case k2 => (intro _; k_upd)); (case k3 => k_asm); (case k4 => k_asm); (case k5 => k_is); (case k6 => omega))
  k_with "b35" => (intro n9 h9 F9 N9; (try dsimp only); (try k_sweep))
  k_with "k_all" => (first | (with_reducible assumption) | fail "m_all")
  k_with "g36" => (k_here)
  k_with "a36" => ((case k1 => k_asm); (case k2 => k_mem); (case k3 => (intro _; k_upd)); (case k4 => k_asm); (case k5 => k_asm); (case k6 => with_unfolding_all rfl); (case k7 => decide +kernel); (case k8 => k_is); (case k9 => omega))
  k_with "b36" => (intro n9 h9 F9 N9; (try dsimp only); (try k_sweep))
  k_with "lt_room" => (first | with_unfolding_all exact room2 (j := 0) hdp rfl rfl | with_unfolding_all exact room0 (j := 0) hdp rfl rfl | with_unfolding_all exact room2 (j := 1) hdp rfl rfl | with_unfolding_all exact room0 (j := 1) hdp rfl rfl | with_unfolding_all exact room2 (j := 2) hdp rfl rfl | with_unfolding_all exact room0 (j := 2) hdp rfl rfl | with_unfolding_all exact room2 (j := 3) hdp rfl rfl | with_unfolding_all exact room0 (j := 3) hdp rfl rfl | with_unfolding_all exact room2 (j := 4) hdp rfl rfl | with_unfolding_all exact room0 (j := 4) hdp rfl rfl | with_unfolding_all exact room2 (j := 5) hdp rfl rfl | with_unfolding_all exact room0 (j := 5) hdp rfl rfl | with_unfolding_all exact room2 (j := 6) hdp rfl rfl | with_unfolding_all exact room0 (j := 6) hdp rfl rfl | with_unfolding_all exact room2 (j := 7) hdp rfl rfl | with_unfolding_all exact room0 (j := 7) hdp rfl rfl | (trace "heavy"; ktr_room))
  k_with "lt_units" => (first | with_unfolding_all exact room2 (j := 0) hun rfl rfl | with_unfolding_all exact room0 (j := 0) hun rfl rfl | with_unfolding_all exact room2 (j := 1) hun rfl rfl | with_unfolding_all exact room0 (j := 1) hun rfl rfl | with_unfolding_all exact room2 (j := 2) hun rfl rfl | with_unfolding_all exact room0 (j := 2) hun rfl rfl | with_unfolding_all exact room2 (j := 3) hun rfl rfl | with_unfolding_all exact room0 (j := 3) hun rfl rfl | with_unfolding_all exact room2 (j := 4) hun rfl rfl | with_unfolding_all exact room0 (j := 4) hun rfl rfl | with_unfolding_all exact room2 (j := 5) hun rfl rfl | with_unfolding_all exact room0 (j := 5) hun rfl rfl | with_unfolding_all exact room2 (j := 6) hun rfl rfl | with_unfolding_all exact room0 (j := 6) hun rfl rfl | with_unfolding_all exact room2 (j := 7) hun rfl rfl | with_unfolding_all exact room0 (j := 7) hun rfl rfl | (trace "heavy"; ktr_units))
  have kMark : KstMark := kstMark
  obtain ⟨ck, cnm, cig, cic, cmo⟩ := cs
  dsimp only at hk
  subst hk
  k_steps
  exact Stop.mk ⟨_, _, _, rfl, ⟨rfl, _, _, kst_ltOf (l := _ :: _) (by assumption), rfl⟩, by assumption, kst_newsOf (by assumption) (by kst_inAny)⟩
theorem from_p {x dx : Addr} {its : Array Value} {n c : Nat} {tk1 tk2 : Tok} {news : List (Addr × Obj)} (ne1 : ∀ p ∈ news, p.1 ≠ x) (hdx : (dx, dictOf [entS w "_initial_size" tk1 (.int 2 tk2)] c) ∈ news) (B : Below A₀ base outer h₀) (F : Fr h₀ L s.heap m) (X : (hd.heap_1 w.params).In h₀) (TP : Top p loose mean mg mb h₀) (hk : cs.kind = .function) (hdp : dp + 8 < recursionLimit) (hun : un + 80 < cLine) (e : its.size ≤ 1000) {k : Nat} {tk : Tok} (hk2 : k ≤ its.size) (N : News h₀ L s.heap ((x, subO 143 dx its n) :: news)) :
    wpAny (model PR w) (ktrTop dp un gd cn cs L a ccd cl outer) (call (.ref 95) [.ref x, .int (k : Int) tk]) (OutP h₀ L m s (fun r news2 => ∃ D n2, r = .ref D ∧ (∀ p ∈ (x, subO 143 dx its n) :: news, p.1 < D) ∧ news2 = (D, listOf (its.toList.drop k).toArray 0) :: (x, subO 143 dx (its.extract 0 k) n2) :: news)) (fun _ _ => False) s := by
  k_with_none
  w_top off
  k_with "m_enter" => ((case kA => exact rfl); (case kF => exact rfl); (case kK => assumption); (case k1 => k_asm); (case k2 => k_asm); (case k3 => k_asm); (case k5 => k_asm); (case k6 => k_is); (case k7 => k_is); (case k8 => walk_at "lt_room"); (case k9 => exact BindsTo.of_eq rfl); (case c5 => decide); (case kB => exact locs rfl); (case c2 => exact rfl); (case c3 => exact rfl); (case c4 => exact rfl); k_whole; intro g' L' h' F' N' B' X' T'; (try dsimp only [List.reverse, List.reverseAux, List.length]))
  k_with "m_pure" => ((case k1 => k_asm); (case k2 => k_asm); (case k3 => k_asm); (case k4 => k_asm); (case kK => first | exact rfl | assumption); (case kd => walk_at "lt_room"); (case ku => walk_at "lt_units"))
  k_with "m_useI" => (walk_at "m_pure"; (case k5 => k_asm); intro t9 h9 tk9 F9 N9; (try dsimp only); (try k_sweep))
  k_with "m_same" => (intro z h2 h3; (try simp only [List.forall_mem_cons, List.not_mem_nil, false_implies, implies_true, and_true, ne_eq, List.contains_cons, List.contains_nil, Bool.or_false, Bool.or_eq_false_iff, beq_eq_false_iff_ne] at h2 h3); simp [kstB, h2, h3])
  k_with "m_useB" => (walk_at "m_pure"; (case k5 => k_asm); intro h9 tk9 F9 N9; (try dsimp only); (try k_sweep))
  k_with "l_idx" => (k_dflt (k_extra "m_idx"))
  k_with "g9" => (k_here; (with_reducible show wpAny _ _ (subscriptTail _ _ (Value.ref _) (Value.int _ _)) _ _ _))
  k_with "a9" => ((case k1 => is_list); (case k3 => omega); (case k5 => omega); (case k6 => with_unfolding_all rfl); k_whole)
  k_with "pyIter ref" => (k_dflt (k_extra "m_iter"))
  k_with "g10" => skip
  k_with "m_sameN" => (intro z h1 h2 h3; (try simp only [List.forall_mem_cons, List.not_mem_nil, false_implies, implies_true, and_true, ne_eq, List.contains_cons, List.contains_nil, Bool.or_false, Bool.or_eq_false_iff, beq_eq_false_iff_ne] at h2 h3); first | rfl | ((show (if z = _ then _ else _) = _); rw [if_neg h1]; rfl) | (simp [kstB, h1, h2, h3]; done))
  k_with "mul_fits" => (k_extra "m_mul")
  k_with "InvEndN" => (refine stop_ ?_)
  k_with "KswEnd" => (refine stop_ ?_)
  k_with "m_new" => (first | exact List.forall_mem_nil _ | (refine List.forall_mem_cons.mpr ⟨⟨by k_mem, by k_all⟩, ?_⟩; walk_at "m_new"))
  k_with "g21" => skip
  k_with "a21" => ((case N => k_asm); (case h1 => k_mem); (case h2 => first | exact List.Mem.tail _ (by assumption) | exact List.Mem.tail _ (List.Mem.tail _ (by assumption)) | exact List.Mem.tail _ (List.Mem.tail _ (List.Mem.tail _ (by assumption))) | k_mem))
  k_with "g22" => skip
  k_with "a22" => ((case k1 => k_asm); (case k2 => k_asm); (case k3 => k_asm); (case k4 => k_mem); (case k5 => k_inst); (case k6 => k_is); (case k7 => ks_is); (case k8 => k_is); (case k9 => decide); intro q' h' F' N' l1; (try k_lt l1))
  k_with "g23" => skip
  k_with "a23" => ((case k1 => k_asm); (case k2 => k_asm); (case k3 => k_asm); (case k4 => k_mem); (case k5 => k_inst); (case k6 => k_is); (case k7 => ks_is); (case k8 => k_is); (case k9 => decide); intro q' h' F' N' l1; (try k_lt l1))
  k_with "g24" => skip
  k_with "a24" => ((case k1 => k_asm); (case k2 => k_asm); (case k3 => k_asm); (case k4 => k_mem); (case k5 => k_inst); (case k6 => k_is); (case k7 => ks_is); (case k8 => k_is); (case k9 => decide); intro q' h' F' N' l1; (try k_lt l1))
  k_with "g25" => (k_here)
  k_with "a25" => ((case k1 => k_asm); (case k2 => k_asm); (case k3 => k_inst); (case k4 => k_is); (case k5 => k_is); (case k6 => k_is); (case k7 => k_is); (case k8 => k_get); k_whole)
  k_with "g26" => (k_here)
  k_with "a26" => ((case k1 => k_asm); (case k2 => k_asm); (case k3 => k_inst); (case k4 => k_is); (case k5 => k_is); (case k6 => k_is); (case k8 => k_get); k_whole)
  k_with "getMethod ref" => (k_here; first | walk_at "m_super ll_desc" | walk_at "m_super li_desc" | walk_at "m_super lp_desc")
  k_with "g27" => (k_here)
  k_with "a27" => ((case k3 => k_asm); (case k4 => k_mem); (case k1 => decide); (case k2 => decide))
  k_with "g28" => (k_here)
  k_with "a28" => ((case k1 => k_asm); (case k2 => k_mem); (case k3 => k_mem); (case k4 => first | assumption | rfl))
  k_with "wpAt" => (ks_step "eval Call"; k_dflt (refine ks_wpAt_MethodCall ?_))
  k_with "wpAt" => (ks_step "exec Expr"; k_dflt (refine ks_wpAt_Expr_any ?_))
  k_with "wpAt" => (dsimp only; ks_step "execs cons"; refine ks_wpAt_execs_cons ?_)
  k_with "OutP" => (refine stop_ ?_)
  k_with "k_room" => (walk_at "lt_room")
  k_with "k_room" => (walk_at "lt_room")
  k_with "k_units" => (walk_at "lt_units")
  k_with "g29" => (k_here)
  k_with "a29" => ((case ne1 => k_asm); (case hdx => k_asm); (case k1 => k_asm); (case k2 => k_asm); (case k3 => k_asm); (case k4 => k_asm); (case kK => first | exact rfl | assumption); (case kd => walk_at "lt_room"); (case ku => walk_at "lt_units"); (case kN => k_asm))
  k_with "b29" => (intro t9 h9 tk9 F9 N9; (try dsimp only); (try k_sweep))
  k_with "g30" => (k_here)
  k_with "a30" => ((case k1 => k_asm); (case k2 => k_asm); (case k3 => k_asm); (case k4 => k_is); (case k5 => with_unfolding_all rfl); (case k6 => with_unfolding_all rfl); (case k7 => k_is); (case k8 => with_unfolding_all rfl); (case k9 => k_ne); (case kA => k_all))
  k_with "b30" => (intro h9 k9 F9 N9; (try dsimp only); (try k_sweep))
  k_with "g31" => (k_here)
  k_with "g32" => (k_here)
  k_with "a32" => ((case k1 => k_asm); (case k2 => k_mem); (case k3 => (intro _; k_upd)); (case k4 => k_asm))
  k_with "b32" => (intro n9 h9 F9 N9; (try dsimp only); (try k_sweep))
  k_with "g33" => (k_here)
  k_with "a33" => ((case k1 => k_asm); (case k2 => k_asm); (case k3 => k_asm); (case k4 => (intro _; k_upd)); (case k5 => k_mem); (case k6 => k_ne); (case k7 => omega); (case k8 => k_is); (case k9 => k_is); (case kA => k_is); (case kB => k_is); (case kC => omega))
  k_with "b33" => (intro n9 h9 F9 N9; (try dsimp only); (try k_sweep))
  k_with "g34" => (k_here)
  k_with "a34" => ((case k1 => k_asm); (case k2 => k_asm); (case k3 => k_asm); (case k4 => k_mem); (case k5 => first | exact IsPart.int _ _ | exact IsPart.none); (case k6 => first | exact IsPart.int _ _ | exact IsPart.none); (case k7 => k_is); (case k8 => k_is); (case k9 => k_is); (case kA => k_is); (case kB => omega); (case kC => with_unfolding_all rfl); (case kD => (intro _; with_unfolding_all rfl)))
  k_with "b34" => (intro D9 h9 F9 N9 l1; (try k_lt l1); (try k_sweep))
  k_with "g35" => (k_here; (with_reducible show wpAny _ _ (call (Value.builtin _) [Value.ref _, _]) _ _ _))
  k_with "a35" => ((case k1 => k_asm); (case k2 => (intro _; k_upd)); (case k3 => k_asm); (case k4 => k_asm); (case k5 => k_is); (case k6 => omega))
  k_with "b35" => (intro n9 h9 F9 N9; (try dsimp only); (try k_sweep))
  k_with "k_all" => (first | (with_reducible assumption) | fail "m_all")
  k_with "g36" => (k_here)
  k_with "a36" => ((case k1 => k_asm); (case k2 => k_mem); (case k3 => (intro _; k_upd)); (case k4 => k_asm); (case k5 => k_asm); (case k6 => with_unfolding_all rfl); (case k7 => decide +kernel); (case k8 => k_is); (case k9 => omega))
  k_with "b36" => (intro n9 h9 F9 N9; (try dsimp only); (try k_sweep))
  k_with "lt_room" => (first | with_unfolding_all exact room2 (j := 0) hdp rfl rfl | with_unfolding_all exact room0 (j := 0) hdp rfl rfl | with_unfolding_all exact room2 (j := 1) hdp rfl rfl | with_unfolding_all exact room0 (j := 1) hdp rfl rfl | with_unfolding_all exact room2 (j := 2) hdp rfl rfl | with_unfolding_all exact room0 (j := 2) hdp rfl rfl | with_unfolding_all exact room2 (j := 3) hdp rfl rfl | with_unfolding_all exact room0 (j := 3) hdp rfl rfl | with_unfolding_all exact room2 (j := 4) hdp rfl rfl | with_unfolding_all exact room0 (j := 4) hdp rfl rfl | with_unfolding_all exact room2 (j := 5) hdp rfl rfl | with_unfolding_all exact room0 (j := 5) hdp rfl rfl | with_unfolding_all exact room2 (j := 6) hdp rfl rfl | with_unfolding_all exact room0 (j := 6) hdp rfl rfl | with_unfolding_all exact room2 (j := 7) hdp rfl rfl | with_unfolding_all exact room0 (j := 7) hdp rfl rfl | (trace "heavy"; ktr_room))
  k_with "lt_units" => (first | with_unfolding_all exact room2 (j := 0) hun rfl rfl | with_unfolding_all exact room0 (j := 0) hun rfl rfl | with_unfolding_all exact room2 (j := 1) hun rfl rfl | with_unfolding_all exact room0 (j := 1) hun rfl rfl | with_unfolding_all exact room2 (j := 2) hun rfl rfl | with_unfolding_all exact room0 (j := 2) hun rfl rfl | with_unfolding_all exact room2 (j := 3) hun rfl rfl | with_unfolding_all exact room0 (j := 3) hun rfl rfl | with_unfolding_all exact room2 (j := 4) hun rfl rfl | with_unfolding_all exact room0 (j := 4) hun rfl rfl | with_unfolding_all exact room2 (j := 5) hun rfl rfl | with_unfolding_all exact room0 (j := 5) hun rfl rfl | with_unfolding_all exact room2 (j := 6) hun rfl rfl | with_unfolding_all exact room0 (j := 6) hun rfl rfl | with_unfolding_all exact room2 (j := 7) hun rfl rfl | with_unfolding_all exact room0 (j := 7) hun rfl rfl | (trace "heavy"; ktr_units))
  have kMark : KstMark := kstMark
  obtain ⟨ck, cnm, cig, cic, cmo⟩ := cs
  dsimp only at hk
  subst hk
  k_steps
  (rename News _ _ _ _ => nZ); rw [slicePick_from _ _ hk2] at nZ
  exact Stop.mk ⟨_, _, _, rfl, ⟨_, _, rfl, kst_ltOf (l := _ :: _) (by assumption), rfl⟩, by assumption, kst_newsOf nZ (by kst_inAny)⟩
theorem new_end {w : World} {h₀ : Heap} {L : Addr} {m : Str → Option Value} {s : Shared} {news all : List (Addr × Obj)} {h' : Heap} {tk : Nat} {x dx : Addr} {n c : Nat} {tk1 tk2 : Tok} (F : Fr h₀ L h' m) (N : News h₀ L h' all) (hx : (x, subO 143 dx #[] n) ∈ all) (hd : (dx, dictOf [entS w "_initial_size" tk1 (.int 2 tk2)] c) ∈ all) (hn : ∀ q ∈ news, q ∈ all) (l1 : ∀ p ∈ news, p.1 < dx) (l2 : @LT.lt Nat _ dx x) :
    OutP h₀ L m s (fun r news2 => ∃ x dx n c tk1 tk2, r = .ref x ∧ (∀ p ∈ news, p.1 < dx) ∧ dx < x ∧ news2 = (x, subO 143 dx #[] n) :: (dx, dictOf [entS w "_initial_size" tk1 (.int 2 tk2)] c) :: news) (.ref x) { s with heap := h', toks := tk } :=
  ⟨_, _, _, rfl, ⟨_, _, _, _, _, _, rfl, l1, l2, rfl⟩, F, fun p hp => by
    rcases List.mem_cons.mp hp with rfl | hp
    · exact N _ hx
    rcases List.mem_cons.mp hp with rfl | hp
    · exact N _ hd
    exact N _ (hn p hp)⟩
theorem new_p {t2 : Tok} {news : List (Addr × Obj)} (B : Below A₀ base outer h₀) (F : Fr h₀ L s.heap m) (X : (hd.heap_1 w.params).In h₀) (TP : Top p loose mean mg mb h₀) (hk : cs.kind = .function) (hdp : dp + 8 < recursionLimit) (hun : un + 80 < cLine) (N : News h₀ L s.heap news) :
    wpAny (model PR w) (ktrTop dp un gd cn cs L a ccd cl outer) (call (.ref 143) [.int 2 t2]) (OutP h₀ L m s (fun r news2 => ∃ x dx n c tk1 tk2, r = .ref x ∧ (∀ p ∈ news, p.1 < dx) ∧ dx < x ∧ news2 = (x, subO 143 dx #[] n) :: (dx, dictOf [entS w "_initial_size" tk1 (.int 2 tk2)] c) :: news)) (fun _ _ => False) s := by
  k_with_none
  w_top off
  k_with "m_enter" => ((case kA => exact rfl); (case kF => exact rfl); (case kK => assumption); (case k1 => k_asm); (case k2 => k_asm); (case k3 => k_asm); (case k5 => k_asm); (case k6 => k_is); (case k7 => k_is); (case k8 => walk_at "lt_room"); (case k9 => exact BindsTo.of_eq rfl); (case c5 => decide); (case kB => exact locs rfl); (case c2 => exact rfl); (case c3 => exact rfl); (case c4 => exact rfl); k_whole; intro g' L' h' F' N' B' X' T'; (try dsimp only [List.reverse, List.reverseAux, List.length]))
  k_with "m_pure" => ((case k1 => k_asm); (case k2 => k_asm); (case k3 => k_asm); (case k4 => k_asm); (case kK => first | exact rfl | assumption); (case kd => walk_at "lt_room"); (case ku => walk_at "lt_units"))
  k_with "m_useI" => (walk_at "m_pure"; (case k5 => k_asm); intro t9 h9 tk9 F9 N9; (try dsimp only); (try k_sweep))
  k_with "m_same" => (intro z h2 h3; (try simp only [List.forall_mem_cons, List.not_mem_nil, false_implies, implies_true, and_true, ne_eq, List.contains_cons, List.contains_nil, Bool.or_false, Bool.or_eq_false_iff, beq_eq_false_iff_ne] at h2 h3); simp [kstB, h2, h3])
  k_with "m_useB" => (walk_at "m_pure"; (case k5 => k_asm); intro h9 tk9 F9 N9; (try dsimp only); (try k_sweep))
  k_with "l_idx" => (k_dflt (k_extra "m_idx"))
  k_with "g9" => (k_here; (with_reducible show wpAny _ _ (subscriptTail _ _ (Value.ref _) (Value.int _ _)) _ _ _))
  k_with "a9" => ((case k1 => is_list); (case k3 => omega); (case k5 => omega); (case k6 => with_unfolding_all rfl); k_whole)
  k_with "pyIter ref" => (k_dflt (k_extra "m_iter"))
  k_with "g10" => skip
  k_with "m_sameN" => (intro z h1 h2 h3; (try simp only [List.forall_mem_cons, List.not_mem_nil, false_implies, implies_true, and_true, ne_eq, List.contains_cons, List.contains_nil, Bool.or_false, Bool.or_eq_false_iff, beq_eq_false_iff_ne] at h2 h3); first | rfl | ((show (if z = _ then _ else _) = _); rw [if_neg h1]; rfl) | (simp [kstB, h1, h2, h3]; done))
  k_with "mul_fits" => (k_extra "m_mul")
  k_with "InvEndN" => (refine stop_ ?_)
  k_with "KswEnd" => (refine stop_ ?_)
  k_with "m_new" => (first | exact List.forall_mem_nil _ | (refine List.forall_mem_cons.mpr ⟨⟨by k_mem, by k_all⟩, ?_⟩; walk_at "m_new"))
  k_with "g21" => skip
  k_with "a21" => ((case N => k_asm); (case h1 => k_mem); (case h2 => first | exact List.Mem.tail _ (by assumption) | exact List.Mem.tail _ (List.Mem.tail _ (by assumption)) | exact List.Mem.tail _ (List.Mem.tail _ (List.Mem.tail _ (by assumption))) | k_mem))
  k_with "g22" => skip
  k_with "a22" => ((case k1 => k_asm); (case k2 => k_asm); (case k3 => k_asm); (case k4 => k_mem); (case k5 => k_inst); (case k6 => k_is); (case k7 => ks_is); (case k8 => k_is); (case k9 => decide); intro q' h' F' N' l1; (try k_lt l1))
  k_with "g23" => skip
  k_with "a23" => ((case k1 => k_asm); (case k2 => k_asm); (case k3 => k_asm); (case k4 => k_mem); (case k5 => k_inst); (case k6 => k_is); (case k7 => ks_is); (case k8 => k_is); (case k9 => decide); intro q' h' F' N' l1; (try k_lt l1))
  k_with "g24" => skip
  k_with "a24" => ((case k1 => k_asm); (case k2 => k_asm); (case k3 => k_asm); (case k4 => k_mem); (case k5 => k_inst); (case k6 => k_is); (case k7 => ks_is); (case k8 => k_is); (case k9 => decide); intro q' h' F' N' l1; (try k_lt l1))
  k_with "g25" => (k_here)
  k_with "a25" => ((case k1 => k_asm); (case k2 => k_asm); (case k3 => k_inst); (case k4 => k_is); (case k5 => k_is); (case k6 => k_is); (case k7 => k_is); (case k8 => k_get); k_whole)
  k_with "g26" => (k_here)
  k_with "a26" => ((case k1 => k_asm); (case k2 => k_asm); (case k3 => k_inst); (case k4 => k_is); (case k5 => k_is); (case k6 => k_is); (case k8 => k_get); k_whole)
  k_with "getMethod ref" => (k_here; first | walk_at "m_super ll_desc" | walk_at "m_super li_desc" | walk_at "m_super lp_desc")
  k_with "g27" => (k_here)
  k_with "a27" => ((case k3 => k_asm); (case k4 => k_mem); (case k1 => decide); (case k2 => decide))
  k_with "g28" => (k_here)
  k_with "a28" => ((case k1 => k_asm); (case k2 => k_mem); (case k3 => k_mem); (case k4 => first | assumption | rfl))
  k_with "wpAt" => (ks_step "eval Call"; k_dflt (refine ks_wpAt_MethodCall ?_))
  k_with "wpAt" => (ks_step "exec Expr"; k_dflt (refine ks_wpAt_Expr_any ?_))
  k_with "wpAt" => (dsimp only; ks_step "execs cons"; refine ks_wpAt_execs_cons ?_)
  k_with "OutP" => (refine stop_ ?_)
  k_with "k_room" => (walk_at "lt_room")
  k_with "k_room" => (walk_at "lt_room")
  k_with "k_units" => (walk_at "lt_units")
  k_with "g29" => (k_here)
  k_with "a29" => ((case ne1 => k_asm); (case hdx => k_asm); (case k1 => k_asm); (case k2 => k_asm); (case k3 => k_asm); (case k4 => k_asm); (case kK => first | exact rfl | assumption); (case kd => walk_at "lt_room"); (case ku => walk_at "lt_units"); (case kN => k_asm))
  k_with "b29" => (intro t9 h9 tk9 F9 N9; (try dsimp only); (try k_sweep))
  k_with "g30" => (k_here)
  k_with "a30" => ((case k1 => k_asm); (case k2 => k_asm); (case k3 => k_asm); (case k4 => k_is); (case k5 => with_unfolding_all rfl); (case k6 => with_unfolding_all rfl); (case k7 => k_is); (case k8 => with_unfolding_all rfl); (case k9 => k_ne); (case kA => k_all))
  k_with "b30" => (intro h9 k9 F9 N9; (try dsimp only); (try k_sweep))
  k_with "g31" => (k_here)
  k_with "g32" => (k_here)
  k_with "a32" => ((case k1 => k_asm); (case k2 => k_mem); (case k3 => (intro _; k_upd)); (case k4 => k_asm))
  k_with "b32" => (intro n9 h9 F9 N9; (try dsimp only); (try k_sweep))
  k_with "g33" => (k_here)
  k_with "a33" => ((case k1 => k_asm); (case k2 => k_asm); (case k3 => k_asm); (case k4 => (intro _; k_upd)); (case k5 => k_mem); (case k6 => k_ne); (case k7 => omega); (case k8 => k_is); (case k9 => k_is); (case kA => k_is); (case kB => k_is); (case kC => omega))
  k_with "b33" => (intro n9 h9 F9 N9; (try dsimp only); (try k_sweep))
  k_with "g34" => (k_here)
  k_with "a34" => ((case k1 => k_asm); (case k2 => k_asm); (case k3 => k_asm); (case k4 => k_mem); (case k5 => first | exact IsPart.int _ _ | exact IsPart.none); (case k6 => first | exact IsPart.int _ _ | exact IsPart.none); (case k7 => k_is); (case k8 => k_is); (case k9 => k_is); (case kA => k_is); (case kB => omega); (case kC => with_unfolding_all rfl); (case kD => (intro _; with_unfolding_all rfl)))
  k_with "b34" => (intro D9 h9 F9 N9 l1; (try k_lt l1); (try k_sweep))
  k_with "g35" => (k_here; (with_reducible show wpAny _ _ (call (Value.builtin _) [Value.ref _, _]) _ _ _))
  k_with "a35" => ((case k1 => k_asm); (case k2 => (intro _; k_upd)); (case k3 => k_asm); (case k4 => k_asm); (case k5 => k_is); (case k6 => omega))
  k_with "b35" => (intro n9 h9 F9 N9; (try dsimp only); (try k_sweep))
  k_with "k_all" => (first | (with_reducible assumption) | fail "m_all")
  k_with "g36" => (k_here)
  k_with "a36" => ((case k1 => k_asm); (case k2 => k_mem); (case k3 => (intro _; k_upd)); (case k4 => k_asm); (case k5 => k_asm); (case k6 => with_unfolding_all rfl); (case k7 => decide +kernel); (case k8 => k_is); (case k9 => omega))
  k_with "b36" => (intro n9 h9 F9 N9; (try dsimp only); (try k_sweep))
  k_with "lt_room" => (first | with_unfolding_all exact room2 (j := 0) hdp rfl rfl | with_unfolding_all exact room0 (j := 0) hdp rfl rfl | with_unfolding_all exact room2 (j := 1) hdp rfl rfl | with_unfolding_all exact room0 (j := 1) hdp rfl rfl | with_unfolding_all exact room2 (j := 2) hdp rfl rfl | with_unfolding_all exact room0 (j := 2) hdp rfl rfl | with_unfolding_all exact room2 (j := 3) hdp rfl rfl | with_unfolding_all exact room0 (j := 3) hdp rfl rfl | with_unfolding_all exact room2 (j := 4) hdp rfl rfl | with_unfolding_all exact room0 (j := 4) hdp rfl rfl | with_unfolding_all exact room2 (j := 5) hdp rfl rfl | with_unfolding_all exact room0 (j := 5) hdp rfl rfl | with_unfolding_all exact room2 (j := 6) hdp rfl rfl | with_unfolding_all exact room0 (j := 6) hdp rfl rfl | with_unfolding_all exact room2 (j := 7) hdp rfl rfl | with_unfolding_all exact room0 (j := 7) hdp rfl rfl | (trace "heavy"; ktr_room))
  k_with "lt_units" => (first | with_unfolding_all exact room2 (j := 0) hun rfl rfl | with_unfolding_all exact room0 (j := 0) hun rfl rfl | with_unfolding_all exact room2 (j := 1) hun rfl rfl | with_unfolding_all exact room0 (j := 1) hun rfl rfl | with_unfolding_all exact room2 (j := 2) hun rfl rfl | with_unfolding_all exact room0 (j := 2) hun rfl rfl | with_unfolding_all exact room2 (j := 3) hun rfl rfl | with_unfolding_all exact room0 (j := 3) hun rfl rfl | with_unfolding_all exact room2 (j := 4) hun rfl rfl | with_unfolding_all exact room0 (j := 4) hun rfl rfl | with_unfolding_all exact room2 (j := 5) hun rfl rfl | with_unfolding_all exact room0 (j := 5) hun rfl rfl | with_unfolding_all exact room2 (j := 6) hun rfl rfl | with_unfolding_all exact room0 (j := 6) hun rfl rfl | with_unfolding_all exact room2 (j := 7) hun rfl rfl | with_unfolding_all exact room0 (j := 7) hun rfl rfl | (trace "heavy"; ktr_units))
  have kMark : KstMark := kstMark
  obtain ⟨ck, cnm, cig, cic, cmo⟩ := cs
  dsimp only at hk
  subst hk
  k_steps
  exact Stop.mk (new_end (by assumption) (by assumption) (by k_mem) (by k_mem) (by intro q hq; repeat (first | exact hq | refine List.Mem.tail _ ?_)) (by assumption) (by assumption))
end
set_option maxRecDepth 100000
/-- the entry of a def of one argument that is a cell -/
theorem pure_codeC {prog : Program} {w : World} {A A₀ : Around} {s : Shared} {K : Frag} {L : Addr} {h₀ base : Heap} {m mg mb : Str → Option Value} {p : Program} {loose : List Str} {mean : ExcName → Option Value} {env : Env} {outer : List Env} {name qual : Str} {params : Arguments} {body : List Stmt} {scope : Scope} {dV kV doc pm cdv ct oc : Value} {an od : Option Addr} {osl : Array (Option Value)} {f : Addr} {v : Value} {nm : Str} {Out : Value → List (Addr × Obj) → Prop}
    (B : Below A₀ base outer h₀) (F : Fr h₀ L s.heap m) (X₀ : K.In h₀) (T : Top p loose mean mg mb h₀) (hA : A.frames = some (env :: outer)) (hf : env.frame = some L) (hke : env.scope.kind = .function)
    (ho : K.lookup f = some ⟨oc, od, .func (fnX name qual params body scope [] dV kV doc pm an cdv ct), osl⟩) (hcd : codeIn K cdv qual = true) (hroom : A.depth < recursionLimit)
    (hbind : BindsTo s (fnX name qual params body scope [] dV kV doc pm an cdv ct) ⟨[v], []⟩ [(nm, v)])
    (hkind : scope.names.lookup nm = some .cell) (hcf : ∀ n, cellsFrom n scope.names [] = [(nm, n)])
    (h : ∀ g L' h₁ tk o, s.toks ≤ tk → Fr g L' h₁ (fun _ => none) → News g L' h₁ [(L' + 1, o)] → o.data = .cell (some v) → Below A base (env :: outer) g → K.In g → Top p loose mean mg mb g → (∀ b o, s.heap.get? b = some o → g.get? b = some o) →
      wpAny (model prog w) (A.deeper (envOfC qual scope L' f cdv)) (execs body (envOfC qual scope L' f cdv))
        (fun fl s' => LeaveP g [] Out s (match fl with | .ret v => v | _ => .none) s')
        (fun _ _ => False) { s with heap := h₁, toks := tk })
    (hco : scope.isCoroutine = false) (hgen : scope.isGenerator = false) (hk : scope.kind = .function) : PureAt prog w A h₀ L m s f [v] Out := by
  refine wpAny_call ?_
  obtain ⟨FG, BG, st, _⟩ := groundX (R := fun _ _ => True) B F News.nil hA hf hke
  have hnl : ¬ scope.names.lookup nm = some .local := by rw [hkind]; decide
  refine codeAny_call_function hroom ((X₀.keeps F.keep) _ _ ho) rfl hco hgen rfl (codeRec_of (X₀.keeps F.keep) hcd) (hbind _ _ _ _ ?_)
  refine wpAny_with_toks (Nat.le_refl s.toks) (wpAny_newFunctionEnv_cells hk (fun x hx => by
    rw [List.mem_singleton.mp hx]
    refine .inr ⟨hkind, ?_⟩
    rw [hcf]
    simp [List.lookup]) fun env' he s' x hle => ?_)
  subst he
  refine ⟨(T.nolimit.keeps F.keep).keeps x.toInCall.keep, codeAny_func ?_⟩
  obtain ⟨h₁, tk, rfl, _⟩ := x.done
  have hk₁ := x.toInCall.keep
  have hcell := x.cell nm (s.heap.objs.size + 1) (by
    show (cellsFrom (s.heap.objs.size + 1) scope.names []).lookup nm = _
    rw [hcf]
    simp [List.lookup])
  have hbc : bindC (callEnvC (fnX name qual params body scope [] dV kV doc pm an cdv ct) s.heap.objs.size f).kindOf [(nm, v)] (fun _ => none) nm = some v := by
    unfold bindC bindC
    rw [if_neg (show ¬ (callEnvC (fnX name qual params body scope [] dV kV doc pm an cdv ct) s.heap.objs.size f).kindOf nm = some .local from hnl), if_pos rfl]
  have hbl : bindL (callEnvC (fnX name qual params body scope [] dV kV doc pm an cdv ct) s.heap.objs.size f).kindOf [(nm, v)] (fun _ => none) = fun _ => none := by
    unfold bindL bindL
    rw [if_neg (show ¬ (callEnvC (fnX name qual params body scope [] dV kV doc pm an cdv ct) s.heap.objs.size f).kindOf nm = some .local from hnl)]
  replace hcell : h₁.IsCell (s.heap.objs.size + 1) (some v) := Eq.mp (congrArg (fun z => h₁.IsCell (s.heap.objs.size + 1) z) hbc) hcell
  obtain ⟨o, ho1, ho2⟩ := hcell
  have hns : h₁.Ns s.heap.objs.size (fun _ => none) := Eq.mp (congrArg (fun z => h₁.Ns s.heap.objs.size z) hbl) x.toInCall.ns
  refine wpAny_mono (h _ s.heap.objs.size h₁ tk o hle ⟨hns, fun b o e => hk₁ b o (of_hideAll _ e), Nat.le_of_eq (hideAll_size _ _)⟩ (fun q hq => ?_) ho2 BG (X₀.keeps st) (T.keeps st) fun b o e => hideAll_get _ e (fun h => nomatch h)) (fun fl s' hl => ?_) (fun _ _ x => x.elim)
  · rw [List.mem_singleton.mp hq]
    refine ⟨ho1, Nat.succ_ne_self _, ?_⟩
    cases e : (hideAll s.heap (([] : List (Addr × Obj)).map (·.1))).get? (s.heap.objs.size + 1) with
    | none => rfl
    | some o' => exact absurd (Heap.lt_size (of_hideAll _ e)) (Nat.not_lt.mpr (Nat.le_succ _))
  · obtain ⟨L', m', all, tl, h', tk', rfl, F', N', k, j, ou⟩ := hl
    have stay : s.heap.StaysIn h' := fun b ob e => F'.keep b ob (hideAll_get _ e (fun h => nomatch h))
    refine ⟨tl, h', tk', rfl, ou, ?_, stay, fun p hp => ⟨(N' p (j p hp).1).1, ?_⟩⟩
    · obtain ⟨oL, es, ep, hL, hLd, hLk, hLf⟩ := F.ns
      exact ⟨⟨oL, es, ep, stay L oL hL, hLd, hLk, hLf⟩, fun b o e => stay b o (F.keep b o e), F.above⟩
    · have e1 := (N' p (j p hp).1).2.2
      rwa [hideAll_ne _ (by simp)] at e1
/-- tokens: a bound that outlives a statement -/
noncomputable def TokThen (n : Nat) (P : Shared → Prop) (s : Shared) : Prop := n ≤ s.toks → P s
theorem tokThen_ {n : Nat} {P : Shared → Prop} {h : Heap} {g d X o} (k : ∀ tk, n ≤ tk → tk = X → P ⟨h, g, d, tk, o⟩) : TokThen n P ⟨h, g, d, X, o⟩ := fun q => k X q rfl
theorem execs_consT {M : Model} {A : Around} {E : Value → Shared → Prop} {s : Shared} {env : Env} {st : Stmt} {rest : List Stmt} {Q : Flow → Shared → Prop} (n : Nat) (hn : n ≤ s.toks)
    (h : wpAny M A (exec st env) (fun f s' => TokThen n (fun s' => match f with | .next => wpAny M A (execs rest env) Q E s' | f => Q f s') s') E s) : wpAny M A (execs (st :: rest) env) Q E s :=
  wpAny_execs_cons (wpAny_with_toks hn (wpAny_mono h (fun f s' q => q) fun e s' q _ => q))
theorem out_useT {prog : Program} {w : World} {A : Around} {E Q : Value → Shared → Prop} {s : Shared} {h₀ : Heap} {L : Addr} {m : Str → Option Value} {f : Value} {vs : List Value} {Out : Value → List (Addr × Obj) → Prop} (C : wpAny (model prog w) A (call f vs) (OutP h₀ L m s Out) (fun _ _ => False) s)
    (k : ∀ r news' h' tk', s.toks ≤ tk' → Out r news' → Fr h₀ L h' m → News h₀ L h' news' → Q r { s with heap := h', toks := tk' }) : wpAny (model prog w) A (call f vs) Q E s := by
  refine wpAny_mono (wpAny_toks C) (fun r s' hr => ?_) fun _ _ e => e.2.elim
  obtain ⟨hle, news', h', tk', rfl, o, F', N'⟩ := hr
  exact k r news' h' tk' hle o F' N'
structure WsFig (r : WsR) (x : Str) : Prop where
  i : IntsAre r.cv r.cnt
  e : (⟨r.n, r.b, r.nt, r.cnt⟩ : Scan) = scanF x.cps.toList
  sim : r.sim = decide ((r.cnt.length : Int) ≤ 1)
noncomputable abbrev WsL (w : World) (r : WsR) : List (Addr × Obj) := [(r.x, instObj 209 r.dx), (r.dx, r.dict w), (r.no, tupO [.ref r.ct, .int r.b r.u4]), (r.ct, tupO r.cv)]
/-- a Whitespace made: its entries are a list nw of new ones -/
theorem ws_useT {prog : Program} {w : World} {A : Around} {E Q : Value → Shared → Prop} {s : Shared} {h₀ : Heap} {L : Addr} {m : Str → Option Value} {f : Value} {vs : List Value} {x : Str} {news : List (Addr × Obj)} (C : wpAny (model prog w) A (call f vs) (NewsP h₀ L m s news (WsOut w x)) (fun _ _ => False) s)
    (k : ∀ (r : WsR) nw h' tk', s.toks ≤ tk' → WsFig r x → (∀ e ∈ WsL w r, e ∈ nw) → (∀ p ∈ nw, ∀ q ∈ news, p.1 ≠ q.1) → Fr h₀ L h' m → News h₀ L h' (news ++ nw) → Q (.ref r.x) { s with heap := h', toks := tk' }) : wpAny (model prog w) A (call f vs) Q E s := by
  refine wpAny_mono (wpAny_toks C) (fun r s' hr => ?_) fun _ _ e => e.2.elim
  obtain ⟨hle, tl, h', tk', rfl, o, F', N', l⟩ := hr
  obtain ⟨px, pdx, pno, pct, pn, pnt, pb, pcv, pcnt, psim, pc, pt1, pt2, pt3, pt4, pt5, pu1, pu2, pu3, pu4, plead, rfl, rfl, h1, h2, h3⟩ := o
  exact k ⟨px, pdx, pno, pct, plead, pn, pnt, pcv, pcnt, pb, psim, pc, pt1, pt2, pt3, pt4, pt5, pu1, pu2, pu3, pu4⟩ _ h' tk' hle ⟨h1, h2, h3⟩ (fun e he => he) (fun p hp q hq => Nat.ne_of_gt (l p hp q hq)) F' fun p hp => N' p (by
    rcases List.mem_append.mp hp with hp | hp
    · exact List.mem_append_right _ hp
    · exact List.mem_append_left _ hp)
/-- an item of a list of texts that the base holds -/
theorem item_strB {prog : Program} {w : World} {A : Around} {E : Value → Shared → Prop} {s : Shared} {value slice : PySem.Expr} {l : Addr} {lv : List Value} {leads : List Str} {k : Int} {u : Tok} {Q : Value → Shared → Prop} (hl : s.heap.IsList l lv.toArray) (hi : StrsAre lv leads) (h0 : 0 ≤ k) (h1 : k < (leads.length : Int)) (hfit : k < 2 ^ 63)
    (h : ∀ x t, leads[k.toNat]? = some x → x ∈ leads → Q (.str x t) s)
    (hs : subscripted slice false (.ref l) (.int k u) = operate [.ref l, .int k u] (getItem (.ref l) (.int k u))) :
    wpAny (model prog w) A (subscriptTail value slice (.ref l) (.int k u)) Q E s := by
  have hk : k.toNat < lv.length := by rw [strs_len hi]; omega
  have e : lv.toArray[k.toNat]? = some lv[k.toNat] := by simp [hk]
  obtain ⟨x, t, ex, e2, e3⟩ := strs_get hi e
  exact tail_any hl.typeIs slot_list_getitem.lookup (wpAny_getItem_list hl h0 hfit e (by rw [ex]; exact h x t e2 e3)) hs
inductive All2 (R : Value → Nat → Prop) : List Value → List Nat → Prop
  | nil : All2 R [] []
  | cons {v : Value} {j : Nat} {vs : List Value} {js : List Nat} : R v j → All2 R vs js → All2 R (v :: vs) (j :: js)
theorem All2.mono {R R' : Value → Nat → Prop} {vs : List Value} {js : List Nat} (h : All2 R vs js) (k : ∀ v j, R v j → R' v j) : All2 R' vs js := by
  induction h with
  | nil => exact .nil
  | cons a _ ih => exact .cons (k _ _ a) ih
theorem All2.length {R : Value → Nat → Prop} {vs : List Value} {js : List Nat} (h : All2 R vs js) : vs.length = js.length := by
  induction h with
  | nil => rfl
  | cons _ _ ih => simp [ih]
theorem All2.take {R : Value → Nat → Prop} {vs : List Value} {js : List Nat} (h : All2 R vs js) : ∀ d, All2 R (vs.take d) (js.take d) := by
  induction h with
  | nil => intro d; simp; exact .nil
  | cons a _ ih => intro d; cases d with
    | zero => exact .nil
    | succ d => exact .cons a (ih d)
theorem All2.drop {R : Value → Nat → Prop} {vs : List Value} {js : List Nat} (h : All2 R vs js) : ∀ d, All2 R (vs.drop d) (js.drop d) := by
  induction h with
  | nil => intro d; simp; exact .nil
  | cons a b ih => intro d; cases d with
    | zero => exact .cons a b
    | succ d => exact ih d
theorem All2.snoc {R : Value → Nat → Prop} {vs : List Value} {js : List Nat} {v : Value} {j : Nat} (h : All2 R vs js) (a : R v j) : All2 R (vs ++ [v]) (js ++ [j]) := by
  induction h with
  | nil => exact .cons a .nil
  | cons b _ ih => exact .cons b ih
theorem All2.get {R : Value → Nat → Prop} {vs : List Value} {js : List Nat} (h : All2 R vs js) : ∀ {i : Nat} {v : Value}, vs[i]? = some v → ∃ j, js[i]? = some j ∧ R v j := by
  induction h with
  | nil => intro i v e; simp at e
  | cons a _ ih => intro i v e; cases i with
    | zero => simp at e; subst e; exact ⟨_, rfl, a⟩
    | succ i => simpa using ih (by simpa using e)
set_option maxRecDepth 100000
set_option maxHeartbeats 1000000
noncomputable def lessW (x y : Str) : Bool :=
  lessF (scanF x.cps.toList).n (decide (((scanF x.cps.toList).cnt.length : Int) ≤ 1)) (scanF x.cps.toList).nt (scanF x.cps.toList).cnt (scanF x.cps.toList).b
    (scanF y.cps.toList).n (decide (((scanF y.cps.toList).cnt.length : Int) ≤ 1)) (scanF y.cps.toList).nt (scanF y.cps.toList).cnt (scanF y.cps.toList).b
noncomputable def lsOf (leads : List Str) (j r : Nat) : Bool := lessW (leads.getD j ⟨#[]⟩) (leads.getD r ⟨#[]⟩)
theorem less_fig {r q : WsR} {x y : Str} (hr : WsFig r x) (hq : WsFig q y) : lessF r.n r.sim r.nt r.cnt r.b q.n q.sim q.nt q.cnt q.b = lessW x y := by
  unfold lessW
  rw [← hr.e, ← hq.e, hr.sim, hq.sim]
structure FigBd (r : WsR) : Prop where
  l : r.cnt.length ≤ 4
  b0 : 0 ≤ r.b
  b1 : r.b ≤ 4
  m : ∀ c ∈ r.cnt, 0 ≤ c ∧ c ≤ 4
  n0 : 0 ≤ r.nt
  n1 : r.nt ≤ 4
theorem fig_bd {r : WsR} {x : Str} (hr : WsFig r x) (hx : x.cps.size ≤ 4) : FigBd r := by
  have h := scan_bd x.cps.toList
  rw [← hr.e] at h
  have hl : x.cps.toList.length ≤ 4 := by simpa using hx
  refine ⟨Nat.le_trans h.l hl, h.b.1, ?_, fun c hc => ⟨(h.m c hc).1, ?_⟩, h.nt.1, ?_⟩
  · have := h.b.2; dsimp only at this; omega
  · have := (h.m c hc).2; omega
  · have := h.nt.2; dsimp only at this; omega
section
variable {w : World} {p : Program} {loose : List Str} {mean : ExcName → Option Value} {mg mb : Str → Option Value} {dp un : Nat} {gd : Option (List Code)} {cn : Str} {cs : Scope} {a : Addr} {ccd : Value} {cl : List (Str × Addr)} {outer : List Env} {A₀ : Around} {base h₀ : Heap} {L : Addr} {m : Str → Option Value} {s : Shared}
theorem less_ws {r q : WsR} {x y : Str} (fr : WsFig r x) (fq : WsFig q y) (hx : x.cps.size ≤ 4) (hy : y.cps.size ≤ 4) (B : Below A₀ base outer h₀) (F : Fr h₀ L s.heap m) (X : (hd.heap_1 w.params).In h₀) (TP : Top p loose mean mg mb h₀) (hk : cs.kind = .function) (hdp : dp + 8 < recursionLimit) (hun : un + 80 < cLine) (N : News h₀ L s.heap (WsL w r ++ WsL w q)) :
    PureAt PR w (ktrTop dp un gd cn cs L a ccd cl outer) h₀ L m s 199 [.ref r.x, .ref q.x] (fun r' tl => tl = [] ∧ r' = .bool (lessW x y)) := by
  have b1 := fig_bd fr hx
  have b2 := fig_bd fq hy
  rw [← less_fig fr fq]
  exact less_p fr.i b1.l b1.b0 b1.b1 b1.m b1.n0 b1.n1 fq.i b2.l b2.b0 b2.b1 b2.m b2.n0 b2.n1 B F X TP hk hdp hun N
end
theorem pure_useBT {prog : Program} {w : World} {A : Around} {h₀ : Heap} {L : Addr} {m : Str → Option Value} {s : Shared} {f : Addr} {vs : List Value} {x : Bool} {news : List (Addr × Obj)} {Q E : Value → Shared → Prop}
    (C : PureAt prog w A h₀ L m s f vs (fun r tl => tl = [] ∧ r = .bool x)) (N : News h₀ L s.heap news)
    (h : ∀ h' tk', s.toks ≤ tk' → Fr h₀ L h' m → News h₀ L h' news → Q (.bool x) { s with heap := h', toks := tk' }) : wpAny (model prog w) A (call (.ref f) vs) Q E s := by
  refine wpAny_mono (wpAny_toks C) (fun r s' hr => ?_) (fun _ _ x => x.2.elim)
  obtain ⟨hle, tl, h', tk', rfl, ⟨rfl, rfl⟩, F', st, _⟩ := hr
  exact h h' tk' hle F' fun p hp => ⟨st _ _ (N p hp).1, (N p hp).2.1, (N p hp).2.2⟩
theorem pure_useIT {prog : Program} {w : World} {A : Around} {h₀ : Heap} {L : Addr} {m : Str → Option Value} {s : Shared} {f : Addr} {vs : List Value} {x : Int} {news : List (Addr × Obj)} {Q E : Value → Shared → Prop}
    (C : PureAt prog w A h₀ L m s f vs (fun r tl => tl = [] ∧ ∃ t, r = .int x t)) (N : News h₀ L s.heap news)
    (h : ∀ t h' tk', s.toks ≤ tk' → Fr h₀ L h' m → News h₀ L h' news → Q (.int x t) { s with heap := h', toks := tk' }) : wpAny (model prog w) A (call (.ref f) vs) Q E s := by
  refine wpAny_mono (wpAny_toks C) (fun r s' hr => ?_) (fun _ _ x => x.2.elim)
  obtain ⟨hle, tl, h', tk', rfl, ⟨rfl, t, rfl⟩, F', st, _⟩ := hr
  exact h t h' tk' hle F' fun p hp => ⟨st _ _ (N p hp).1, (N p hp).2.1, (N p hp).2.2⟩
/-- what lies on the pile for row j -/
noncomputable def PileAt (tl : List (Addr × Obj)) (leads : List Str) (tb : Nat) (v : Value) (j : Nat) : Prop := ∃ T t u x, v = .ref T ∧ (T, tupO [.str x t, .str ⟨#[97 + j]⟩ u]) ∈ tl ∧ leads[j]? = some x ∧ j < 8 ∧ 0 < u ∧ u < tb
noncomputable def HeldAt (w : World) (tl : List (Addr × Obj)) (leads : List Str) (v : Value) (j : Nat) : Prop := ∃ (r : WsR) (x : Str), v = .ref r.x ∧ (∀ e ∈ WsL w r, e ∈ tl) ∧ leads[j]? = some x ∧ WsFig r x
theorem PileAt.mono {tl tl' : List (Addr × Obj)} {leads : List Str} {tb tb' : Nat} (k : ∀ p ∈ tl, p ∈ tl') (h : tb ≤ tb') {v : Value} {j : Nat} (a : PileAt tl leads tb v j) : PileAt tl' leads tb' v j := by
  obtain ⟨T, t, u, x, h1, h2, h3, h4, h5, h6⟩ := a
  exact ⟨T, t, u, x, h1, k _ h2, h3, h4, h5, Nat.lt_of_lt_of_le h6 h⟩
theorem HeldAt.mono {w : World} {tl tl' : List (Addr × Obj)} {leads : List Str} (k : ∀ p ∈ tl, p ∈ tl') {v : Value} {j : Nat} (a : HeldAt w tl leads v j) : HeldAt w tl' leads v j := by
  obtain ⟨r, x, h1, h2, h3, h4⟩ := a
  exact ⟨r, x, h1, fun e he => k _ (h2 e he), h3, h4⟩
/-- how far the new row pushes down -/
structure DepthIs (ls : Nat → Nat → Bool) (way : List Nat) (r d : Nat) : Prop where
  le : d ≤ way.length
  off : ∀ j k, d ≤ j → way[j]? = some k → ls k r = false
  stop : d = 0 ∨ ∃ k, way[d - 1]? = some k ∧ ls k r = true
noncomputable def setAll (lasts : List Int) (js : List Nat) (r : Nat) : List Int := js.foldl (fun l j => l.set j (r : Int)) lasts
inductive ReadR (ls : Nat → Nat → Bool) : Nat → List Nat → List Int → List Int → Prop
  | zero : ReadR ls 0 [] [] [8, 8, 8, 8, 8, 8, 8, 8]
  | step {i : Nat} {way : List Nat} {hooks lasts : List Int} {d : Nat} : ReadR ls i way hooks lasts → DepthIs ls way i d →
      ReadR ls (i + 1) (way.take d ++ [i]) (hooks ++ [if i = 0 then 0 else ((way.getD (d - 1) 0 : Nat) : Int)]) (setAll lasts (way.drop d) i)
theorem setAll_length (js : List Nat) (r : Nat) : ∀ lasts : List Int, (setAll lasts js r).length = lasts.length := by
  induction js with
  | nil => intro l; rfl
  | cons j js ih => intro l; show (setAll (l.set j r) js r).length = _; rw [ih, List.length_set]
structure ReadB (ls : Nat → Nat → Bool) (i : Nat) (way : List Nat) (hooks lasts : List Int) : Prop where
  h : hooks.length = i
  l : lasts.length = 8
  w : ∀ j ∈ way, j < i
  n : way.length ≤ i
  z : 0 < i → way[0]? = some 0
theorem readB {ls : Nat → Nat → Bool} {i : Nat} {way : List Nat} {hooks lasts : List Int} (h : ReadR ls i way hooks lasts) (h0 : ∀ r, 0 < r → r < 8 → ls 0 r = true) (hi : i ≤ 8) : ReadB ls i way hooks lasts := by
  induction h with
  | zero => exact ⟨rfl, rfl, (fun _ h => nomatch h), Nat.le_refl _, fun h => absurd h (Nat.lt_irrefl _)⟩
  | @step i way hooks lasts d h hd ih =>
    obtain ⟨h1, h2, h3, h4, h5⟩ := ih (by omega)
    refine ⟨by simp [h1], by rw [setAll_length, h2], fun j hj => ?_, ?_, fun _ => ?_⟩
    · rcases List.mem_append.mp hj with hj | hj
      · exact Nat.lt_succ_of_lt (h3 j (List.mem_of_mem_take hj))
      · rw [List.mem_singleton.mp hj]; exact Nat.lt_succ_self _
    · rw [List.length_append, List.length_take, List.length_singleton]; omega
    · rcases Nat.eq_zero_or_pos i with q | q
      · subst q
        have : way = [] := List.length_eq_zero_iff.mp (by omega)
        subst this
        simp
      · have hz := h5 q
        have hd0 : 0 < d := by
          rcases Nat.eq_zero_or_pos d with e | e
          · subst e
            have := hd.off 0 0 (Nat.le_refl _) hz
            rw [h0 i q (by omega)] at this
            cases this
          · exact e
        rw [List.getElem?_append_left (by rw [List.length_take]; have := (List.getElem?_eq_some_iff.mp hz).1; omega), List.getElem?_take, if_pos hd0]
        exact hz
theorem depth_pos {ls : Nat → Nat → Bool} {i d : Nat} {way : List Nat} {hooks lasts : List Int} (h : ReadB ls i way hooks lasts) (hd : DepthIs ls way i d) (h0 : ls 0 i = true) (hi : 0 < i) : 0 < d := by
  rcases Nat.eq_zero_or_pos d with e | e
  · subst e
    have := hd.off 0 0 (Nat.le_refl _) (h.z hi)
    rw [h0] at this
    cases this
  · exact e
/-- the data of a row's pair -/
noncomputable def rowD (leads : List Str) (j : Nat) : PyData := .tuple [.str (leads.getD j ⟨#[]⟩), .str ⟨#[97 + j]⟩]
theorem reads_pile {h₀ h : Heap} {L : Addr} {tl : List (Addr × Obj)} {leads : List Str} {tb : Nat} (N : News h₀ L h tl) {vs : List Value} {js : List Nat} (a : All2 (PileAt tl leads tb) vs js) : ReadsAll h vs (js.map (rowD leads)) [] := by
  induction a with
  | nil => exact .nil
  | @cons v j vs js b _ ih =>
    obtain ⟨T, t, u, x, rfl, hm, hx, _⟩ := b
    refine readsAll_cons_val ?_ ih
    have e : leads.getD j ⟨#[]⟩ = x := by rw [List.getD_eq_getElem?_getD, hx]; rfl
    show Reads h (.ref T) (.tuple [.str (leads.getD j ⟨#[]⟩), .str ⟨#[97 + j]⟩]) []
    rw [e]
    exact reads_tuple_at (N _ hm).1 rfl rfl (readsAll_cons_val (.str _ _) (readsAll_cons_val (.str _ _) .nil))
theorem rows_lay (leads : List Str) : ∀ js : List Nat, (∀ j ∈ js, PyData.strOk (leads.getD j ⟨#[]⟩) = true ∧ j < 8) → PyData.canLayAll0 (js.map (rowD leads)) = true
  | [], _ => rfl
  | j :: js, h => by
    simp only [List.map_cons, PyData.canLayAll0, rows_lay leads js fun k hk => h k (.tail _ hk), Bool.and_true, rowD, PyData.canLay0, (h j (.head _)).1, Bool.true_and]
    have h8 := (h j (.head _)).2
    clear h
    revert h8
    revert j
    decide +kernel
theorem rows_depth (leads : List Str) : ∀ js : List Nat, PyData.depthAll (js.map (rowD leads)) ≤ 1
  | [] => Nat.zero_le _
  | j :: js => by
    have := rows_depth leads js
    simp only [List.map_cons, PyData.depthAll]
    refine Nat.max_le.mpr ⟨?_, this⟩
    simp [rowD, PyData.depth, PyData.depthAll]
theorem rows_shaped (leads : List Str) (js : List Nat) (hj : ∀ j ∈ js, PyData.strOk (leads.getD j ⟨#[]⟩) = true ∧ j < 8) : SeqAt.shaped (.list (js.map (rowD leads))) = true := by
  have := rows_depth leads js
  unfold SeqAt.shaped
  rw [Bool.and_eq_true]
  refine ⟨by simp only [PyData.canLay0, rows_lay leads js hj], decide_eq_true ?_⟩
  simp only [PyData.depth]
  omega
theorem ne_rows {prog : Program} {w : World} {A : Around} {E : Value → Shared → Prop} {s : Shared} {a b : Value} {as bs : List Addr} {leads : List Str} {js : List Nat} {Q : Value → Shared → Prop} (hj : ∀ j ∈ js, PyData.strOk (leads.getD j ⟨#[]⟩) = true ∧ j < 8) (ra : Reads s.heap a (.list (js.map (rowD leads))) as) (rb : Reads s.heap b (.list (js.map (rowD leads))) bs) (hu : A.units + 64 < cLine)
    (h : Q (.bool false) s) : wpAny (model prog w) A (compareOp .NotEq a b) Q E s := by
  refine ne_dataH ra rb (rows_shaped _ _ hj) (rows_shaped _ _ hj) hu ?_
  rw [SeqAt.eqv_refl _ (SeqAt.canLay_of_shaped (rows_shaped _ _ hj))]
  exact h
theorem compRest_of {prog : Program} {w : World} {A : Around} {h₀ : Heap} {L : Addr} {m : Str → Option Value} {env : Env} {elt : Expr} {x : Str} {scope : Scope} {cl : List (Str × Addr)} {s : Shared} {S : List (Addr × Obj) → Prop} {P : Nat → Value → Prop} {Fin : List Value → List (Addr × Obj) → Prop} {n : Nat} (Inv : Nat → List Value → List (Addr × Obj) → Prop)
    (step : ∀ i ys news v I oI C oC D m₂ h tk (E' : Value → Shared → Prop), i < n → Inv i ys news → P i v → LCg.NsObj oC m₂ → m₂ x = some v → Fr h₀ L h m → News h₀ L h ((I, oI) :: (C, oC) :: (D, LCg.lst ys) :: news) → LCg.Off3 I C D news → ((@Ne Nat I C) ∧ (@Ne Nat I D) ∧ (@Ne Nat C D)) →
      wpAny (model prog w) A (eval elt (compEnvC scope cl C env)) (LCg.CompEnd h₀ L m { s with heap := h, toks := tk } I oI C oC D (LCg.lst ys) S (fun y news' => Inv (i + 1) (ys ++ [y]) news')) E' { s with heap := h, toks := tk })
    (fin : ∀ ys news, Inv n ys news → Fin ys news) : ∀ k i ys news, i + k = n → Inv i ys news → LCg.CompRest prog w A h₀ L m env elt x scope cl s S P Fin k i ys news
  | 0, i, ys, news, e, h => LCg.CompRest.zero (fin ys news (by have : i = n := e; subst this; exact h))
  | k + 1, i, ys, news, e, h => LCg.CompRest.succ fun v I oI C oC D m₂ hh tk E' a b c d f g o => wpAny_mono (step i ys news v I oI C oC D m₂ hh tk E' (by omega) h a b c d f g o) (fun y s₂ q => by
      obtain ⟨h', tk', news', e1, e2, e3, e4, e5, e6⟩ := q
      exact ⟨h', tk', news', e1, e2, e3, e4, e5, compRest_of Inv step fin k (i + 1) _ _ (by omega) e6⟩) fun _ _ q => q
structure RdS where
  its : Array Value
  pn : Nat
  kv : List Value
  kn : Nat
  hooks : List Int
  sv : List Value
  sn : Nat
  lasts : List Int
  H : Addr
  W : Addr
  hv : List Value
  wv : List Value
  hn : Nat
  wn : Nat
  way : List Nat
  tl : List (Addr × Obj)
  tb : Nat
noncomputable abbrev RdS.Led (x dx K S : Addr) (c : RdS) : List (Addr × Obj) := (x, subO 143 dx c.its c.pn) :: (K, listOf c.kv.toArray c.kn) :: (S, listOf c.sv.toArray c.sn) :: c.tl
noncomputable abbrev natI (js : List Nat) : List Int := js.map fun j : Nat => (j : Int)
structure RdS.Facts (w : World) (leads : List Str) (x K S : Addr) (fix : List (Addr × Obj)) (c : RdS) : Prop where
  ox : ∀ p ∈ c.tl, p.1 ≠ x
  oK : ∀ p ∈ c.tl, p.1 ≠ K
  oS : ∀ p ∈ c.tl, p.1 ≠ S
  ik : IntsAre c.kv c.hooks
  is : IntsAre c.sv c.lasts
  mH : (c.H, listOf c.hv.toArray c.hn) ∈ c.tl
  mW : (c.W, listOf c.wv.toArray c.wn) ∈ c.tl
  aH : All2 (HeldAt w c.tl leads) c.hv c.way
  aW : IntsAre c.wv (natI c.way)
  aP : All2 (PileAt c.tl leads c.tb) c.its.toList c.way
  fx : ∀ p ∈ fix, p ∈ c.tl
  tb : 0 < c.tb
theorem news_read {h₀ h : Heap} {L a1 a2 a3 a4 a5 a6 : Addr} {o1 o3 o4 o5 o6 : Obj} {t : Tok} {n2 : Nat} {r : List (Addr × Obj)} (_ : News h₀ L h ((a1, o1) :: (a2, listOf (List.replicate (Int.toNat 8) [Value.int 8 t]).flatten.toArray n2) :: (a3, o3) :: (a4, o4) :: (a5, o5) :: (a6, o6) :: r)) :
    ∃ x2 x4 x5 x6 t', x2 = a2 ∧ x4 = a4 ∧ x5 = a5 ∧ x6 = a6 ∧ t' = t := ⟨_, _, _, _, _, rfl, rfl, rfl, rfl, rfl⟩
theorem ints_rep8 {t : Tok} : IntsAre (List.replicate (Int.toNat 8) [Value.int 8 t]).flatten [8, 8, 8, 8, 8, 8, 8, 8] := .cons _ _ (.cons _ _ (.cons _ _ (.cons _ _ (.cons _ _ (.cons _ _ (.cons _ _ (.cons _ _ .nil)))))))
theorem rd_0 {w : World} {leads : List Str} {x K S H W : Addr} {sv : List Value} {pn : Nat} {fix : List (Addr × Obj)} (is : IntsAre sv [8, 8, 8, 8, 8, 8, 8, 8]) (h1 : ∀ p ∈ (H, listOf #[] 0) :: (W, listOf #[] 0) :: fix, p.1 ≠ x) (h2 : ∀ p ∈ (H, listOf #[] 0) :: (W, listOf #[] 0) :: fix, p.1 ≠ K) (h3 : ∀ p ∈ (H, listOf #[] 0) :: (W, listOf #[] 0) :: fix, p.1 ≠ S) :
    RdS.Facts w leads x K S fix ⟨#[], pn, [], 0, [], sv, 0, [8, 8, 8, 8, 8, 8, 8, 8], H, W, [], [], 0, 0, [], (H, listOf #[] 0) :: (W, listOf #[] 0) :: fix, 1⟩ :=
  ⟨h1, h2, h3, .nil, is, .head _, .tail _ (.head _), .nil, .nil, .nil, fun p hp => .tail _ (.tail _ hp), Nat.one_pos⟩
theorem for_T {M : Model} {A : Around} {E : Value → Shared → Prop} {s : Shared} {env : Env} {target iter : Expr} {body orelse : List Stmt} {pos : Pos} {Q : Flow → Shared → Prop} (n : Nat) (hn : n ≤ s.toks) (hs : ∀ x, foldedSetIterable iter env x = pure x)
    (h : wpAny M A (eval iter env) (fun x s₁ => TokThen n (fun s₁ => wpAny M A (pyIter x) (fun it s₂ => codeAny M A (.forLoop target it body orelse env) (fun r s' => match r with | .ok f => Q f s' | .error e => cameBackBy M A env E e s') s₂) E s₁) s₁) E s) :
    wpAny M A (exec (.For target iter body orelse pos) env) Q E s :=
  wpAny_For (wpAny_with_toks hn (wpAny_mono h (fun f s' q => q) fun e s' q _ => q)) hs
theorem out_useIT {prog : Program} {w : World} {A : Around} {E Q : Value → Shared → Prop} {s : Shared} {h₀ : Heap} {L : Addr} {m : Str → Option Value} {f : Value} {vs : List Value} {z : Int} {n2 : List (Addr × Obj)} (C : wpAny (model prog w) A (call f vs) (OutP h₀ L m s (fun r news2 => (∃ t, r = .int z t) ∧ news2 = n2)) (fun _ _ => False) s)
    (k : ∀ t h' tk', s.toks ≤ tk' → Fr h₀ L h' m → News h₀ L h' n2 → Q (.int z t) { s with heap := h', toks := tk' }) : wpAny (model prog w) A (call f vs) Q E s :=
  out_useT C fun r news' h' tk' hle o F' N' => by
    obtain ⟨⟨t, rfl⟩, rfl⟩ := o
    exact k t h' tk' hle F' N'
/-- the end of the while that seeks the depth -/
noncomputable def WEnd (h₀ : Heap) (L : Addr) (s : Shared) (m₀ : Str → Option Value) (stored : List Str) (news : List (Addr × Obj)) (PD : Nat → Prop) (f : Flow) (s' : Shared) : Prop :=
  f = .next ∧ ∃ (d : Nat) (td : Tok) (u : Str → Option Value) (h' : Heap) (tk : Nat), s' = { s with heap := h', toks := tk } ∧ Fr h₀ L h' (kstB (fun z => if stored.contains z then u z else m₀ z) [(Str.ofString "depth", .int (d : Int) td)]) ∧ News h₀ L h' news ∧ PD d
theorem wend_ {h₀ h' : Heap} {L : Addr} {s : Shared} {m₀ m' : Str → Option Value} {stored : List Str} {news news' : List (Addr × Obj)} {PD : Nat → Prop} {tk : Nat} {z : Int} (td : Tok) (F : Fr h₀ L h' m') (N : News h₀ L h' news') (hn : ∀ p ∈ news, p ∈ news') (hk : ∀ p ∈ [(Str.ofString "depth", Value.int z td)], m' p.1 = some p.2)
    (hr : ∀ y, (∀ p ∈ [(Str.ofString "depth", Value.int z td)], y ≠ p.1) → stored.contains y = false → m' y = m₀ y) (hz : 0 ≤ z) (hp : PD z.toNat) : WEnd h₀ L s m₀ stored news PD .next { s with heap := h', toks := tk } := by
  have e : (z.toNat : Int) = z := Int.toNat_of_nonneg hz
  exact ⟨rfl, z.toNat, td, m', h', tk, rfl, by rw [e]; exact ksw_fr hk hr F, fun p hp => N p (hn p hp), hp⟩
theorem wh_mono {prog : Program} {w : World} {A : Around} {E : Value → Shared → Prop} {h₀ : Heap} {L : Addr} {s : Shared} {m₀ : Str → Option Value} {stored : List Str} {news : List (Addr × Obj)} {PD : Nat → Prop} {t : Sem Flow} {Q : Flow → Shared → Prop} (h : wpAny (model prog w) A t (WEnd h₀ L s m₀ stored news PD) E s)
    (k : ∀ (d : Nat) (td : Tok) (u : Str → Option Value) h' tk, s.toks ≤ tk → Fr h₀ L h' (kstB (fun z => if stored.contains z then u z else m₀ z) [(Str.ofString "depth", .int (d : Int) td)]) → News h₀ L h' news → PD d → Q .next { s with heap := h', toks := tk }) : wpAny (model prog w) A t Q E s :=
  wpAny_mono (wpAny_toks h) (fun f s' q => by
    obtain ⟨hle, rfl, d, td, u, h', tk, rfl, F', N', hp⟩ := q
    exact k d td u h' tk hle F' N' hp) fun _ _ q => q.2
/-- an item of held -/
theorem item_heldK {prog : Program} {w : World} {A : Around} {E : Value → Shared → Prop} {s : Shared} {h₀ : Heap} {L : Addr} {value slice : PySem.Expr} {l : Addr} {vs : List Value} {n : Nat} {k : Int} {u : Tok} {news tl : List (Addr × Obj)} {leads : List Str} {way : List Nat} {Q : Value → Shared → Prop} (R : All2 (HeldAt w tl leads) vs way) (N : News h₀ L s.heap news) (hm : (l, listOf vs.toArray n) ∈ news) (h0 : 0 ≤ k) (h1 : k < (way.length : Int)) (hfit : k < 2 ^ 63)
    (h : ∀ (r : WsR) x j, way[k.toNat]? = some j → leads[j]? = some x → (∀ e ∈ WsL w r, e ∈ tl) → WsFig r x → Q (.ref r.x) s)
    (hs : subscripted slice false (.ref l) (.int k u) = operate [.ref l, .int k u] (getItem (.ref l) (.int k u))) :
    wpAny (model prog w) A (subscriptTail value slice (.ref l) (.int k u)) Q E s := by
  have hl : s.heap.IsList l vs.toArray := ⟨_, (N _ hm).1, rfl, _, rfl⟩
  have hk : k.toNat < vs.length := by rw [R.length]; omega
  obtain ⟨j, e1, r, x, e2, e3, e4, e5⟩ := R.get (List.getElem?_eq_getElem hk)
  have e : vs.toArray[k.toNat]? = some vs[k.toNat] := by simp [hk]
  rw [e2] at e
  exact tail_any hl.typeIs slot_list_getitem.lookup (wpAny_getItem_list hl h0 hfit e (h r x j e1 e4 e3 e5)) hs
/-- the while's word -/
noncomputable def DepP (ls : Nat → Nat → Bool) (way : List Nat) (r : Nat) (c : Int × Tok) : Prop := 0 ≤ c.1 ∧ c.1 ≤ (way.length : Int) ∧ ∀ j k, c.1.toNat ≤ j → way[j]? = some k → ls k r = false
theorem depP_open {ls : Nat → Nat → Bool} {way : List Nat} {r : Nat} {d : Int} {t : Tok} (h : DepP ls way r (d, t)) : 0 ≤ d ∧ d ≤ (way.length : Int) := ⟨h.1, h.2.1⟩
theorem depP_0 {ls : Nat → Nat → Bool} {way : List Nat} {r : Nat} {d : Int} {t : Tok} (e : d = (way.length : Int)) : DepP ls way r (d, t) := by
  refine ⟨by dsimp only; omega, by dsimp only; omega, fun j k hj hk => ?_⟩
  have := (List.getElem?_eq_some_iff.mp hk).1
  dsimp only at hj
  omega
theorem depP_go {ls : Nat → Nat → Bool} {way : List Nat} {r q : Nat} {d d' : Int} {t t' : Tok} (h : DepP ls way r (d, t)) (h0 : 0 < d) (hq : way[(d - 1).toNat]? = some q) (hl : ls q r = false) (e : d' = d - 1) : DepP ls way r (d', t') := by
  obtain ⟨a, b, c⟩ := h
  dsimp only at a b c
  refine ⟨by dsimp only; omega, by dsimp only; omega, fun j k hj hk => ?_⟩
  dsimp only at hj
  rcases Nat.lt_or_ge j d.toNat with h1 | h1
  · have : j = (d - 1).toNat := by omega
    subst this
    rw [hq] at hk
    rw [← Option.some.inj hk]
    exact hl
  · exact c j k h1 hk
theorem depth_brk {ls : Nat → Nat → Bool} {way : List Nat} {r q : Nat} {d : Int} {t : Tok} (h : DepP ls way r (d, t)) (h0 : 0 < d) (hq : way[(d - 1).toNat]? = some q) (hl : ls q r = true) : DepthIs ls way r d.toNat := by
  obtain ⟨a, b, c⟩ := h
  dsimp only at a b c
  refine ⟨by omega, c, .inr ⟨q, ?_, hl⟩⟩
  rw [show d.toNat - 1 = (d - 1).toNat by omega]
  exact hq
theorem depth_out {ls : Nat → Nat → Bool} {way : List Nat} {r : Nat} {d : Int} {t : Tok} (h : DepP ls way r (d, t)) (h0 : ¬ 0 < d) : DepthIs ls way r d.toNat := by
  obtain ⟨a, b, c⟩ := h
  dsimp only at a b c
  exact ⟨by omega, c, .inl (by omega)⟩
theorem ls_get {leads : List Str} {j r : Nat} {x y : Str} (h1 : leads[j]? = some x) (h2 : leads[r]? = some y) : lsOf leads j r = lessW x y := by
  unfold lsOf
  rw [List.getD_eq_getElem?_getD, List.getD_eq_getElem?_getD, h1, h2]
  rfl
set_option maxRecDepth 100000
/-- the parts of a def of the written part -/
noncomputable def fdAt (P : Params) (a : Addr) : FuncData := match (hd.heap_1 P).lookup a with | some ⟨_, _, .func fd, _⟩ => fd | _ => default
noncomputable def stmtsOf (b : FuncBody) : List Stmt := match b with | .stmts l => l | _ => []
noncomputable def forBody (s : Stmt) : List Stmt := match s with | .For _ _ b _ _ => b | _ => []
noncomputable def nth (l : List Stmt) (i : Nat) : Stmt := l.getD i (.Pass default)
noncomputable def rdTurn (P : Params) : List Stmt := forBody (nth (stmtsOf (fdAt P 230).body) 2)
noncomputable abbrev rdCl (L : Addr) : List (Str × Addr) := [(Str.ofString "leads", L + 1)]
noncomputable abbrev rdEnv (P : Params) (L : Addr) : Env := envX (Str.ofString "_law_read") (fdAt P 230).scope L 230 (.ref 229) (rdCl L)
noncomputable abbrev rdA (P : Params) (dp un : Nat) (gd : Option (List Code)) (L : Addr) (outer : List Env) : Around := ktrTop dp un gd (Str.ofString "_law_read") (fdAt P 230).scope L 230 (.ref 229) (rdCl L) outer
theorem lit_ {M : Model} {A : Around} {E : Value → Shared → Prop} {s : Shared} {Q : Flow → Shared → Prop} {st st' : Stmt} {env : Env} (h1 : st = st') (h : wpAny M A (exec st' env) Q E s) : wpAny M A (exec st env) Q E s := by subst h1; exact h
theorem toks_ {M : Model} {A : Around} {E : Value → Shared → Prop} {s : Shared} {Q : Flow → Shared → Prop} {st : Stmt} {env : Env} (h : wpAny M A (exec st env) (fun f s' => Stop (s.toks ≤ s'.toks → Q f s')) E s) : wpAny M A (exec st env) Q E s :=
  wpAny_with_toks (Nat.le_refl s.toks) (wpAny_mono h (fun f s' q => q.out) fun e s' q _ => q)
theorem toksE_ {M : Model} {A : Around} {E : Value → Shared → Prop} {s : Shared} {Q : Flow → Shared → Prop} {l : List Stmt} {env : Env} (h : wpAny M A (execs l env) (fun f s' => Stop (s.toks ≤ s'.toks → Q f s')) E s) : wpAny M A (execs l env) Q E s :=
  wpAny_with_toks (Nat.le_refl s.toks) (wpAny_mono h (fun f s' q => q.out) fun e s' q _ => q)
theorem news_swap {h₀ h : Heap} {L : Addr} {a b : Addr × Obj} {l : List (Addr × Obj)} (N : News h₀ L h (a :: b :: l)) : News h₀ L h (b :: a :: l) := fun p hp => N p (by
  simp only [List.mem_cons] at hp ⊢
  rcases hp with h | h | h
  · exact .inr (.inl h)
  · exact .inl h
  · exact .inr (.inr h))
theorem tail_cap {h₀ h : Heap} {L : Addr} {a e : Addr × Obj} {D K : Addr} {sa sb : Str} {ta u2 : Tok} {kv' : List Value} {kn' : Nat} {r : List (Addr × Obj)} (_ : News h₀ L h (a :: (D, tupO [.str sa ta, .str sb u2]) :: e :: (K, listOf (List.toArray kv') kn') :: r)) : ∃ z y, z = u2 ∧ y = kv' := ⟨_, _, rfl, rfl⟩
theorem tail_cap2 {h₀ h : Heap} {L : Addr} {a : Addr × Obj} {D D1 K : Addr} {o1 : Obj} {sa sb : Str} {ta u2 : Tok} {kv' : List Value} {kn' : Nat} {r : List (Addr × Obj)} (_ : News h₀ L h (a :: (D, tupO [.str sa ta, .str sb u2]) :: (D1, o1) :: (K, listOf (List.toArray kv') kn') :: r)) : ∃ D2 z y, D2 = D1 ∧ z = u2 ∧ y = kv' := ⟨_, _, _, rfl, rfl, rfl⟩
theorem any_T {M : Model} {A : Around} {E : Value → Shared → Prop} {s : Shared} {α : Type} {t : Sem α} {Q : α → Shared → Prop} (n : Nat) (hn : n ≤ s.toks) (h : wpAny M A t (fun a s' => TokThen n (Q a) s') E s) : wpAny M A t Q E s :=
  wpAny_with_toks hn (wpAny_mono h (fun f s' q => q) fun e s' q _ => q)
theorem ldX {M : Model} {A : Around} {E : Value → Shared → Prop} {s : Shared} {h₀ : Heap} {L a : Addr} {m : Str → Option Value} {cn x : Str} {cs : Scope} {ccd v : Value} {cl : List (Str × Addr)} {Q : Value → Shared → Prop} (F : Fr h₀ L s.heap m) (hv : m x = some v) (h : Q v s)
    (hk : cs.kind = .function := by rfl) (hx : (envX cn cs L a ccd cl).kindOf x = some .local := by rfl) : wpAny M A (loadName (envX cn cs L a ccd cl) x) Q E s := wpAny_loadName_local hk hx F.ns hv h
theorem abc_item : ∀ i : Fin 8, Txt.item (Str.ofString "abcdefgh") (i.val : Int) = ⟨#[97 + i.val]⟩ := by decide +kernel
theorem abc_len : (Str.ofString "abcdefgh").length = 8 := by decide +kernel
theorem item_abc {prog : Program} {w : World} {A : Around} {E : Value → Shared → Prop} {s : Shared} {value slice : PySem.Expr} {k : Nat} {t u : Tok} {Q : Value → Shared → Prop} (hk : k < 8)
    (h : Q (.str ⟨#[97 + k]⟩ s.toks) { s with toks := s.toks + 1 })
    (hs : subscripted slice false (.str (Str.ofString "abcdefgh") t) (.int (k : Int) u) = operate [.str (Str.ofString "abcdefgh") t, .int (k : Int) u] (getItem (.str (Str.ofString "abcdefgh") t) (.int (k : Int) u)))
    (ht : ∀ r, letTemporaryGo value (.str (Str.ofString "abcdefgh") t) r = pure ()) :
    wpAny (model prog w) A (subscriptTail value slice (.str (Str.ofString "abcdefgh") t) (.int (k : Int) u)) Q E s := by
  refine item_str (fitsSsize_of (N := 9223372036854775808) (by omega) (by omega) (Int.le_refl _)) (by rw [abc_len]; omega) (by rw [abc_len]; omega) (fun _ => ?_) hs ht
  rw [abc_item ⟨k, hk⟩]
  exact h
/-- a pair of a row's lead and letter -/
noncomputable def RowAt (tl : List (Addr × Obj)) (leads : List Str) (v : Value) (j : Nat) : Prop := ∃ T t u x, v = .ref T ∧ (T, tupO [.str x t, .str ⟨#[97 + j]⟩ u]) ∈ tl ∧ leads[j]? = some x
theorem RowAt.mono {tl tl' : List (Addr × Obj)} {leads : List Str} (k : ∀ p ∈ tl, p ∈ tl') {v : Value} {j : Nat} (a : RowAt tl leads v j) : RowAt tl' leads v j := by
  obtain ⟨T, t, u, x, h1, h2, h3⟩ := a
  exact ⟨T, t, u, x, h1, k _ h2, h3⟩
theorem PileAt.row {tl : List (Addr × Obj)} {leads : List Str} {tb : Nat} {v : Value} {j : Nat} (a : PileAt tl leads tb v j) : RowAt tl leads v j := by
  obtain ⟨T, t, u, x, h1, h2, h3, _⟩ := a
  exact ⟨T, t, u, x, h1, h2, h3⟩
theorem reads_rows {h₀ h : Heap} {L : Addr} {tl : List (Addr × Obj)} {leads : List Str} (N : News h₀ L h tl) {vs : List Value} {js : List Nat} (a : All2 (RowAt tl leads) vs js) : ReadsAll h vs (js.map (rowD leads)) [] := by
  induction a with
  | nil => exact .nil
  | @cons v j vs js b _ ih =>
    obtain ⟨T, t, u, x, rfl, hm, hx⟩ := b
    refine readsAll_cons_val ?_ ih
    have e : leads.getD j ⟨#[]⟩ = x := by rw [List.getD_eq_getElem?_getD, hx]; rfl
    show Reads h (.ref T) (.tuple [.str (leads.getD j ⟨#[]⟩), .str ⟨#[97 + j]⟩]) []
    rw [e]
    exact reads_tuple_at (N _ hm).1 rfl rfl (readsAll_cons_val (.str _ _) (readsAll_cons_val (.str _ _) .nil))
/-- the word of the comprehension that tells the rows passed by -/
noncomputable def CmpI (old : List (Addr × Obj)) (leads : List Str) (js : List Nat) (i : Nat) (ys : List Value) (news : List (Addr × Obj)) : Prop := All2 (RowAt news leads) ys (js.take i) ∧ ∀ q ∈ old, q ∈ news
theorem cmp_0 {old news : List (Addr × Obj)} {leads : List Str} {js : List Nat} (h : ∀ q ∈ old, q ∈ news) : CmpI old leads js 0 [] news := ⟨by simp; exact .nil, h⟩
theorem cmp_1 {old news news' : List (Addr × Obj)} {leads : List Str} {js : List Nat} {i j : Nat} {ys : List Value} {T : Addr} {t u : Tok} {x : Str} (h : CmpI old leads js i ys news) (hj : js[i]? = some j) (hx : leads[j]? = some x) (hT : (T, tupO [.str x t, .str ⟨#[97 + j]⟩ u]) ∈ news') (k : ∀ q ∈ news, q ∈ news') : CmpI old leads js (i + 1) (ys ++ [.ref T]) news' := by
  refine ⟨?_, fun q hq => k q (h.2 q hq)⟩
  rw [List.take_add_one, hj, Option.toList_some]
  exact (h.1.mono fun v j a => a.mono k).snoc ⟨T, t, u, x, rfl, hT, hx⟩
theorem cmp_fin {old news : List (Addr × Obj)} {leads : List Str} {js : List Nat} {n : Nat} {ys : List Value} (h : CmpI old leads js n ys news) (e : js.length ≤ n) : All2 (RowAt news leads) ys js := by
  have := h.1
  rwa [List.take_of_length_le e] at this
theorem ne_led {prog : Program} {w : World} {A : Around} {E : Value → Shared → Prop} {s : Shared} {h₀ : Heap} {L O D : Addr} {leads : List Str} {js : List Nat} {ov ys : List Value} {on n : Nat} {news : List (Addr × Obj)} {Q : Value → Shared → Prop} (N : News h₀ L s.heap news)
    (m1 : (O, listOf ov.toArray on) ∈ news) (a1 : All2 (RowAt news leads) ov js) (m2 : (D, listOf ys.toArray n) ∈ news) (a2 : All2 (RowAt news leads) ys js) (hj : ∀ j ∈ js, PyData.strOk (leads.getD j ⟨#[]⟩) = true ∧ j < 8) (hu : A.units + 64 < cLine)
    (h : Q (.bool false) s) : wpAny (model prog w) A (compareOp .NotEq (.ref O) (.ref D)) Q E s :=
  ne_rows hj (reads_list_at (N _ m1).1 rfl rfl (reads_rows N a1)) (reads_list_at (N _ m2).1 rfl rfl (reads_rows N a2)) hu h
theorem lead_ok {leads : List Str} {way : List Nat} {d : Nat} (hok : ∀ x ∈ leads, PyData.strOk x = true) (hn : leads.length = 8) (hw : ∀ j ∈ way, j < 8) : ∀ j ∈ way.drop d, PyData.strOk (leads.getD j ⟨#[]⟩) = true ∧ j < 8 := fun j hj => by
  have h8 := hw j (List.mem_of_mem_drop hj)
  refine ⟨hok _ ?_, h8⟩
  rw [List.getD_eq_getElem?_getD, List.getElem?_eq_getElem (by omega)]
  exact List.getElem_mem _
theorem natI_get {wv : List Value} {way : List Nat} (h : IntsAre wv (natI way)) : ∀ {i : Nat} {v : Value}, wv[i]? = some v → ∃ j t, v = .int ((j : Nat) : Int) t ∧ way[i]? = some j := by
  have : ∀ {wv : List Value} {zs : List Int}, IntsAre wv zs → ∀ {i : Nat} {v : Value}, wv[i]? = some v → ∃ z t, v = .int z t ∧ zs[i]? = some z := by
    intro wv zs h
    induction h with
    | nil => intro i v e; simp at e
    | cons z t _ ih => intro i v e; cases i with
      | zero => simp at e; exact ⟨z, t, e.symm, rfl⟩
      | succ i => simpa using ih (by simpa using e)
  intro i v e
  obtain ⟨z, t, e1, e2⟩ := this h e
  rw [List.getElem?_map] at e2
  cases q : way[i]? with
  | none => rw [q] at e2; cases e2
  | some j => rw [q] at e2; exact ⟨j, t, by rw [e1, ← Option.some.inj e2], rfl⟩
theorem ints_drop {wv : List Value} {zs : List Int} (h : IntsAre wv zs) : ∀ d, IntsAre (wv.drop d) (zs.drop d) := by
  induction h with
  | nil => intro d; simp; exact .nil
  | cons z t a ih => intro d; cases d with
    | zero => exact .cons z t a
    | succ d => exact ih d
theorem ints_take {wv : List Value} {zs : List Int} (h : IntsAre wv zs) : ∀ d, IntsAre (wv.take d) (zs.take d) := by
  induction h with
  | nil => intro d; simp; exact .nil
  | cons z t a ih => intro d; cases d with
    | zero => exact .nil
    | succ d => exact .cons z t (ih d)
theorem pick_from (vs : List Value) (d : Nat) : slicePick vs.toArray (some (d : Int)) none none = (vs.drop d).toArray := by
  have e : sliceBounds (some (d : Int)) none none vs.toArray.size = (((min d vs.toArray.size : Nat) : Int), ((vs.toArray.size : Nat) : Int), 1) := by
    simp only [sliceBounds, Option.getD_none, show (1 : Int) > 0 by decide, if_true, if_neg (show ¬ ((d : Int) < 0) by omega)]
    congr 1
    omega
  rw [kmk_pick_nat _ e]
  show ((vs.drop (min d vs.toArray.size)).take (vs.toArray.size - min d vs.toArray.size)).toArray = _
  rw [List.size_toArray, kmk_drop_min, List.take_of_length_le (by rw [List.length_drop]; omega)]
theorem pick_upto (vs : List Value) (d : Nat) : slicePick vs.toArray none (some (d : Int)) none = (vs.take d).toArray := by
  have e : sliceBounds none (some (d : Int)) none vs.toArray.size = (((0 : Nat) : Int), ((min d vs.toArray.size : Nat) : Int), 1) := by
    simp only [sliceBounds, Option.getD_none, show (1 : Int) > 0 by decide, if_true, if_neg (show ¬ ((d : Int) < 0) by omega)]
    congr 1
    congr 1
    omega
  rw [kmk_pick_nat _ e]
  show ((vs.drop 0).take (min d vs.toArray.size - 0)).toArray = _
  rw [List.drop_zero, Nat.sub_zero, List.size_toArray, kmk_take_min]
theorem natI_drop {wv : List Value} {way : List Nat} (h : IntsAre wv (natI way)) (d : Nat) : IntsAre (wv.drop d) (natI (way.drop d)) := by
  have := ints_drop h d
  rwa [← List.map_drop] at this
theorem natI_take {wv : List Value} {way : List Nat} (h : IntsAre wv (natI way)) (d : Nat) : IntsAre (wv.take d) (natI (way.take d)) := by
  have := ints_take h d
  rwa [← List.map_take] at this
theorem way_get {wv : List Value} {way : List Nat} {d i : Nat} {v : Value} (h : IntsAre wv (natI way)) (hw : ∀ j ∈ way, j < 8) (e : (wv.drop d).toArray[i]? = some v) : ∃ j t, v = .int ((j : Nat) : Int) t ∧ (way.drop d)[i]? = some j ∧ j < 8 := by
  obtain ⟨j, t, e1, e2⟩ := natI_get (natI_drop h d) (by simpa using e)
  exact ⟨j, t, e1, e2, hw j (List.mem_of_mem_drop (List.mem_of_getElem? e2))⟩
structure LsS where
  sv : List Value
  sn : Nat
  lasts : List Int
noncomputable def LsS.P (lasts : List Int) (js : List Nat) (r : Nat) (i : Nat) (c : LsS) : Prop := c.lasts = setAll lasts (js.take i) r
theorem one_obj {h₀ h : Heap} {L O : Addr} {o : Obj} {news : List (Addr × Obj)} (N : News h₀ L h news) (m : (O, o) ∈ news) : ∀ q ∈ news, q.1 = O → q ∈ [(O, o)] := fun q hq e => by
  have e1 := (N q hq).1
  have e2 := (N _ m).1
  rw [e, e2] at e1
  have : q = (O, o) := Prod.ext e (Option.some.inj e1).symm
  rw [this]; exact List.mem_singleton.mpr rfl
theorem lss_step {lasts : List Int} {js : List Nat} {r i j : Nat} {c : LsS} {sv' : List Value} {sn' : Nat} (h : LsS.P lasts js r i c) (hj : js[i]? = some j) : LsS.P lasts js r (i + 1) ⟨sv', sn', c.lasts.set j (r : Int)⟩ := by
  show c.lasts.set j (r : Int) = _
  rw [List.take_add_one, hj, Option.toList_some]
  unfold setAll
  rw [List.foldl_append, show c.lasts = _ from h]
  rfl
theorem lss_done {lasts : List Int} {js : List Nat} {r n : Nat} {c : LsS} (h : LsS.P lasts js r n c) (e : js.length ≤ n) : c.lasts = setAll lasts js r := by
  rw [show c.lasts = _ from h, List.take_of_length_le e]
theorem lss_len {lasts : List Int} {js : List Nat} {r n : Nat} {c : LsS} (h : LsS.P lasts js r n c) : c.lasts.length = lasts.length := by rw [show c.lasts = _ from h, setAll_length]
section
variable {prog : Program} {w : World} {A : Around} {E : Value → Shared → Prop} {s : Shared} {h₀ : Heap} {L l : Addr} {m : Str → Option Value} {news : List (Addr × Obj)} {value slice : PySem.Expr} {vs : List Value} {n d : Nat} {u : Tok} {Q : Value → Shared → Prop}
theorem slice_fromK (F : Fr h₀ L s.heap m) (N : News h₀ L s.heap news) (hm : (l, listOf vs.toArray n) ∈ news) (hz : vs.length ≤ 1000)
    (h : ∀ D h', Fr h₀ L h' m → News h₀ L h' ((D, listOf (vs.drop d).toArray 0) :: news) → (∀ p ∈ news, p.1 < D) → Q (.ref D) { s with heap := h' })
    (hs : subscripted slice false (.ref l) (.ref s.heap.objs.size) = operate [.ref s.heap.objs.size, .ref l] (getItem (.ref l) (.ref s.heap.objs.size))) (ht : ∀ r, letTemporaryGo value (.ref l) r = pure ()) :
    wpAny (model prog w) A (subscriptTail value slice (.ref l) (.ref s.heap.objs.size)) Q E { s with heap := s.heap.push { cls := .type "slice", data := .fields #[.int (d : Int) u, .none, .none] } } := by
  refine kmk_slice F N ⟨_, (N _ hm).1, rfl, _, rfl⟩ (.int _ _) .none (fun D h' F' N' l1 => h D h' F' ?_ l1) hs ht (by rw [List.size_toArray, sizeLine_eq]; omega)
  rw [pick_from] at N'
  exact N'
theorem slice_uptoK (F : Fr h₀ L s.heap m) (N : News h₀ L s.heap news) (hm : (l, listOf vs.toArray n) ∈ news) (hz : vs.length ≤ 1000)
    (h : ∀ D h', Fr h₀ L h' m → News h₀ L h' ((D, listOf (vs.take d).toArray 0) :: news) → (∀ p ∈ news, p.1 < D) → Q (.ref D) { s with heap := h' })
    (hs : subscripted slice false (.ref l) (.ref s.heap.objs.size) = operate [.ref s.heap.objs.size, .ref l] (getItem (.ref l) (.ref s.heap.objs.size))) (ht : ∀ r, letTemporaryGo value (.ref l) r = pure ()) :
    wpAny (model prog w) A (subscriptTail value slice (.ref l) (.ref s.heap.objs.size)) Q E { s with heap := s.heap.push { cls := .type "slice", data := .fields #[.none, .int (d : Int) u, .none] } } := by
  refine kmk_slice F N ⟨_, (N _ hm).1, rfl, _, rfl⟩ .none (.int _ _) (fun D h' F' N' l1 => h D h' F' ?_ l1) hs ht (by rw [List.size_toArray, sizeLine_eq]; omega)
  rw [pick_upto] at N'
  exact N'
theorem add_catK {a b : Addr} {vs ws : List Value} {n1 n2 : Nat} (F : Fr h₀ L s.heap m) (N : News h₀ L s.heap news) (ma : (a, listOf (List.toArray vs) n1) ∈ news) (mb : (b, listOf (List.toArray ws) n2) ∈ news) (hz : vs.length + ws.length ≤ 1000)
    (h : ∀ D h', Fr h₀ L h' m → News h₀ L h' ((D, listOf (vs ++ ws).toArray 0) :: news) → (∀ p ∈ news, p.1 < D) → Q (.ref D) { s with heap := h' }) : wpAny (model prog w) A (binaryOp .Add (.ref a) (.ref b)) Q E s :=
  kmk_add_lit F N ⟨_, (N _ ma).1, rfl, _, rfl⟩ ⟨_, (N _ mb).1, rfl, _, rfl⟩ rfl h (by rw [sizeLine_eq]; show vs.length + ws.length ≤ _; omega)
end
set_option maxRecDepth 100000
set_option maxHeartbeats 8000000
local macro_rules | `(tactic| k_inst) => `(tactic| (k_extra "g37"; refine' instOfSub ?N ?h1 ?h2; k_extra "a37"))
local macro_rules | `(tactic| walk_at "call ref") => `(tactic| (k_extra "g38"; k_dflt (refine' out_useIT (count_p ?ne1 ?hdx ?k1 ?k2 ?k3 ?k4 ?kK ?kd ?ku ?kN) ?_; k_extra "a38"); k_extra "b38"))
section
variable {w : World} {p : Program} {loose : List Str} {mean : ExcName → Option Value} {mg mb : Str → Option Value} {dp un : Nat} {gd : Option (List Code)} {outer : List Env} {A₀ : Around} {base g : Heap} {L : Addr} {s : Shared} {Q : Flow → Shared → Prop} {u : Str → Option Value}
variable {x dx K S H W : Addr} {its : Array Value} {pn xc : Nat} {xt1 xt2 : Tok} {kv sv : List Value} {kn sn : Nat} {r : Nat} {tr : Tok} {tl : List (Addr × Obj)}
theorem st_depth {nx : Addr} (ox : ∀ q ∈ tl, q.1 ≠ x) (oK : ∀ q ∈ tl, q.1 ≠ K) (oS : ∀ q ∈ tl, q.1 ≠ S) (nxK : @Ne Nat x K) (nxS : @Ne Nat x S) (nKS : @Ne Nat K S) (hdx : (dx, dictOf [entS w "_initial_size" xt1 (.int 2 xt2)] xc) ∈ tl) (B : Below A₀ base outer g) (X : (hd.heap_1 w.params).In g) (TP : Top p loose mean mg mb g) (hdp : dp + 18 < recursionLimit) (hun : un + 280 < cLine) (F : Fr g L s.heap (kstB u [(Str.ofString "pile", .ref x), (Str.ofString "hooks", .ref K), (Str.ofString "lasts", .ref S), (Str.ofString "held", .ref H), (Str.ofString "way", .ref W), (Str.ofString "r", .int (r : Int) tr), (Str.ofString "new", .ref nx)])) (N : News g L s.heap ((x, subO 143 dx its pn) :: (K, listOf (List.toArray kv) kn) :: (S, listOf (List.toArray sv) sn) :: tl))
    (k : ∀ td u' h' tk', s.toks ≤ tk' → Fr g L h' (kstB u' [(Str.ofString "pile", .ref x), (Str.ofString "hooks", .ref K), (Str.ofString "lasts", .ref S), (Str.ofString "held", .ref H), (Str.ofString "way", .ref W), (Str.ofString "r", .int (r : Int) tr), (Str.ofString "new", .ref nx), (Str.ofString "depth", .int (its.size : Int) td)]) → News g L h' ((x, subO 143 dx its pn) :: (K, listOf (List.toArray kv) kn) :: (S, listOf (List.toArray sv) sn) :: tl) → Q .next { s with heap := h', toks := tk' }) :
    wpAny (model PR w) (rdA w.params dp un gd L outer) (exec (nth (rdTurn w.params) 1) (rdEnv w.params L)) Q (fun _ _ => False) s := by
  k_with_none
  w_top off
  k_with "m_enter" => ((case kA => exact rfl); (case kF => exact rfl); (case kK => assumption); (case k1 => k_asm); (case k2 => k_asm); (case k3 => k_asm); (case k5 => k_asm); (case k6 => k_is); (case k7 => k_is); (case k8 => walk_at "lt_room"); (case k9 => exact BindsTo.of_eq rfl); (case c5 => decide); (case kB => exact locs rfl); (case c2 => exact rfl); (case c3 => exact rfl); (case c4 => exact rfl); k_whole; intro g' L' h' F' N' B' X' T'; (try dsimp only [List.reverse, List.reverseAux, List.length]))
  k_with "m_pure" => ((case k1 => k_asm); (case k2 => k_asm); (case k3 => k_asm); (case k4 => k_asm); (case kK => first | exact rfl | assumption); (case kd => walk_at "lt_room"); (case ku => walk_at "lt_units"))
  k_with "m_useI" => (walk_at "m_pure"; (case k5 => k_asm); intro t9 h9 tk9 F9 N9; (try dsimp only); (try k_sweep))
  k_with "m_same" => (intro z h2 h3; (try simp only [List.forall_mem_cons, List.not_mem_nil, false_implies, implies_true, and_true, ne_eq, List.contains_cons, List.contains_nil, Bool.or_false, Bool.or_eq_false_iff, beq_eq_false_iff_ne] at h2 h3); simp [kstB, h2, h3])
  k_with "m_useB" => (walk_at "m_pure"; (case k5 => k_asm); intro h9 tk9 F9 N9; (try dsimp only); (try k_sweep))
  k_with "l_idx" => (k_dflt (k_extra "m_idx"))
  k_with "g9" => (k_here; (with_reducible show wpAny _ _ (subscriptTail _ _ (Value.ref _) (Value.int _ _)) _ _ _))
  k_with "a9" => ((case k1 => is_list); (case k3 => omega); (case k5 => omega); (case k6 => with_unfolding_all rfl); k_whole)
  k_with "m_sameN" => (intro z h1 h2 h3; (try simp only [List.forall_mem_cons, List.not_mem_nil, false_implies, implies_true, and_true, ne_eq, List.contains_cons, List.contains_nil, Bool.or_false, Bool.or_eq_false_iff, beq_eq_false_iff_ne] at h2 h3); first | rfl | ((show (if z = _ then _ else _) = _); rw [if_neg h1]; rfl) | (simp [kstB, h1, h2, h3]; done))
  k_with "mul_fits" => (k_extra "m_mul")
  k_with "InvEndN" => (refine stop_ ?_)
  k_with "KswEnd" => (refine stop_ ?_)
  k_with "m_new" => (first | exact List.forall_mem_nil _ | (refine List.forall_mem_cons.mpr ⟨⟨by k_mem, by k_all⟩, ?_⟩; walk_at "m_new"))
  k_with "exec For Name Name cons nil" => (k_here; with_unfolding_all refine wpAny_For ?_)
  k_with "exec For Name Call cons nil" => (k_here; with_unfolding_all refine wpAny_For ?_)
  k_with "exec For Tuple Name cons nil" => (k_here; with_unfolding_all refine wpAny_For ?_)
  k_with "exec For Tuple Call cons nil" => (k_here; with_unfolding_all refine wpAny_For ?_)
  k_with "pyIter ref" => (k_dflt (k_extra "m_iter"))
  k_with "pyIter str" => (k_dflt (k_extra "m_siter"))
  k_with "XEnd" => (dsimp only [XEnd])
  k_with "XEndN" => (refine stop_ ?_)
  k_with "k_all" => (first | (with_reducible assumption) | (refine List.forall_mem_append.mpr ⟨?_, ?_⟩ <;> k_all) | fail "m_all")
  k_with "k_room" => (walk_at "lt_room")
  k_with "k_room" => (walk_at "lt_room")
  k_with "k_units" => (walk_at "lt_units")
  k_with "size_fits" => ((simp only [List.size_toArray, Array.size_push, PySem.sizeLine_eq]); omega)
  k_with "g25" => (k_here)
  k_with "a25" => ((case k1 => k_asm); (case k2 => k_asm); (case k3 => k_inst); (case k4 => k_is); (case k5 => k_is); (case k6 => k_is); (case k7 => k_is); (case k8 => k_get); k_whole)
  k_with "m_perm" => (first | exact List.forall_mem_nil _ | (refine List.forall_mem_cons.mpr ⟨?_, ?_⟩; (focus (k_mem; done)); (focus (walk_at "m_perm"; done))) | (refine List.forall_mem_append.mpr ⟨?_, ?_⟩; (focus (walk_at "m_perm"; done)); (focus (walk_at "m_perm"; done))) | (intro q hq; (repeat first | exact hq | exact List.mem_append_left _ hq | exact List.mem_append_right _ hq | exact List.mem_append_left _ (List.mem_append_left _ hq) | exact List.mem_append_left _ (List.mem_append_right _ hq) | refine List.Mem.tail _ ?_); done) | (trace "heavy m_perm"; intro q hq; simp only [List.mem_cons, List.mem_append, List.not_mem_nil, or_false] at hq ⊢; (repeat' (refine Or.elim hq ?_ ?_ <;> (clear hq; intro hq))) <;> simp [hq]))
  k_with "k_mem" => ((repeat (first | with_reducible assumption | with_reducible exact List.mem_cons_self | with_reducible refine List.mem_cons_of_mem _ ?_ | with_reducible refine List.mem_append_left _ ?_)); done)
  k_with "g37" => skip
  k_with "a37" => ((case N => k_asm); (case h1 => k_mem); (case h2 => k_extra "m_dx"))
  k_with "k_all" => (first | (with_reducible assumption) | (with_reducible refine List.forall_mem_append.mpr ⟨?_, ?_⟩ <;> k_all) | fail "m_all")
  k_with "k_room" => (walk_at "lt_room")
  k_with "loadName" => (k_here; (rename Fr _ _ _ _ => lF9); k_dflt (refine ldX lF9 (by rfl) ?_))
  k_with "k_room" => (walk_at "lt_room")
  k_with "k_units" => (walk_at "lt_units")
  k_with "size_fits" => ((simp only [List.size_toArray, Array.size_push, PySem.sizeLine_eq]); omega)
  k_with "g38" => (k_here)
  k_with "a38" => ((case k2 => k_asm); (case kN => k_asm); (case ne1 => k_all); (case hdx => k_extra "m_dx"); (case k1 => k_asm); (case k3 => k_asm); (case k4 => k_asm); (case kK => first | exact rfl | assumption); (case kd => walk_at "lt_room"); (case ku => walk_at "lt_units"))
  k_with "b38" => (intro t9 h9 tk9 l9 F9 N9; (try dsimp only))
  k_with "lt_room" => (first | with_unfolding_all exact room2 (j := 0) hdp rfl rfl | with_unfolding_all exact room0 (j := 0) hdp rfl rfl | with_unfolding_all exact room2 (j := 1) hdp rfl rfl | with_unfolding_all exact room0 (j := 1) hdp rfl rfl | with_unfolding_all exact room2 (j := 2) hdp rfl rfl | with_unfolding_all exact room0 (j := 2) hdp rfl rfl | with_unfolding_all exact room2 (j := 3) hdp rfl rfl | with_unfolding_all exact room0 (j := 3) hdp rfl rfl | with_unfolding_all exact room2 (j := 4) hdp rfl rfl | with_unfolding_all exact room0 (j := 4) hdp rfl rfl | with_unfolding_all exact room2 (j := 5) hdp rfl rfl | with_unfolding_all exact room0 (j := 5) hdp rfl rfl | with_unfolding_all exact room2 (j := 6) hdp rfl rfl | with_unfolding_all exact room0 (j := 6) hdp rfl rfl | with_unfolding_all exact room2 (j := 7) hdp rfl rfl | with_unfolding_all exact room0 (j := 7) hdp rfl rfl | (trace "heavy"; ktr_room))
  k_with "lt_units" => (first | with_unfolding_all exact room2 (j := 0) hun rfl rfl | with_unfolding_all exact room0 (j := 0) hun rfl rfl | with_unfolding_all exact room2 (j := 1) hun rfl rfl | with_unfolding_all exact room0 (j := 1) hun rfl rfl | with_unfolding_all exact room2 (j := 2) hun rfl rfl | with_unfolding_all exact room0 (j := 2) hun rfl rfl | with_unfolding_all exact room2 (j := 3) hun rfl rfl | with_unfolding_all exact room0 (j := 3) hun rfl rfl | with_unfolding_all exact room2 (j := 4) hun rfl rfl | with_unfolding_all exact room0 (j := 4) hun rfl rfl | with_unfolding_all exact room2 (j := 5) hun rfl rfl | with_unfolding_all exact room0 (j := 5) hun rfl rfl | with_unfolding_all exact room2 (j := 6) hun rfl rfl | with_unfolding_all exact room0 (j := 6) hun rfl rfl | with_unfolding_all exact room2 (j := 7) hun rfl rfl | with_unfolding_all exact room0 (j := 7) hun rfl rfl | (trace "heavy"; ktr_units))
  have kMark : KstMark := kstMark
  refine toks_ ?_
  conv in nth _ _ => whnf
  unfold rdA rdEnv
  generalize hsc : (fdAt w.params 230).scope = sc
  conv at hsc => lhs; whnf
  subst hsc
  dsimp only [kstB] at F
  k_with "m_dx" => (first | exact List.mem_cons_of_mem _ (List.mem_cons_of_mem _ (List.mem_cons_of_mem _ hdx)) | exact List.mem_cons_of_mem _ (List.mem_cons_of_mem _ hdx))
  k_steps
  refine Stop.mk fun hle => ?_
  refine' k _ _ _ _ hle (fr_names ?ha ?hF) ?hN
  case hF => assumption
  case hN => assumption
  case ha => kst_all
end
set_option maxRecDepth 100000
set_option maxHeartbeats 8000000
local macro_rules | `(tactic| walk_at "eval Name") => `(tactic| (k_extra "g39"; k_dflt (refine' nameX_C ?N ?c ?m ?d ?_ ?a ?b; k_extra "a39")))
section
variable {w : World} {p : Program} {loose : List Str} {mean : ExcName → Option Value} {mg mb : Str → Option Value} {dp un : Nat} {gd : Option (List Code)} {outer : List Env} {A₀ : Around} {base g : Heap} {L : Addr} {s : Shared} {Q : Flow → Shared → Prop} {u : Str → Option Value}
variable {x dx K S H W : Addr} {its : Array Value} {pn xc : Nat} {xt1 xt2 : Tok} {kv sv : List Value} {kn sn : Nat} {r : Nat} {tr : Tok} {tl : List (Addr × Obj)}
theorem st_new (ox : ∀ q ∈ tl, q.1 ≠ x) (oK : ∀ q ∈ tl, q.1 ≠ K) (oS : ∀ q ∈ tl, q.1 ≠ S) (nxK : @Ne Nat x K) (nxS : @Ne Nat x S) (nKS : @Ne Nat K S) {oC : Obj} (hC0 : (L + 1, oC) ∈ tl) {LA : Addr} (dC : oC.data = .cell (some (.ref LA))) {lv : List Value} {leads : List Str} (hB : g.IsList LA lv.toArray) (hi : StrsAre lv leads) (hn : leads.length = 8) (hr8 : r < 8) (hC : ∀ x ∈ leads, ∀ (i ch : Nat), x.cps[i]? = some ch → ch = 32 ∨ ch = 9) (hA : ∀ x ∈ leads, x.cps.all (· < 128) = true) (hL : ∀ x ∈ leads, x.cps.size ≤ 4) (B : Below A₀ base outer g) (X : (hd.heap_1 w.params).In g) (TP : Top p loose mean mg mb g) (hdp : dp + 18 < recursionLimit) (hun : un + 280 < cLine) (F : Fr g L s.heap (kstB u [(Str.ofString "pile", .ref x), (Str.ofString "hooks", .ref K), (Str.ofString "lasts", .ref S), (Str.ofString "held", .ref H), (Str.ofString "way", .ref W), (Str.ofString "r", .int (r : Int) tr)])) (N : News g L s.heap ((x, subO 143 dx its pn) :: (K, listOf (List.toArray kv) kn) :: (S, listOf (List.toArray sv) sn) :: tl))
    (k : ∀ (rW : WsR) xr nw u' h' tk', s.toks ≤ tk' → leads[r]? = some xr → WsFig rW xr → (∀ e ∈ WsL w rW, e ∈ nw) → (∀ q ∈ nw, ∀ q' ∈ ((x, subO 143 dx its pn) :: (K, listOf (List.toArray kv) kn) :: (S, listOf (List.toArray sv) sn) :: tl), q.1 ≠ q'.1) → Fr g L h' (kstB u' [(Str.ofString "pile", .ref x), (Str.ofString "hooks", .ref K), (Str.ofString "lasts", .ref S), (Str.ofString "held", .ref H), (Str.ofString "way", .ref W), (Str.ofString "r", .int (r : Int) tr), (Str.ofString "new", .ref rW.x)]) → News g L h' ((x, subO 143 dx its pn) :: (K, listOf (List.toArray kv) kn) :: (S, listOf (List.toArray sv) sn) :: (tl ++ nw)) → Q .next { s with heap := h', toks := tk' }) :
    wpAny (model PR w) (rdA w.params dp un gd L outer) (exec (nth (rdTurn w.params) 0) (rdEnv w.params L)) Q (fun _ _ => False) s := by
  k_with_none
  w_top off
  k_with "m_enter" => ((case kA => exact rfl); (case kF => exact rfl); (case kK => assumption); (case k1 => k_asm); (case k2 => k_asm); (case k3 => k_asm); (case k5 => k_asm); (case k6 => k_is); (case k7 => k_is); (case k8 => walk_at "lt_room"); (case k9 => exact BindsTo.of_eq rfl); (case c5 => decide); (case kB => exact locs rfl); (case c2 => exact rfl); (case c3 => exact rfl); (case c4 => exact rfl); k_whole; intro g' L' h' F' N' B' X' T'; (try dsimp only [List.reverse, List.reverseAux, List.length]))
  k_with "m_pure" => ((case k1 => k_asm); (case k2 => k_asm); (case k3 => k_asm); (case k4 => k_asm); (case kK => first | exact rfl | assumption); (case kd => walk_at "lt_room"); (case ku => walk_at "lt_units"))
  k_with "m_useI" => (walk_at "m_pure"; (case k5 => k_asm); intro t9 h9 tk9 F9 N9; (try dsimp only); (try k_sweep))
  k_with "m_same" => (intro z h2 h3; (try simp only [List.forall_mem_cons, List.not_mem_nil, false_implies, implies_true, and_true, ne_eq, List.contains_cons, List.contains_nil, Bool.or_false, Bool.or_eq_false_iff, beq_eq_false_iff_ne] at h2 h3); simp [kstB, h2, h3])
  k_with "m_useB" => (walk_at "m_pure"; (case k5 => k_asm); intro h9 tk9 F9 N9; (try dsimp only); (try k_sweep))
  k_with "l_idx" => (k_dflt (k_extra "m_idx"))
  k_with "g9" => (k_here; (with_reducible show wpAny _ _ (subscriptTail _ _ (Value.ref _) (Value.int _ _)) _ _ _))
  k_with "a9" => ((case k1 => is_list); (case k3 => omega); (case k5 => omega); (case k6 => with_unfolding_all rfl); k_whole)
  k_with "m_sameN" => (intro z h1 h2 h3; (try simp only [List.forall_mem_cons, List.not_mem_nil, false_implies, implies_true, and_true, ne_eq, List.contains_cons, List.contains_nil, Bool.or_false, Bool.or_eq_false_iff, beq_eq_false_iff_ne] at h2 h3); first | rfl | ((show (if z = _ then _ else _) = _); rw [if_neg h1]; rfl) | (simp [kstB, h1, h2, h3]; done))
  k_with "mul_fits" => (k_extra "m_mul")
  k_with "InvEndN" => (refine stop_ ?_)
  k_with "KswEnd" => (refine stop_ ?_)
  k_with "m_new" => (first | exact List.forall_mem_nil _ | (refine List.forall_mem_cons.mpr ⟨⟨by k_mem, by k_all⟩, ?_⟩; walk_at "m_new"))
  k_with "exec For Name Name cons nil" => (k_here; with_unfolding_all refine wpAny_For ?_)
  k_with "exec For Name Call cons nil" => (k_here; with_unfolding_all refine wpAny_For ?_)
  k_with "exec For Tuple Name cons nil" => (k_here; with_unfolding_all refine wpAny_For ?_)
  k_with "exec For Tuple Call cons nil" => (k_here; with_unfolding_all refine wpAny_For ?_)
  k_with "pyIter ref" => (k_dflt (k_extra "m_iter"))
  k_with "pyIter str" => (k_dflt (k_extra "m_siter"))
  k_with "XEnd" => (dsimp only [XEnd])
  k_with "XEndN" => (refine stop_ ?_)
  k_with "k_all" => (first | (with_reducible assumption) | (refine List.forall_mem_append.mpr ⟨?_, ?_⟩ <;> k_all) | fail "m_all")
  k_with "k_room" => (walk_at "lt_room")
  k_with "k_room" => (walk_at "lt_room")
  k_with "k_units" => (walk_at "lt_units")
  k_with "size_fits" => ((simp only [List.size_toArray, Array.size_push, PySem.sizeLine_eq]); omega)
  k_with "g25" => (k_here)
  k_with "a25" => ((case k1 => k_asm); (case k2 => k_asm); (case k3 => k_inst); (case k4 => k_is); (case k5 => k_is); (case k6 => k_is); (case k7 => k_is); (case k8 => k_get); k_whole)
  k_with "m_perm" => (first | exact List.forall_mem_nil _ | (refine List.forall_mem_cons.mpr ⟨?_, ?_⟩; (focus (k_mem; done)); (focus (walk_at "m_perm"; done))) | (refine List.forall_mem_append.mpr ⟨?_, ?_⟩; (focus (walk_at "m_perm"; done)); (focus (walk_at "m_perm"; done))) | (intro q hq; (repeat first | exact hq | exact List.mem_append_left _ hq | exact List.mem_append_right _ hq | exact List.mem_append_left _ (List.mem_append_left _ hq) | exact List.mem_append_left _ (List.mem_append_right _ hq) | refine List.Mem.tail _ ?_); done) | (trace "heavy m_perm"; intro q hq; simp only [List.mem_cons, List.mem_append, List.not_mem_nil, or_false] at hq ⊢; (repeat' (refine Or.elim hq ?_ ?_ <;> (clear hq; intro hq))) <;> simp [hq]))
  k_with "k_mem" => ((repeat (first | with_reducible assumption | with_reducible exact List.mem_cons_self | with_reducible refine List.mem_cons_of_mem _ ?_ | with_reducible refine List.mem_append_left _ ?_)); done)
  k_with "g37" => skip
  k_with "a37" => ((case N => k_asm); (case h1 => k_mem); (case h2 => k_extra "m_dx"))
  k_with "k_all" => (first | (with_reducible assumption) | (with_reducible refine List.forall_mem_append.mpr ⟨?_, ?_⟩ <;> k_all) | fail "m_all")
  k_with "k_room" => (walk_at "lt_room")
  k_with "loadName" => (k_here; (rename Fr _ _ _ _ => lF9); k_dflt (refine ldX lF9 (by rfl) ?_))
  k_with "k_room" => (walk_at "lt_room")
  k_with "k_units" => (walk_at "lt_units")
  k_with "size_fits" => ((simp only [List.size_toArray, Array.size_push, PySem.sizeLine_eq]); omega)
  k_with "g39" => (k_here; (with_reducible show wpAny _ _ (eval (Expr.Name (Str.ofString "leads") _) (envX _ _ _ _ _ _)) _ _ _))
  k_with "a39" => ((case a => rfl); (case b => rfl); (case N => k_asm); (case c => k_extra "m_cellc"); (case m => k_extra "m_cellm"); (case d => k_extra "m_celld"))
  k_with "subscriptTail Name Name ref int" => (k_here; (with_reducible show wpAny _ _ (subscriptTail _ _ (Value.ref _) (Value.int _ _)) _ _ _); k_dflt (k_extra "m_sub"))
  k_with "call ref" => (k_here; (with_reducible show wpAny _ _ (call (Value.ref 209) _) _ _ _); k_dflt (k_extra "m_ws"))
  k_with "lt_room" => (first | with_unfolding_all exact room2 (j := 0) hdp rfl rfl | with_unfolding_all exact room0 (j := 0) hdp rfl rfl | with_unfolding_all exact room2 (j := 1) hdp rfl rfl | with_unfolding_all exact room0 (j := 1) hdp rfl rfl | with_unfolding_all exact room2 (j := 2) hdp rfl rfl | with_unfolding_all exact room0 (j := 2) hdp rfl rfl | with_unfolding_all exact room2 (j := 3) hdp rfl rfl | with_unfolding_all exact room0 (j := 3) hdp rfl rfl | with_unfolding_all exact room2 (j := 4) hdp rfl rfl | with_unfolding_all exact room0 (j := 4) hdp rfl rfl | with_unfolding_all exact room2 (j := 5) hdp rfl rfl | with_unfolding_all exact room0 (j := 5) hdp rfl rfl | with_unfolding_all exact room2 (j := 6) hdp rfl rfl | with_unfolding_all exact room0 (j := 6) hdp rfl rfl | with_unfolding_all exact room2 (j := 7) hdp rfl rfl | with_unfolding_all exact room0 (j := 7) hdp rfl rfl | (trace "heavy"; ktr_room))
  k_with "lt_units" => (first | with_unfolding_all exact room2 (j := 0) hun rfl rfl | with_unfolding_all exact room0 (j := 0) hun rfl rfl | with_unfolding_all exact room2 (j := 1) hun rfl rfl | with_unfolding_all exact room0 (j := 1) hun rfl rfl | with_unfolding_all exact room2 (j := 2) hun rfl rfl | with_unfolding_all exact room0 (j := 2) hun rfl rfl | with_unfolding_all exact room2 (j := 3) hun rfl rfl | with_unfolding_all exact room0 (j := 3) hun rfl rfl | with_unfolding_all exact room2 (j := 4) hun rfl rfl | with_unfolding_all exact room0 (j := 4) hun rfl rfl | with_unfolding_all exact room2 (j := 5) hun rfl rfl | with_unfolding_all exact room0 (j := 5) hun rfl rfl | with_unfolding_all exact room2 (j := 6) hun rfl rfl | with_unfolding_all exact room0 (j := 6) hun rfl rfl | with_unfolding_all exact room2 (j := 7) hun rfl rfl | with_unfolding_all exact room0 (j := 7) hun rfl rfl | (trace "heavy"; ktr_units))
  have kMark : KstMark := kstMark
  refine toks_ ?_
  conv in nth _ _ => whnf
  unfold rdA rdEnv
  generalize hsc : (fdAt w.params 230).scope = sc
  conv at hsc => lhs; whnf
  subst hsc
  dsimp only [kstB] at F
  k_with "m_cellc" => (exact (show _ = some (L + 1) from rfl))
  k_with "m_cellm" => (first | exact List.Mem.tail _ (List.Mem.tail _ (List.Mem.tail _ hC0)) | (repeat (first | exact hC0 | refine List.mem_append_left _ ?_ | refine List.mem_cons_of_mem _ ?_)))
  k_with "m_celld" => (exact dC)
  k_with "m_sub" => ((rename Fr _ _ _ _ => lF9); (refine item_strB (hB.at fun o e => lF9.keep _ o e) hi (by omega) (by (rw [hn]; omega)) (by omega) ?_ (by with_unfolding_all rfl)); intro xr tx xe xm)
  k_with "m_ws" => ((rename News _ _ _ _ => lN9); (refine' ws_useT (init_p ?w1 ?w2 ?w3 ?w4 ?w5 ?w6 ?w7 ?w8 ?w9 ?wA lN9) ?_); (case w1 => k_asm); (case w2 => k_asm); (case w3 => k_asm); (case w4 => k_asm); (case w5 => first | exact rfl | assumption); (case w6 => walk_at "lt_room"); (case w7 => walk_at "lt_units"); (case w8 => exact hC _ xm); (case w9 => exact hA _ xm); (case wA => exact hL _ xm); clear lN9; intro rW nw h9 tk9 l9 fW mW oW F9 N9; (simp only [List.cons_append] at N9))
  k_steps
  refine Stop.mk fun hle => ?_
  refine' k _ _ _ _ _ _ hle ?xe fW mW oW (fr_names ?ha ?hF) ?hN
  case xe => simpa using xe
  case hF => assumption
  case hN => assumption
  case ha => kst_all
end
set_option maxRecDepth 100000
set_option maxHeartbeats 8000000
section
variable {w : World} {p : Program} {loose : List Str} {mean : ExcName → Option Value} {mg mb : Str → Option Value} {dp un : Nat} {gd : Option (List Code)} {outer : List Env} {A₀ : Around} {base g : Heap} {L : Addr} {s : Shared} {Q : Flow → Shared → Prop} {u : Str → Option Value}
variable {x dx K S H W : Addr} {its : Array Value} {pn xc : Nat} {xt1 xt2 : Tok} {kv sv : List Value} {kn sn : Nat} {r : Nat} {tr : Tok} {tl : List (Addr × Obj)}
theorem st_while {rW : WsR} {xr : Str} {hv : List Value} {hn2 : Nat} {way : List Nat} {leads : List Str} {td : Tok} (mH : (H, listOf hv.toArray hn2) ∈ tl) (aH : All2 (HeldAt w tl leads) hv way) (fW : WsFig rW xr) (mW : ∀ e ∈ WsL w rW, e ∈ tl) (hxr : leads[r]? = some xr) (hL : ∀ x ∈ leads, x.cps.size ≤ 4) (hw8 : way.length ≤ 8) (B : Below A₀ base outer g) (X : (hd.heap_1 w.params).In g) (TP : Top p loose mean mg mb g) (hdp : dp + 18 < recursionLimit) (hun : un + 280 < cLine) (F : Fr g L s.heap (kstB u [(Str.ofString "pile", .ref x), (Str.ofString "hooks", .ref K), (Str.ofString "lasts", .ref S), (Str.ofString "held", .ref H), (Str.ofString "way", .ref W), (Str.ofString "r", .int (r : Int) tr), (Str.ofString "new", .ref rW.x), (Str.ofString "depth", .int (way.length : Int) td)])) (N : News g L s.heap ((x, subO 143 dx its pn) :: (K, listOf (List.toArray kv) kn) :: (S, listOf (List.toArray sv) sn) :: tl))
    (k : ∀ (d : Nat) td' u' h' tk', s.toks ≤ tk' → DepthIs (lsOf leads) way r d → Fr g L h' (kstB u' [(Str.ofString "pile", .ref x), (Str.ofString "hooks", .ref K), (Str.ofString "lasts", .ref S), (Str.ofString "held", .ref H), (Str.ofString "way", .ref W), (Str.ofString "r", .int (r : Int) tr), (Str.ofString "new", .ref rW.x), (Str.ofString "depth", .int (d : Int) td')]) → News g L h' ((x, subO 143 dx its pn) :: (K, listOf (List.toArray kv) kn) :: (S, listOf (List.toArray sv) sn) :: tl) → Q .next { s with heap := h', toks := tk' }) :
    wpAny (model PR w) (rdA w.params dp un gd L outer) (exec (nth (rdTurn w.params) 2) (rdEnv w.params L)) Q (fun _ _ => False) s := by
  k_with_none
  w_top off
  k_with "m_enter" => ((case kA => exact rfl); (case kF => exact rfl); (case kK => assumption); (case k1 => k_asm); (case k2 => k_asm); (case k3 => k_asm); (case k5 => k_asm); (case k6 => k_is); (case k7 => k_is); (case k8 => walk_at "lt_room"); (case k9 => exact BindsTo.of_eq rfl); (case c5 => decide); (case kB => exact locs rfl); (case c2 => exact rfl); (case c3 => exact rfl); (case c4 => exact rfl); k_whole; intro g' L' h' F' N' B' X' T'; (try dsimp only [List.reverse, List.reverseAux, List.length]))
  k_with "m_pure" => ((case k1 => k_asm); (case k2 => k_asm); (case k3 => k_asm); (case k4 => k_asm); (case kK => first | exact rfl | assumption); (case kd => walk_at "lt_room"); (case ku => walk_at "lt_units"))
  k_with "m_useI" => (walk_at "m_pure"; (case k5 => k_asm); intro t9 h9 tk9 F9 N9; (try dsimp only); (try k_sweep))
  k_with "m_same" => (intro z h2 h3; (try simp only [List.forall_mem_cons, List.not_mem_nil, false_implies, implies_true, and_true, ne_eq, List.contains_cons, List.contains_nil, Bool.or_false, Bool.or_eq_false_iff, beq_eq_false_iff_ne] at h2 h3); simp [kstB, h2, h3])
  k_with "m_useB" => (walk_at "m_pure"; (case k5 => k_asm); intro h9 tk9 F9 N9; (try dsimp only); (try k_sweep))
  k_with "l_idx" => (k_dflt (k_extra "m_idx"))
  k_with "g9" => (k_here; (with_reducible show wpAny _ _ (subscriptTail _ _ (Value.ref _) (Value.int _ _)) _ _ _))
  k_with "a9" => ((case k1 => is_list); (case k3 => omega); (case k5 => omega); (case k6 => with_unfolding_all rfl); k_whole)
  k_with "m_sameN" => (intro z h1 h2 h3; (try simp only [List.forall_mem_cons, List.not_mem_nil, false_implies, implies_true, and_true, ne_eq, List.contains_cons, List.contains_nil, Bool.or_false, Bool.or_eq_false_iff, beq_eq_false_iff_ne] at h2 h3); first | rfl | ((show (if z = _ then _ else _) = _); rw [if_neg h1]; rfl) | (simp [kstB, h1, h2, h3]; done))
  k_with "mul_fits" => (k_extra "m_mul")
  k_with "InvEndN" => (refine stop_ ?_)
  k_with "KswEnd" => (refine stop_ ?_)
  k_with "m_new" => (first | exact List.forall_mem_nil _ | (refine List.forall_mem_cons.mpr ⟨⟨by k_mem, by k_all⟩, ?_⟩; walk_at "m_new"))
  k_with "exec For Name Name cons nil" => (k_here; with_unfolding_all refine wpAny_For ?_)
  k_with "exec For Name Call cons nil" => (k_here; with_unfolding_all refine wpAny_For ?_)
  k_with "exec For Tuple Name cons nil" => (k_here; with_unfolding_all refine wpAny_For ?_)
  k_with "exec For Tuple Call cons nil" => (k_here; with_unfolding_all refine wpAny_For ?_)
  k_with "pyIter ref" => (k_dflt (k_extra "m_iter"))
  k_with "pyIter str" => (k_dflt (k_extra "m_siter"))
  k_with "XEnd" => (dsimp only [XEnd])
  k_with "XEndN" => (refine stop_ ?_)
  k_with "k_all" => (first | (with_reducible assumption) | (refine List.forall_mem_append.mpr ⟨?_, ?_⟩ <;> k_all) | fail "m_all")
  k_with "k_room" => (walk_at "lt_room")
  k_with "k_room" => (walk_at "lt_room")
  k_with "k_units" => (walk_at "lt_units")
  k_with "size_fits" => ((simp only [List.size_toArray, Array.size_push, PySem.sizeLine_eq]); omega)
  k_with "g25" => (k_here)
  k_with "a25" => ((case k1 => k_asm); (case k2 => k_asm); (case k3 => k_inst); (case k4 => k_is); (case k5 => k_is); (case k6 => k_is); (case k7 => k_is); (case k8 => k_get); k_whole)
  k_with "m_perm" => (first | exact List.forall_mem_nil _ | (refine List.forall_mem_cons.mpr ⟨?_, ?_⟩; (focus (k_mem; done)); (focus (walk_at "m_perm"; done))) | (refine List.forall_mem_append.mpr ⟨?_, ?_⟩; (focus (walk_at "m_perm"; done)); (focus (walk_at "m_perm"; done))) | (intro q hq; (repeat first | exact hq | exact List.mem_append_left _ hq | exact List.mem_append_right _ hq | exact List.mem_append_left _ (List.mem_append_left _ hq) | exact List.mem_append_left _ (List.mem_append_right _ hq) | refine List.Mem.tail _ ?_); done) | (trace "heavy m_perm"; intro q hq; simp only [List.mem_cons, List.mem_append, List.not_mem_nil, or_false] at hq ⊢; (repeat' (refine Or.elim hq ?_ ?_ <;> (clear hq; intro hq))) <;> simp [hq]))
  k_with "k_mem" => ((repeat (first | with_reducible assumption | with_reducible exact List.mem_cons_self | with_reducible refine List.mem_cons_of_mem _ ?_ | with_reducible refine List.mem_append_left _ ?_)); done)
  k_with "g37" => skip
  k_with "a37" => ((case N => k_asm); (case h1 => k_mem); (case h2 => k_extra "m_dx"))
  k_with "k_all" => (first | (with_reducible assumption) | (with_reducible refine List.forall_mem_append.mpr ⟨?_, ?_⟩ <;> k_all) | fail "m_all")
  k_with "k_room" => (walk_at "lt_room")
  k_with "loadName" => (k_here; (rename Fr _ _ _ _ => lF9); k_dflt (refine ldX lF9 (by rfl) ?_))
  k_with "k_room" => (walk_at "lt_room")
  k_with "k_units" => (walk_at "lt_units")
  k_with "size_fits" => ((simp only [List.size_toArray, Array.size_push, PySem.sizeLine_eq]); omega)
  k_with "exec While Compare cons nil" => (k_extra "m_while")
  k_with "subscriptTail Name BinOp ref int" => (k_here; (with_reducible show wpAny _ _ (subscriptTail _ _ (Value.ref _) (Value.int _ _)) _ _ _); k_dflt (k_extra "m_held"))
  k_with "call ref" => (k_here; (with_reducible show wpAny _ _ (call (Value.ref 199) _) _ _ _); k_dflt (k_extra "m_less"))
  k_with "KswEnd" => (refine stop_ ?_)
  k_with "lt_room" => (first | with_unfolding_all exact room2 (j := 0) hdp rfl rfl | with_unfolding_all exact room0 (j := 0) hdp rfl rfl | with_unfolding_all exact room2 (j := 1) hdp rfl rfl | with_unfolding_all exact room0 (j := 1) hdp rfl rfl | with_unfolding_all exact room2 (j := 2) hdp rfl rfl | with_unfolding_all exact room0 (j := 2) hdp rfl rfl | with_unfolding_all exact room2 (j := 3) hdp rfl rfl | with_unfolding_all exact room0 (j := 3) hdp rfl rfl | with_unfolding_all exact room2 (j := 4) hdp rfl rfl | with_unfolding_all exact room0 (j := 4) hdp rfl rfl | with_unfolding_all exact room2 (j := 5) hdp rfl rfl | with_unfolding_all exact room0 (j := 5) hdp rfl rfl | with_unfolding_all exact room2 (j := 6) hdp rfl rfl | with_unfolding_all exact room0 (j := 6) hdp rfl rfl | with_unfolding_all exact room2 (j := 7) hdp rfl rfl | with_unfolding_all exact room0 (j := 7) hdp rfl rfl | (trace "heavy"; ktr_room))
  k_with "lt_units" => (first | with_unfolding_all exact room2 (j := 0) hun rfl rfl | with_unfolding_all exact room0 (j := 0) hun rfl rfl | with_unfolding_all exact room2 (j := 1) hun rfl rfl | with_unfolding_all exact room0 (j := 1) hun rfl rfl | with_unfolding_all exact room2 (j := 2) hun rfl rfl | with_unfolding_all exact room0 (j := 2) hun rfl rfl | with_unfolding_all exact room2 (j := 3) hun rfl rfl | with_unfolding_all exact room0 (j := 3) hun rfl rfl | with_unfolding_all exact room2 (j := 4) hun rfl rfl | with_unfolding_all exact room0 (j := 4) hun rfl rfl | with_unfolding_all exact room2 (j := 5) hun rfl rfl | with_unfolding_all exact room0 (j := 5) hun rfl rfl | with_unfolding_all exact room2 (j := 6) hun rfl rfl | with_unfolding_all exact room0 (j := 6) hun rfl rfl | with_unfolding_all exact room2 (j := 7) hun rfl rfl | with_unfolding_all exact room0 (j := 7) hun rfl rfl | (trace "heavy"; ktr_units))
  have kMark : KstMark := kstMark
  refine toks_ ?_
  conv in nth _ _ => whnf
  unfold rdA rdEnv
  generalize hsc : (fdAt w.params 230).scope = sc
  conv at hsc => lhs; whnf
  subst hsc
  dsimp only [kstB] at F
  have hmR := List.mem_of_getElem? hxr
  k_with "m_while" => ((rename Fr _ _ _ _ => lF9); (rename News _ _ _ _ => lN9); (refine' ksw_while (σ := Int × Tok) (fun _ => _) (fun c => [(Str.ofString "depth", Value.int c.1 c.2)]) (fun _ => True) [Str.ofString "told"] (DepP (lsOf leads) way r) (fun c => c.1.toNat) (_, _) lF9 ?wlN ?whf ?whk ?whp (fun c kU3 kH3 kTk3 kFacts3 kWh kFr kNews => ?wturn)); (case wlN => exact lN9); (case whf => trivial); (case whk => kst_all); (case whp => exact depP_0 rfl); (clear lF9 lN9); (obtain ⟨q, tq⟩ := c); (dsimp only [kstB] at kFr); (obtain ⟨kW1, kW2⟩ := depP_open kWh))
  k_with "m_held" => ((rename News _ _ _ _ => lN9); (refine' item_heldK aH lN9 ?hm (by omega) (by omega) (by omega) ?_ (by with_unfolding_all rfl)); (case hm => exact List.Mem.tail _ (List.Mem.tail _ (List.Mem.tail _ mH))); intro rH xH jH jE xE mE fE; (have m1 := mE _ (.head _)); (have m2 := mE _ (.tail _ (.head _))); (have m3 := mE _ (.tail _ (.tail _ (.head _)))); (have m4 := mE _ (.tail _ (.tail _ (.tail _ (.head _))))); (dsimp only [WsR.dict] at m2))
  k_with "m_less" => ((rename News _ _ _ _ => lN9); (refine' pure_useBT (less_ws fE fW ?w1 ?w2 ?w3 ?w4 ?w5 ?w6 ?w7 ?w8 ?w9 ?wN) ?k5 ?_); (case w1 => exact hL _ (List.mem_of_getElem? xE)); (case w2 => exact hL _ hmR); (case w3 => k_asm); (case w4 => k_asm); (case w5 => k_asm); (case w6 => k_asm); (case w7 => first | exact rfl | assumption); (case w8 => walk_at "lt_room"); (case w9 => walk_at "lt_units"); (case wN => exact kst_newsOf lN9 (fun p hp => (List.mem_append.mp hp).elim (fun h => .tail _ (.tail _ (.tail _ (mE _ h)))) fun h => .tail _ (.tail _ (.tail _ (mW _ h))))); (case k5 => exact lN9); clear lN9; intro h9 tk9 l9 F9 N9; dsimp only)
  k_steps
  · rename_i a1
    have hls : lsOf leads jH r = true := (ls_get xE hxr).trans (by simpa using a1)
    obtain ⟨d, rfl⟩ : ∃ d : Nat, q = d := ⟨q.toNat, by omega⟩
    refine Stop.mk fun hle => ?_
    refine' k d tq _ _ _ (Nat.le_trans ?hl0 ?hl1) ?hD (fr_names ?ha ?hF) ?hN
    case hF => assumption
    case hN => assumption
    case ha => kst_all
    case hD => simpa using depth_brk kWh (by omega) jE hls
    case hl0 => exact hle
    case hl1 => exact Nat.le_refl _
  · rename_i a1 a2
    exfalso
    cases e : lessW xH xr <;> rw [e] at a1 a2 <;> revert a1 a2 <;> decide
  · have a1 : (lessW xH xr == true) = false := by assumption
    have hls : lsOf leads jH r = false := (ls_get xE hxr).trans (by simpa using a1)
    refine Stop.mk (ksw_end (σ := Int × Tok) (_, _) (by assumption) (by assumption) (fun _ h => h) trivial (by kst_all) (by walk_at "m_same") (depP_go kWh (by omega) jE hls rfl) ?hmu)
    case hmu => dsimp only; omega
  · obtain ⟨d, rfl⟩ : ∃ d : Nat, q = d := ⟨q.toNat, by omega⟩
    refine Stop.mk fun hle => ?_
    refine' k d tq _ _ _ hle ?hD2 (fr_names ?ha2 ?hF2) ?hN2
    case hF2 => assumption
    case hN2 => assumption
    case ha2 => kst_all
    case hD2 => simpa using depth_out kWh (by assumption)
end
set_option maxRecDepth 100000
set_option maxHeartbeats 8000000
local macro_rules | `(tactic| walk_at "call ref") => `(tactic| (k_extra "g40"; k_dflt (refine' out_useT (from_p ?ne1 ?hdx ?k1 ?k2 ?k3 ?k4 ?kK ?kd ?ku ?e ?hk2 ?kN) ?_; k_extra "a40"); k_extra "b40"))
section
variable {w : World} {p : Program} {loose : List Str} {mean : ExcName → Option Value} {mg mb : Str → Option Value} {dp un : Nat} {gd : Option (List Code)} {outer : List Env} {A₀ : Around} {base g : Heap} {L : Addr} {s : Shared} {Q : Flow → Shared → Prop} {u : Str → Option Value}
variable {x dx K S H W : Addr} {its : Array Value} {pn xc : Nat} {xt1 xt2 : Tok} {kv sv : List Value} {kn sn : Nat} {r : Nat} {tr : Tok} {tl : List (Addr × Obj)}
theorem st_off {rW : WsR} {d : Nat} {td : Tok} (hz : its.size ≤ 8) (hdd : d ≤ its.size) (ox : ∀ q ∈ tl, q.1 ≠ x) (oK : ∀ q ∈ tl, q.1 ≠ K) (oS : ∀ q ∈ tl, q.1 ≠ S) (nxK : @Ne Nat x K) (nxS : @Ne Nat x S) (nKS : @Ne Nat K S) (hdx : (dx, dictOf [entS w "_initial_size" xt1 (.int 2 xt2)] xc) ∈ tl) (B : Below A₀ base outer g) (X : (hd.heap_1 w.params).In g) (TP : Top p loose mean mg mb g) (hdp : dp + 18 < recursionLimit) (hun : un + 280 < cLine) (F : Fr g L s.heap (kstB u [(Str.ofString "pile", .ref x), (Str.ofString "hooks", .ref K), (Str.ofString "lasts", .ref S), (Str.ofString "held", .ref H), (Str.ofString "way", .ref W), (Str.ofString "r", .int (r : Int) tr), (Str.ofString "new", .ref rW.x), (Str.ofString "depth", .int (d : Int) td)])) (N : News g L s.heap ((x, subO 143 dx its pn) :: (K, listOf (List.toArray kv) kn) :: (S, listOf (List.toArray sv) sn) :: tl))
    (k : ∀ O pn' u' h' tk', s.toks ≤ tk' → (∀ q ∈ ((x, subO 143 dx its pn) :: (K, listOf (List.toArray kv) kn) :: (S, listOf (List.toArray sv) sn) :: tl), q.1 < O) → Fr g L h' (kstB u' [(Str.ofString "pile", .ref x), (Str.ofString "hooks", .ref K), (Str.ofString "lasts", .ref S), (Str.ofString "held", .ref H), (Str.ofString "way", .ref W), (Str.ofString "r", .int (r : Int) tr), (Str.ofString "new", .ref rW.x), (Str.ofString "depth", .int (d : Int) td), (Str.ofString "off", .ref O)]) → News g L h' ((x, subO 143 dx (its.extract 0 d) pn') :: (K, listOf (List.toArray kv) kn) :: (S, listOf (List.toArray sv) sn) :: ((O, listOf (its.toList.drop d).toArray 0) :: tl)) → Q .next { s with heap := h', toks := tk' }) :
    wpAny (model PR w) (rdA w.params dp un gd L outer) (exec (nth (rdTurn w.params) 3) (rdEnv w.params L)) Q (fun _ _ => False) s := by
  k_with_none
  w_top off
  k_with "m_enter" => ((case kA => exact rfl); (case kF => exact rfl); (case kK => assumption); (case k1 => k_asm); (case k2 => k_asm); (case k3 => k_asm); (case k5 => k_asm); (case k6 => k_is); (case k7 => k_is); (case k8 => walk_at "lt_room"); (case k9 => exact BindsTo.of_eq rfl); (case c5 => decide); (case kB => exact locs rfl); (case c2 => exact rfl); (case c3 => exact rfl); (case c4 => exact rfl); k_whole; intro g' L' h' F' N' B' X' T'; (try dsimp only [List.reverse, List.reverseAux, List.length]))
  k_with "m_pure" => ((case k1 => k_asm); (case k2 => k_asm); (case k3 => k_asm); (case k4 => k_asm); (case kK => first | exact rfl | assumption); (case kd => walk_at "lt_room"); (case ku => walk_at "lt_units"))
  k_with "m_useI" => (walk_at "m_pure"; (case k5 => k_asm); intro t9 h9 tk9 F9 N9; (try dsimp only); (try k_sweep))
  k_with "m_same" => (intro z h2 h3; (try simp only [List.forall_mem_cons, List.not_mem_nil, false_implies, implies_true, and_true, ne_eq, List.contains_cons, List.contains_nil, Bool.or_false, Bool.or_eq_false_iff, beq_eq_false_iff_ne] at h2 h3); simp [kstB, h2, h3])
  k_with "m_useB" => (walk_at "m_pure"; (case k5 => k_asm); intro h9 tk9 F9 N9; (try dsimp only); (try k_sweep))
  k_with "l_idx" => (k_dflt (k_extra "m_idx"))
  k_with "g9" => (k_here; (with_reducible show wpAny _ _ (subscriptTail _ _ (Value.ref _) (Value.int _ _)) _ _ _))
  k_with "a9" => ((case k1 => is_list); (case k3 => omega); (case k5 => omega); (case k6 => with_unfolding_all rfl); k_whole)
  k_with "m_sameN" => (intro z h1 h2 h3; (try simp only [List.forall_mem_cons, List.not_mem_nil, false_implies, implies_true, and_true, ne_eq, List.contains_cons, List.contains_nil, Bool.or_false, Bool.or_eq_false_iff, beq_eq_false_iff_ne] at h2 h3); first | rfl | ((show (if z = _ then _ else _) = _); rw [if_neg h1]; rfl) | (simp [kstB, h1, h2, h3]; done))
  k_with "mul_fits" => (k_extra "m_mul")
  k_with "InvEndN" => (refine stop_ ?_)
  k_with "KswEnd" => (refine stop_ ?_)
  k_with "m_new" => (first | exact List.forall_mem_nil _ | (refine List.forall_mem_cons.mpr ⟨⟨by k_mem, by k_all⟩, ?_⟩; walk_at "m_new"))
  k_with "exec For Name Name cons nil" => (k_here; with_unfolding_all refine wpAny_For ?_)
  k_with "exec For Name Call cons nil" => (k_here; with_unfolding_all refine wpAny_For ?_)
  k_with "exec For Tuple Name cons nil" => (k_here; with_unfolding_all refine wpAny_For ?_)
  k_with "exec For Tuple Call cons nil" => (k_here; with_unfolding_all refine wpAny_For ?_)
  k_with "pyIter ref" => (k_dflt (k_extra "m_iter"))
  k_with "pyIter str" => (k_dflt (k_extra "m_siter"))
  k_with "XEnd" => (dsimp only [XEnd])
  k_with "XEndN" => (refine stop_ ?_)
  k_with "k_all" => (first | (with_reducible assumption) | (refine List.forall_mem_append.mpr ⟨?_, ?_⟩ <;> k_all) | fail "m_all")
  k_with "k_room" => (walk_at "lt_room")
  k_with "k_room" => (walk_at "lt_room")
  k_with "k_units" => (walk_at "lt_units")
  k_with "size_fits" => ((simp only [List.size_toArray, Array.size_push, PySem.sizeLine_eq]); omega)
  k_with "g25" => (k_here)
  k_with "a25" => ((case k1 => k_asm); (case k2 => k_asm); (case k3 => k_inst); (case k4 => k_is); (case k5 => k_is); (case k6 => k_is); (case k7 => k_is); (case k8 => k_get); k_whole)
  k_with "m_perm" => (first | exact List.forall_mem_nil _ | (refine List.forall_mem_cons.mpr ⟨?_, ?_⟩; (focus (k_mem; done)); (focus (walk_at "m_perm"; done))) | (refine List.forall_mem_append.mpr ⟨?_, ?_⟩; (focus (walk_at "m_perm"; done)); (focus (walk_at "m_perm"; done))) | (intro q hq; (repeat first | exact hq | exact List.mem_append_left _ hq | exact List.mem_append_right _ hq | exact List.mem_append_left _ (List.mem_append_left _ hq) | exact List.mem_append_left _ (List.mem_append_right _ hq) | refine List.Mem.tail _ ?_); done) | (trace "heavy m_perm"; intro q hq; simp only [List.mem_cons, List.mem_append, List.not_mem_nil, or_false] at hq ⊢; (repeat' (refine Or.elim hq ?_ ?_ <;> (clear hq; intro hq))) <;> simp [hq]))
  k_with "k_mem" => ((repeat (first | with_reducible assumption | with_reducible exact List.mem_cons_self | with_reducible refine List.mem_cons_of_mem _ ?_ | with_reducible refine List.mem_append_left _ ?_)); done)
  k_with "g37" => skip
  k_with "a37" => ((case N => k_asm); (case h1 => k_mem); (case h2 => k_extra "m_dx"))
  k_with "k_all" => (first | (with_reducible assumption) | (with_reducible refine List.forall_mem_append.mpr ⟨?_, ?_⟩ <;> k_all) | fail "m_all")
  k_with "k_room" => (walk_at "lt_room")
  k_with "loadName" => (k_here; (rename Fr _ _ _ _ => lF9); k_dflt (refine ldX lF9 (by rfl) ?_))
  k_with "k_room" => (walk_at "lt_room")
  k_with "k_units" => (walk_at "lt_units")
  k_with "size_fits" => ((simp only [List.size_toArray, Array.size_push, PySem.sizeLine_eq]); omega)
  k_with "g40" => (k_here; (with_reducible show wpAny _ _ (call (Value.ref 95) _) _ _ _))
  k_with "a40" => ((case k2 => k_asm); (case kN => k_asm); (case ne1 => k_all); (case hdx => k_extra "m_dx"); (case k1 => k_asm); (case k3 => k_asm); (case k4 => k_asm); (case kK => first | exact rfl | assumption); (case kd => walk_at "lt_room"); (case ku => walk_at "lt_units"); (case e => omega); (case hk2 => omega))
  k_with "b40" => (k_extra "m_from")
  k_with "lt_room" => (first | with_unfolding_all exact room2 (j := 0) hdp rfl rfl | with_unfolding_all exact room0 (j := 0) hdp rfl rfl | with_unfolding_all exact room2 (j := 1) hdp rfl rfl | with_unfolding_all exact room0 (j := 1) hdp rfl rfl | with_unfolding_all exact room2 (j := 2) hdp rfl rfl | with_unfolding_all exact room0 (j := 2) hdp rfl rfl | with_unfolding_all exact room2 (j := 3) hdp rfl rfl | with_unfolding_all exact room0 (j := 3) hdp rfl rfl | with_unfolding_all exact room2 (j := 4) hdp rfl rfl | with_unfolding_all exact room0 (j := 4) hdp rfl rfl | with_unfolding_all exact room2 (j := 5) hdp rfl rfl | with_unfolding_all exact room0 (j := 5) hdp rfl rfl | with_unfolding_all exact room2 (j := 6) hdp rfl rfl | with_unfolding_all exact room0 (j := 6) hdp rfl rfl | with_unfolding_all exact room2 (j := 7) hdp rfl rfl | with_unfolding_all exact room0 (j := 7) hdp rfl rfl | (trace "heavy"; ktr_room))
  k_with "lt_units" => (first | with_unfolding_all exact room2 (j := 0) hun rfl rfl | with_unfolding_all exact room0 (j := 0) hun rfl rfl | with_unfolding_all exact room2 (j := 1) hun rfl rfl | with_unfolding_all exact room0 (j := 1) hun rfl rfl | with_unfolding_all exact room2 (j := 2) hun rfl rfl | with_unfolding_all exact room0 (j := 2) hun rfl rfl | with_unfolding_all exact room2 (j := 3) hun rfl rfl | with_unfolding_all exact room0 (j := 3) hun rfl rfl | with_unfolding_all exact room2 (j := 4) hun rfl rfl | with_unfolding_all exact room0 (j := 4) hun rfl rfl | with_unfolding_all exact room2 (j := 5) hun rfl rfl | with_unfolding_all exact room0 (j := 5) hun rfl rfl | with_unfolding_all exact room2 (j := 6) hun rfl rfl | with_unfolding_all exact room0 (j := 6) hun rfl rfl | with_unfolding_all exact room2 (j := 7) hun rfl rfl | with_unfolding_all exact room0 (j := 7) hun rfl rfl | (trace "heavy"; ktr_units))
  have kMark : KstMark := kstMark
  refine toks_ ?_
  conv in nth _ _ => whnf
  unfold rdA rdEnv
  generalize hsc : (fdAt w.params 230).scope = sc
  conv at hsc => lhs; whnf
  subst hsc
  dsimp only [kstB] at F
  k_with "m_dx" => (first | exact List.mem_cons_of_mem _ (List.mem_cons_of_mem _ (List.mem_cons_of_mem _ hdx)) | exact List.mem_cons_of_mem _ (List.mem_cons_of_mem _ hdx))
  k_with "m_from" => (rintro r9 news9 h9 tk9 l9 ⟨O, pn2, rfl, kO, rfl⟩ F9 N9; (have kO' := fun q hq => Nat.ne_of_gt (kO q hq)); (try dsimp only))
  k_steps
  refine Stop.mk fun hle => ?_
  refine' k O pn2 _ _ _ hle kO (fr_names ?ha ?hF) (kst_newsOf ?hN ?hS)
  case hF => assumption
  case hN => assumption
  case ha => kst_all
  case hS => walk_at "m_perm"
end
set_option maxRecDepth 100000
set_option maxHeartbeats 8000000
local macro_rules | `(tactic| walk_at "subscriptTail Name Slice ref ref") => `(tactic| (k_extra "g41"; k_dflt (refine' slice_fromK ?k1 ?k2 ?k4 ?kB ?_ ?kC ?kD; k_extra "a41"); k_extra "b41"))
local macro_rules | `(tactic| walk_at "subscriptTail Name Slice ref ref") => `(tactic| (k_extra "g42"; k_dflt (refine' slice_uptoK ?k1 ?k2 ?k4 ?kB ?_ ?kC ?kD; k_extra "a42"); k_extra "b42"))
local macro_rules | `(tactic| walk_at "subscriptTail") => `(tactic| (k_extra "g43"; k_dflt (refine' item_abc ?hk ?_ ?hs ?ht; k_extra "a43")))
section
variable {w : World} {p : Program} {loose : List Str} {mean : ExcName → Option Value} {mg mb : Str → Option Value} {dp un : Nat} {gd : Option (List Code)} {outer : List Env} {A₀ : Around} {base g : Heap} {L : Addr} {s : Shared} {Q : Flow → Shared → Prop} {u : Str → Option Value}
variable {x dx K S H W : Addr} {its : Array Value} {pn xc : Nat} {xt1 xt2 : Tok} {kv sv : List Value} {kn sn : Nat} {r : Nat} {tr : Tok} {tl : List (Addr × Obj)}
theorem st_cmp {rW : WsR} {d : Nat} {td : Tok} {O : Addr} {ov wv : List Value} {on wn : Nat} {way : List Nat} {oC : Obj} (hC0 : (L + 1, oC) ∈ tl) {LA : Addr} (dC : oC.data = .cell (some (.ref LA))) {lv : List Value} {leads : List Str} (hB : g.IsList LA lv.toArray) (hi : StrsAre lv leads) (hn : leads.length = 8) (mO : (O, listOf ov.toArray on) ∈ tl) (mW2 : (W, listOf wv.toArray wn) ∈ tl) (iW : IntsAre wv (natI way)) (aO : All2 (RowAt tl leads) ov (way.drop d)) (hw : ∀ j ∈ way, j < 8) (hwl : way.length ≤ 8) (hdd : d ≤ way.length) (hok : ∀ x ∈ leads, PyData.strOk x = true) (B : Below A₀ base outer g) (X : (hd.heap_1 w.params).In g) (TP : Top p loose mean mg mb g) (hdp : dp + 18 < recursionLimit) (hun : un + 280 < cLine) (F : Fr g L s.heap (kstB u [(Str.ofString "pile", .ref x), (Str.ofString "hooks", .ref K), (Str.ofString "lasts", .ref S), (Str.ofString "held", .ref H), (Str.ofString "way", .ref W), (Str.ofString "r", .int (r : Int) tr), (Str.ofString "new", .ref rW.x), (Str.ofString "depth", .int (d : Int) td), (Str.ofString "off", .ref O)])) (N : News g L s.heap ((x, subO 143 dx its pn) :: (K, listOf (List.toArray kv) kn) :: (S, listOf (List.toArray sv) sn) :: tl))
    (k : ∀ u' h' tk', s.toks ≤ tk' → Fr g L h' (kstB u' [(Str.ofString "pile", .ref x), (Str.ofString "hooks", .ref K), (Str.ofString "lasts", .ref S), (Str.ofString "held", .ref H), (Str.ofString "way", .ref W), (Str.ofString "r", .int (r : Int) tr), (Str.ofString "new", .ref rW.x), (Str.ofString "depth", .int (d : Int) td), (Str.ofString "off", .ref O)]) → News g L h' ((x, subO 143 dx its pn) :: (K, listOf (List.toArray kv) kn) :: (S, listOf (List.toArray sv) sn) :: tl) → Q .next { s with heap := h', toks := tk' }) :
    wpAny (model PR w) (rdA w.params dp un gd L outer) (exec (nth (rdTurn w.params) 4) (rdEnv w.params L)) Q (fun _ _ => False) s := by
  k_with_none
  w_top off
  k_with "m_enter" => ((case kA => exact rfl); (case kF => exact rfl); (case kK => assumption); (case k1 => k_asm); (case k2 => k_asm); (case k3 => k_asm); (case k5 => k_asm); (case k6 => k_is); (case k7 => k_is); (case k8 => walk_at "lt_room"); (case k9 => exact BindsTo.of_eq rfl); (case c5 => decide); (case kB => exact locs rfl); (case c2 => exact rfl); (case c3 => exact rfl); (case c4 => exact rfl); k_whole; intro g' L' h' F' N' B' X' T'; (try dsimp only [List.reverse, List.reverseAux, List.length]))
  k_with "m_pure" => ((case k1 => k_asm); (case k2 => k_asm); (case k3 => k_asm); (case k4 => k_asm); (case kK => first | exact rfl | assumption); (case kd => walk_at "lt_room"); (case ku => walk_at "lt_units"))
  k_with "m_useI" => (walk_at "m_pure"; (case k5 => k_asm); intro t9 h9 tk9 F9 N9; (try dsimp only); (try k_sweep))
  k_with "m_same" => (intro z h2 h3; (try simp only [List.forall_mem_cons, List.not_mem_nil, false_implies, implies_true, and_true, ne_eq, List.contains_cons, List.contains_nil, Bool.or_false, Bool.or_eq_false_iff, beq_eq_false_iff_ne] at h2 h3); simp [kstB, h2, h3])
  k_with "m_useB" => (walk_at "m_pure"; (case k5 => k_asm); intro h9 tk9 F9 N9; (try dsimp only); (try k_sweep))
  k_with "l_idx" => (k_dflt (k_extra "m_idx"))
  k_with "g9" => (k_here; (with_reducible show wpAny _ _ (subscriptTail _ _ (Value.ref _) (Value.int _ _)) _ _ _))
  k_with "a9" => ((case k1 => is_list); (case k3 => omega); (case k5 => omega); (case k6 => with_unfolding_all rfl); k_whole)
  k_with "m_sameN" => (intro z h1 h2 h3; (try simp only [List.forall_mem_cons, List.not_mem_nil, false_implies, implies_true, and_true, ne_eq, List.contains_cons, List.contains_nil, Bool.or_false, Bool.or_eq_false_iff, beq_eq_false_iff_ne] at h2 h3); first | rfl | ((show (if z = _ then _ else _) = _); rw [if_neg h1]; rfl) | (simp [kstB, h1, h2, h3]; done))
  k_with "mul_fits" => (k_extra "m_mul")
  k_with "InvEndN" => (refine stop_ ?_)
  k_with "KswEnd" => (refine stop_ ?_)
  k_with "m_new" => (first | exact List.forall_mem_nil _ | (refine List.forall_mem_cons.mpr ⟨⟨by k_mem, by k_all⟩, ?_⟩; walk_at "m_new"))
  k_with "exec For Name Name cons nil" => (k_here; with_unfolding_all refine wpAny_For ?_)
  k_with "exec For Name Call cons nil" => (k_here; with_unfolding_all refine wpAny_For ?_)
  k_with "exec For Tuple Name cons nil" => (k_here; with_unfolding_all refine wpAny_For ?_)
  k_with "exec For Tuple Call cons nil" => (k_here; with_unfolding_all refine wpAny_For ?_)
  k_with "pyIter ref" => (k_dflt (k_extra "m_iter"))
  k_with "pyIter str" => (k_dflt (k_extra "m_siter"))
  k_with "XEnd" => (dsimp only [XEnd])
  k_with "XEndN" => (refine stop_ ?_)
  k_with "k_all" => (first | (with_reducible assumption) | (refine List.forall_mem_append.mpr ⟨?_, ?_⟩ <;> k_all) | fail "m_all")
  k_with "k_room" => (walk_at "lt_room")
  k_with "k_room" => (walk_at "lt_room")
  k_with "k_units" => (walk_at "lt_units")
  k_with "size_fits" => ((simp only [List.size_toArray, Array.size_push, PySem.sizeLine_eq]); omega)
  k_with "g25" => (k_here)
  k_with "a25" => ((case k1 => k_asm); (case k2 => k_asm); (case k3 => k_inst); (case k4 => k_is); (case k5 => k_is); (case k6 => k_is); (case k7 => k_is); (case k8 => k_get); k_whole)
  k_with "m_perm" => (first | exact List.forall_mem_nil _ | (refine List.forall_mem_cons.mpr ⟨?_, ?_⟩; (focus (k_mem; done)); (focus (walk_at "m_perm"; done))) | (refine List.forall_mem_append.mpr ⟨?_, ?_⟩; (focus (walk_at "m_perm"; done)); (focus (walk_at "m_perm"; done))) | (intro q hq; (repeat first | exact hq | exact List.mem_append_left _ hq | exact List.mem_append_right _ hq | exact List.mem_append_left _ (List.mem_append_left _ hq) | exact List.mem_append_left _ (List.mem_append_right _ hq) | refine List.Mem.tail _ ?_); done) | (trace "heavy m_perm"; intro q hq; simp only [List.mem_cons, List.mem_append, List.not_mem_nil, or_false] at hq ⊢; (repeat' (refine Or.elim hq ?_ ?_ <;> (clear hq; intro hq))) <;> simp [hq]))
  k_with "k_mem" => ((repeat (first | with_reducible assumption | with_reducible exact List.mem_cons_self | with_reducible refine List.mem_cons_of_mem _ ?_ | with_reducible refine List.mem_append_left _ ?_)); done)
  k_with "g37" => skip
  k_with "a37" => ((case N => k_asm); (case h1 => k_mem); (case h2 => k_extra "m_dx"))
  k_with "k_all" => (first | (with_reducible assumption) | (with_reducible refine List.forall_mem_append.mpr ⟨?_, ?_⟩ <;> k_all) | fail "m_all")
  k_with "k_room" => (walk_at "lt_room")
  k_with "loadName" => (k_here; (rename Fr _ _ _ _ => lF9); k_dflt (refine ldX lF9 (by rfl) ?_))
  k_with "k_room" => (walk_at "lt_room")
  k_with "k_units" => (walk_at "lt_units")
  k_with "size_fits" => ((simp only [List.size_toArray, Array.size_push, PySem.sizeLine_eq]); omega)
  k_with "g39" => (k_here; (with_reducible show wpAny _ _ (eval (Expr.Name (Str.ofString "leads") _) (envX _ _ _ _ _ _)) _ _ _))
  k_with "a39" => ((case a => rfl); (case b => rfl); (case N => k_asm); (case c => k_extra "m_cellc"); (case m => k_extra "m_cellm"); (case d => k_extra "m_celld"))
  k_with "subscriptTail Name Name ref int" => (k_here; (with_reducible show wpAny _ _ (subscriptTail _ _ (Value.ref _) (Value.int _ _)) _ _ _); k_dflt (k_extra "m_sub"))
  k_with "g41" => (k_here; (with_reducible show wpAny _ _ (subscriptTail _ _ (Value.ref _) (Value.ref _)) _ _ _))
  k_with "a41" => ((case k1 => k_asm); (case k2 => k_asm); (case k4 => k_mem); (case kB => omega); (case kC => with_unfolding_all rfl); (case kD => (intro _; with_unfolding_all rfl)))
  k_with "b41" => (k_extra "m_slice")
  k_with "g42" => (k_here; (with_reducible show wpAny _ _ (subscriptTail _ _ (Value.ref _) (Value.ref _)) _ _ _))
  k_with "a42" => ((case k1 => k_asm); (case k2 => k_asm); (case k4 => k_mem); (case kB => omega); (case kC => with_unfolding_all rfl); (case kD => (intro _; with_unfolding_all rfl)))
  k_with "b42" => (k_extra "m_slice")
  k_with "eval Name" => (k_here; (with_reducible show wpAny _ _ (eval (Expr.Name (Str.ofString "leads") _) (compEnvC _ _ _ _)) _ _ _); k_dflt (k_extra "m_cleads"))
  k_with "compareOp NotEq ref ref" => (k_here; k_dflt (k_extra "m_ne"))
  k_with "eval ListComp" => (k_here; k_dflt (refine LCg.ListComp_U (F₀ := by k_asm) (by with_unfolding_all rfl) (by decide) (by rfl) (by decide) (by rfl) ?_))
  k_with "CompSrc" => (refine stop_ ?_)
  k_with "g43" => (k_here; (with_reducible show wpAny _ _ (subscriptTail _ _ (Value.str (Str.ofString "abcdefgh") _) (Value.int _ _)) _ _ _))
  k_with "a43" => ((case hk => omega); (case hs => with_unfolding_all rfl); (case ht => (intro _; with_unfolding_all rfl)))
  k_with "CompEnd" => (refine stop_ ?_)
  k_with "lt_room" => (first | with_unfolding_all exact room2 (j := 0) hdp rfl rfl | with_unfolding_all exact room0 (j := 0) hdp rfl rfl | with_unfolding_all exact room2 (j := 1) hdp rfl rfl | with_unfolding_all exact room0 (j := 1) hdp rfl rfl | with_unfolding_all exact room2 (j := 2) hdp rfl rfl | with_unfolding_all exact room0 (j := 2) hdp rfl rfl | with_unfolding_all exact room2 (j := 3) hdp rfl rfl | with_unfolding_all exact room0 (j := 3) hdp rfl rfl | with_unfolding_all exact room2 (j := 4) hdp rfl rfl | with_unfolding_all exact room0 (j := 4) hdp rfl rfl | with_unfolding_all exact room2 (j := 5) hdp rfl rfl | with_unfolding_all exact room0 (j := 5) hdp rfl rfl | with_unfolding_all exact room2 (j := 6) hdp rfl rfl | with_unfolding_all exact room0 (j := 6) hdp rfl rfl | with_unfolding_all exact room2 (j := 7) hdp rfl rfl | with_unfolding_all exact room0 (j := 7) hdp rfl rfl | (trace "heavy"; ktr_room))
  k_with "lt_units" => (first | with_unfolding_all exact room2 (j := 0) hun rfl rfl | with_unfolding_all exact room0 (j := 0) hun rfl rfl | with_unfolding_all exact room2 (j := 1) hun rfl rfl | with_unfolding_all exact room0 (j := 1) hun rfl rfl | with_unfolding_all exact room2 (j := 2) hun rfl rfl | with_unfolding_all exact room0 (j := 2) hun rfl rfl | with_unfolding_all exact room2 (j := 3) hun rfl rfl | with_unfolding_all exact room0 (j := 3) hun rfl rfl | with_unfolding_all exact room2 (j := 4) hun rfl rfl | with_unfolding_all exact room0 (j := 4) hun rfl rfl | with_unfolding_all exact room2 (j := 5) hun rfl rfl | with_unfolding_all exact room0 (j := 5) hun rfl rfl | with_unfolding_all exact room2 (j := 6) hun rfl rfl | with_unfolding_all exact room0 (j := 6) hun rfl rfl | with_unfolding_all exact room2 (j := 7) hun rfl rfl | with_unfolding_all exact room0 (j := 7) hun rfl rfl | (trace "heavy"; ktr_units))
  have kMark : KstMark := kstMark
  refine toks_ ?_
  conv in nth _ _ => whnf
  unfold rdA rdEnv
  generalize hsc : (fdAt w.params 230).scope = sc
  conv at hsc => lhs; whnf
  subst hsc
  dsimp only [kstB] at F
  have hwvl : wv.length = way.length := by rw [iW.length, List.length_map]
  k_with "m_cellc" => (exact (show _ = some (L + 1) from rfl))
  k_with "m_cellm" => (first | exact List.Mem.tail _ (List.Mem.tail _ (List.Mem.tail _ hC0)) | (repeat (first | exact hC0 | refine List.mem_append_left _ ?_ | refine List.mem_cons_of_mem _ ?_)))
  k_with "m_celld" => (exact dC)
  k_with "m_slice" => (intro sD sh sF sN sl; (refine' LCg.CompSrc.ledger ?hh sF sN (List.mem_cons_self) ?hsz (fun gg => compRest_of (CmpI ((sD, listOf (wv.drop d).toArray 0) :: ((x, subO 143 dx its pn) :: (K, listOf (List.toArray kv) kn) :: (S, listOf (List.toArray sv) sn) :: tl)) leads (way.drop d)) ?step ?fin _ 0 [] _ ?e0 ?i0)); (case hh => rfl); (case e0 => exact Nat.zero_add _); (case i0 => exact cmp_0 fun q hq => hq); (case hsz => (rw [List.size_toArray, List.length_drop, sizeLine_eq]; omega)); (case' step => (intro ci cys cnews cv cI coI cC coC cD cm ch ctk cE chi chI chP chN chx cF cN coff cne; obtain ⟨cj, cjt, rfl, cje, cj8⟩ := way_get iW hw chP)); (case' fin => (intro cys cnews chI; have chA := cmp_fin chI (by simp [hwvl]); unfold LCg.FinE; intro fD fh ftk fF fN fo)))
  k_with "m_cleads" => (refine' lcf_cell (c := L + 1) (o := oC) (v := .ref LA) cN ?cc ?cm ?cd ?_ ?ca ?cb; (case ca => rfl); (case cb => rfl); (case cc => rfl); (case cm => exact List.mem_cons_of_mem _ (List.mem_cons_of_mem _ (List.mem_cons_of_mem _ (chI.2 _ (List.mem_cons_of_mem _ (List.mem_cons_of_mem _ (List.mem_cons_of_mem _ (List.mem_cons_of_mem _ hC0)))))))); (case cd => exact dC))
  k_with "m_sub" => ((rename Fr _ _ _ _ => lF9); (refine item_strB (hB.at fun o e => lF9.keep _ o e) hi (by omega) (by (rw [hn]; omega)) (by omega) ?_ (by with_unfolding_all rfl)); intro xr tx xe xm)
  k_with "m_ne" => ((rename News _ _ _ _ => nE); (refine' ne_led nE (List.mem_cons_of_mem _ (chI.2 _ (List.mem_cons_of_mem _ (List.mem_cons_of_mem _ (List.mem_cons_of_mem _ (List.mem_cons_of_mem _ mO)))))) (aO.mono fun v j a => a.mono fun q hq => List.mem_cons_of_mem _ (chI.2 _ (List.mem_cons_of_mem _ (List.mem_cons_of_mem _ (List.mem_cons_of_mem _ (List.mem_cons_of_mem _ hq)))))) (List.mem_cons_self) (chA.mono fun v j a => a.mono fun q hq => List.mem_cons_of_mem _ hq) (lead_ok hok hn hw) ?nu ?_); (case nu => walk_at "lt_units"))
  k_steps
  case' step =>
    rename_i nD nh nF nN nl
    refine Stop.mk (LCg.CompEnd.intro nF nN ((nD, tupO [.str xr tx, .str ⟨#[97 + cj]⟩ (ctk + 1)]) :: cnews) ?s1 ⟨⟨?s2, ?s3, ?s4⟩, coff⟩ (.inr ⟨_, .tail _ (chI.2 _ (.head _)), rfl, _, rfl⟩) (cmp_1 chI cje (by simpa using xe) (.head _) (fun q hq => .tail _ hq)))
    case s1 => walk_at "m_perm"
    case s2 => exact Nat.ne_of_gt nl.1
    case s3 => exact Nat.ne_of_gt nl.2.1
    case s4 => exact Nat.ne_of_gt nl.2.2.1
  case' fin =>
    refine Stop.mk fun hle => ?_
    rename News _ _ _ _ => nE
    refine' k _ _ _ hle (fr_names ?ha ?hF) (kst_newsOf nE fun q hq => .tail _ (chI.2 q (.tail _ hq)))
    case hF => assumption
    case ha => kst_all
end
set_option maxRecDepth 100000
set_option maxHeartbeats 8000000
section
variable {w : World} {p : Program} {loose : List Str} {mean : ExcName → Option Value} {mg mb : Str → Option Value} {dp un : Nat} {gd : Option (List Code)} {outer : List Env} {A₀ : Around} {base g : Heap} {L : Addr} {s : Shared} {Q : Flow → Shared → Prop} {u : Str → Option Value}
variable {x dx K S H W : Addr} {its : Array Value} {pn xc : Nat} {xt1 xt2 : Tok} {kv sv : List Value} {kn sn : Nat} {r : Nat} {tr : Tok} {tl : List (Addr × Obj)}
theorem st_lasts {rW : WsR} {d : Nat} {td : Tok} {O : Addr} {ov : List Value} {on tb : Nat} {way : List Nat} {leads : List Str} {lasts : List Int} (ox : ∀ q ∈ tl, q.1 ≠ x) (oK : ∀ q ∈ tl, q.1 ≠ K) (oS : ∀ q ∈ tl, q.1 ≠ S) (nxK : @Ne Nat x K) (nxS : @Ne Nat x S) (nKS : @Ne Nat K S) (mO : (O, listOf ov.toArray on) ∈ tl) (aO : All2 (PileAt tl leads tb) ov (way.drop d)) (iS : IntsAre sv lasts) (hS8 : lasts.length = 8) (htb0 : tb ≤ s.toks) (hr8 : r < 8) (B : Below A₀ base outer g) (X : (hd.heap_1 w.params).In g) (TP : Top p loose mean mg mb g) (hdp : dp + 18 < recursionLimit) (hun : un + 280 < cLine) (F : Fr g L s.heap (kstB u [(Str.ofString "pile", .ref x), (Str.ofString "hooks", .ref K), (Str.ofString "lasts", .ref S), (Str.ofString "held", .ref H), (Str.ofString "way", .ref W), (Str.ofString "r", .int (r : Int) tr), (Str.ofString "new", .ref rW.x), (Str.ofString "depth", .int (d : Int) td), (Str.ofString "off", .ref O)])) (N : News g L s.heap ((x, subO 143 dx its pn) :: (K, listOf (List.toArray kv) kn) :: (S, listOf (List.toArray sv) sn) :: tl))
    (k : ∀ u' h' tk' sv' sn', s.toks ≤ tk' → IntsAre sv' (setAll lasts (way.drop d) r) → Fr g L h' (kstB u' [(Str.ofString "pile", .ref x), (Str.ofString "hooks", .ref K), (Str.ofString "lasts", .ref S), (Str.ofString "held", .ref H), (Str.ofString "way", .ref W), (Str.ofString "r", .int (r : Int) tr), (Str.ofString "new", .ref rW.x), (Str.ofString "depth", .int (d : Int) td), (Str.ofString "off", .ref O)]) → News g L h' ((x, subO 143 dx its pn) :: (K, listOf (List.toArray kv) kn) :: (S, listOf (List.toArray sv') sn') :: tl) → Q .next { s with heap := h', toks := tk' }) :
    wpAny (model PR w) (rdA w.params dp un gd L outer) (exec (nth (rdTurn w.params) 5) (rdEnv w.params L)) Q (fun _ _ => False) s := by
  k_with_none
  w_top off
  k_with "m_enter" => ((case kA => exact rfl); (case kF => exact rfl); (case kK => assumption); (case k1 => k_asm); (case k2 => k_asm); (case k3 => k_asm); (case k5 => k_asm); (case k6 => k_is); (case k7 => k_is); (case k8 => walk_at "lt_room"); (case k9 => exact BindsTo.of_eq rfl); (case c5 => decide); (case kB => exact locs rfl); (case c2 => exact rfl); (case c3 => exact rfl); (case c4 => exact rfl); k_whole; intro g' L' h' F' N' B' X' T'; (try dsimp only [List.reverse, List.reverseAux, List.length]))
  k_with "m_pure" => ((case k1 => k_asm); (case k2 => k_asm); (case k3 => k_asm); (case k4 => k_asm); (case kK => first | exact rfl | assumption); (case kd => walk_at "lt_room"); (case ku => walk_at "lt_units"))
  k_with "m_useI" => (walk_at "m_pure"; (case k5 => k_asm); intro t9 h9 tk9 F9 N9; (try dsimp only); (try k_sweep))
  k_with "m_same" => (intro z h2 h3; (try simp only [List.forall_mem_cons, List.not_mem_nil, false_implies, implies_true, and_true, ne_eq, List.contains_cons, List.contains_nil, Bool.or_false, Bool.or_eq_false_iff, beq_eq_false_iff_ne] at h2 h3); simp [kstB, h2, h3])
  k_with "m_useB" => (walk_at "m_pure"; (case k5 => k_asm); intro h9 tk9 F9 N9; (try dsimp only); (try k_sweep))
  k_with "l_idx" => (k_dflt (k_extra "m_idx"))
  k_with "g9" => (k_here; (with_reducible show wpAny _ _ (subscriptTail _ _ (Value.ref _) (Value.int _ _)) _ _ _))
  k_with "a9" => ((case k1 => is_list); (case k3 => omega); (case k5 => omega); (case k6 => with_unfolding_all rfl); k_whole)
  k_with "m_sameN" => (intro z h1 h2 h3; (try simp only [List.forall_mem_cons, List.not_mem_nil, false_implies, implies_true, and_true, ne_eq, List.contains_cons, List.contains_nil, Bool.or_false, Bool.or_eq_false_iff, beq_eq_false_iff_ne] at h2 h3); first | rfl | ((show (if z = _ then _ else _) = _); rw [if_neg h1]; rfl) | (simp [kstB, h1, h2, h3]; done))
  k_with "mul_fits" => (k_extra "m_mul")
  k_with "InvEndN" => (refine stop_ ?_)
  k_with "KswEnd" => (refine stop_ ?_)
  k_with "m_new" => (first | exact List.forall_mem_nil _ | (refine List.forall_mem_cons.mpr ⟨⟨by k_mem, by k_all⟩, ?_⟩; walk_at "m_new"))
  k_with "exec For Name Name cons nil" => (k_here; with_unfolding_all refine wpAny_For ?_)
  k_with "exec For Name Call cons nil" => (k_here; with_unfolding_all refine wpAny_For ?_)
  k_with "exec For Tuple Name cons nil" => (k_here; with_unfolding_all refine wpAny_For ?_)
  k_with "exec For Tuple Call cons nil" => (k_here; with_unfolding_all refine wpAny_For ?_)
  k_with "pyIter ref" => (k_dflt (k_extra "m_iter"))
  k_with "pyIter str" => (k_dflt (k_extra "m_siter"))
  k_with "XEnd" => (dsimp only [XEnd])
  k_with "XEndN" => (refine stop_ ?_)
  k_with "k_all" => (first | (with_reducible assumption) | (refine List.forall_mem_append.mpr ⟨?_, ?_⟩ <;> k_all) | fail "m_all")
  k_with "k_room" => (walk_at "lt_room")
  k_with "k_room" => (walk_at "lt_room")
  k_with "k_units" => (walk_at "lt_units")
  k_with "size_fits" => ((simp only [List.size_toArray, Array.size_push, PySem.sizeLine_eq]); omega)
  k_with "g25" => (k_here)
  k_with "a25" => ((case k1 => k_asm); (case k2 => k_asm); (case k3 => k_inst); (case k4 => k_is); (case k5 => k_is); (case k6 => k_is); (case k7 => k_is); (case k8 => k_get); k_whole)
  k_with "m_perm" => (first | exact List.forall_mem_nil _ | (refine List.forall_mem_cons.mpr ⟨?_, ?_⟩; (focus (k_mem; done)); (focus (walk_at "m_perm"; done))) | (refine List.forall_mem_append.mpr ⟨?_, ?_⟩; (focus (walk_at "m_perm"; done)); (focus (walk_at "m_perm"; done))) | (intro q hq; (repeat first | exact hq | exact List.mem_append_left _ hq | exact List.mem_append_right _ hq | exact List.mem_append_left _ (List.mem_append_left _ hq) | exact List.mem_append_left _ (List.mem_append_right _ hq) | refine List.Mem.tail _ ?_); done) | (trace "heavy m_perm"; intro q hq; simp only [List.mem_cons, List.mem_append, List.not_mem_nil, or_false] at hq ⊢; (repeat' (refine Or.elim hq ?_ ?_ <;> (clear hq; intro hq))) <;> simp [hq]))
  k_with "k_mem" => ((repeat (first | with_reducible assumption | with_reducible exact List.mem_cons_self | with_reducible refine List.mem_cons_of_mem _ ?_ | with_reducible refine List.mem_append_left _ ?_)); done)
  k_with "g37" => skip
  k_with "a37" => ((case N => k_asm); (case h1 => k_mem); (case h2 => k_extra "m_dx"))
  k_with "k_all" => (first | (with_reducible assumption) | (with_reducible refine List.forall_mem_append.mpr ⟨?_, ?_⟩ <;> k_all) | fail "m_all")
  k_with "k_room" => (walk_at "lt_room")
  k_with "loadName" => (k_here; (rename Fr _ _ _ _ => lF9); k_dflt (refine ldX lF9 (by rfl) ?_))
  k_with "k_room" => (walk_at "lt_room")
  k_with "k_units" => (walk_at "lt_units")
  k_with "size_fits" => ((simp only [List.size_toArray, Array.size_push, PySem.sizeLine_eq]); omega)
  k_with "TokThen" => (refine tokThen_ ?_; (intro tkN tkL tkE; dsimp only))
  k_with "exec For Tuple Name cons nil" => (k_here; with_unfolding_all refine wpAny_For ?_)
  k_with "pyIter ref" => (k_dflt (k_extra "m_iter"))
  k_with "YEnd" => (dsimp only [YEnd])
  k_with "YEndN" => (refine stop_ ?_)
  k_with "call ref" => (k_here; (with_reducible show wpAny _ _ (call (Value.ref 63) _) _ _ _); k_dflt (k_extra "m_index"))
  k_with "lt_room" => (first | with_unfolding_all exact room2 (j := 0) hdp rfl rfl | with_unfolding_all exact room0 (j := 0) hdp rfl rfl | with_unfolding_all exact room2 (j := 1) hdp rfl rfl | with_unfolding_all exact room0 (j := 1) hdp rfl rfl | with_unfolding_all exact room2 (j := 2) hdp rfl rfl | with_unfolding_all exact room0 (j := 2) hdp rfl rfl | with_unfolding_all exact room2 (j := 3) hdp rfl rfl | with_unfolding_all exact room0 (j := 3) hdp rfl rfl | with_unfolding_all exact room2 (j := 4) hdp rfl rfl | with_unfolding_all exact room0 (j := 4) hdp rfl rfl | with_unfolding_all exact room2 (j := 5) hdp rfl rfl | with_unfolding_all exact room0 (j := 5) hdp rfl rfl | with_unfolding_all exact room2 (j := 6) hdp rfl rfl | with_unfolding_all exact room0 (j := 6) hdp rfl rfl | with_unfolding_all exact room2 (j := 7) hdp rfl rfl | with_unfolding_all exact room0 (j := 7) hdp rfl rfl | (trace "heavy"; ktr_room))
  k_with "lt_units" => (first | with_unfolding_all exact room2 (j := 0) hun rfl rfl | with_unfolding_all exact room0 (j := 0) hun rfl rfl | with_unfolding_all exact room2 (j := 1) hun rfl rfl | with_unfolding_all exact room0 (j := 1) hun rfl rfl | with_unfolding_all exact room2 (j := 2) hun rfl rfl | with_unfolding_all exact room0 (j := 2) hun rfl rfl | with_unfolding_all exact room2 (j := 3) hun rfl rfl | with_unfolding_all exact room0 (j := 3) hun rfl rfl | with_unfolding_all exact room2 (j := 4) hun rfl rfl | with_unfolding_all exact room0 (j := 4) hun rfl rfl | with_unfolding_all exact room2 (j := 5) hun rfl rfl | with_unfolding_all exact room0 (j := 5) hun rfl rfl | with_unfolding_all exact room2 (j := 6) hun rfl rfl | with_unfolding_all exact room0 (j := 6) hun rfl rfl | with_unfolding_all exact room2 (j := 7) hun rfl rfl | with_unfolding_all exact room0 (j := 7) hun rfl rfl | (trace "heavy"; ktr_units))
  have kMark : KstMark := kstMark
  refine toks_ ?_
  conv in nth _ _ => whnf
  unfold rdA rdEnv
  generalize hsc : (fdAt w.params 230).scope = sc
  conv at hsc => lhs; whnf
  subst hsc
  dsimp only [kstB] at F
  k_with "m_iter" => ((rename Fr _ _ _ _ => lF9); (rename News _ _ _ _ => lN9); (refine' y_list (σ := LsS) (fun c => ((x, subO 143 dx its pn) :: (K, listOf (List.toArray kv) kn) :: (S, listOf (List.toArray c.sv) c.sn) :: tl)) (fun _ => [(Str.ofString "pile", .ref x), (Str.ofString "hooks", .ref K), (Str.ofString "lasts", .ref S), (Str.ofString "held", .ref H), (Str.ofString "way", .ref W), (Str.ofString "r", .int (r : Int) tr), (Str.ofString "new", .ref rW.x), (Str.ofString "depth", .int (d : Int) td), (Str.ofString "off", .ref O)]) (fun c => IntsAre c.sv c.lasts) (LsS.P lasts (way.drop d) r) (fun _ => tb) (⟨sv, sn, lasts⟩) ([(O, listOf ov.toArray on)]) ?hgo ?hl ?hh ?hkl ?hk ?h0 lF9 ?lN9 ?hL ?hf ?hps ?hp ?htb ?hE (fun c i v kU kH kTk kOwn kIt kOff kInts kInv kTB kFr kNews => ?turn) (fun c kU kH kTk kInts kInv kTB kFr kNews => ?done)); (case hh => rfl); (case hE => passes_own); (case hgo => exact .inr ⟨_, _, _, rfl⟩); (case hl => exact ⟨_, (lN9 _ (.tail _ (.tail _ (.tail _ mO)))).1, rfl, _, rfl⟩); (case hkl => exact (fun p hp => by rw [List.mem_singleton.mp hp])); (case hk => exact (fun c p hp => by rw [List.mem_singleton.mp hp]; exact .tail _ (.tail _ (.tail _ mO)))); (case h0 => exact one_obj lN9 (.tail _ (.tail _ (.tail _ mO)))); (case lN9 => exact lN9); (case hL => exact Ne.symm (lN9 _ (.tail _ (.tail _ (.tail _ mO)))).2.1); (case hf => exact iS); (case hps => kst_all); (case hp => exact rfl); (case htb => exact htb0); (clear lF9 lN9); (all_goals (obtain ⟨sv1, sn1, lasts1⟩ := c; (try dsimp only [kstB] at kFr); (try simp only [List.cons_append] at kNews); dsimp only at kInts; (have kLl := lss_len kInv); dsimp only at kLl)); (case' turn => (obtain ⟨j, jE, T, t1, u1, x1, rfl, jM, jX, j8, ju0, ju1⟩ := aO.get (by simpa using kIt); (try dsimp only at kOff); (simp only [List.forall_mem_cons] at kOff); (obtain ⟨ko1, ko2, ko3, ko4⟩ := kOff); refine any_T kTk (Nat.le_refl _) ?_)))
  k_with "m_idx" => omega
  k_with "m_tk" => ((rename _ ≤ _ => tkL); exact Nat.lt_of_lt_of_le ju1 (Nat.le_trans kTB (Nat.le_trans tkL (Nat.le_add_right _ _))))
  k_with "m_index" => ((rename News _ _ _ _ => lN9); (refine' pure_useIT (index_p j8 ju0 ?w0 ?w1 ?w2 ?w3 ?w4 ?w5 ?w6 ?w7) lN9 ?_); (case w0 => (k_extra "m_tk")); (case w1 => k_asm); (case w2 => k_asm); (case w3 => k_asm); (case w4 => k_asm); (case w5 => first | exact rfl | assumption); (case w6 => walk_at "lt_room"); (case w7 => walk_at "lt_units"); clear lN9; intro t9 h9 tk9 l9 F9 N9; dsimp only)
  k_steps
  case' done =>
    refine Stop.mk fun hle => ?_
    have kE := lss_done kInv (by simp [aO.length])
    dsimp only at kE
    rw [kE] at kInts
    refine' k _ _ _ _ _ hle kInts (fr_names ?ha ?hF) kNews
    case hF => assumption
    case ha => kst_all
  · rename News _ _ _ _ => nE
    have tS := lss_step (sv' := sv1.set j (.int r tr)) (sn' := sn1) kInv jE
    refine Stop.mk (yend_ (σ := LsS) ⟨sv1.set j (.int r tr), sn1, lasts1.set j (r : Int)⟩ (by assumption) nE ?hn1 ?ho1 (List.forall_mem_cons.mpr ⟨ko1, List.forall_mem_cons.mpr ⟨ko2, List.forall_mem_cons.mpr ⟨ko3, ko4⟩⟩⟩) ?hf1 (by kst_all) tS fun hle => Nat.le_trans kTB hle)
    case hn1 => walk_at "m_perm"
    case ho1 => walk_at "m_perm"
    case hf1 => assumption
end
set_option maxRecDepth 100000
set_option maxHeartbeats 8000000
local macro_rules | `(tactic| walk_at "binaryOp Add ref ref") => `(tactic| (k_extra "g44"; k_dflt (refine' add_catK ?F ?N ?a ?b ?z ?_; k_extra "a44"); k_extra "b44"))
section
variable {w : World} {p : Program} {loose : List Str} {mean : ExcName → Option Value} {mg mb : Str → Option Value} {dp un : Nat} {gd : Option (List Code)} {outer : List Env} {A₀ : Around} {base g : Heap} {L : Addr} {s : Shared} {Q : Flow → Shared → Prop} {u : Str → Option Value}
variable {x dx K S H W : Addr} {its : Array Value} {pn xc : Nat} {xt1 xt2 : Tok} {kv sv : List Value} {kn sn : Nat} {r : Nat} {tr : Tok} {tl : List (Addr × Obj)}
theorem st_held {rW : WsR} {d : Nat} {td : Tok} {O : Addr} {hv wv : List Value} {hn2 wn : Nat} (ox : ∀ q ∈ tl, q.1 ≠ x) (oK : ∀ q ∈ tl, q.1 ≠ K) (oS : ∀ q ∈ tl, q.1 ≠ S) (nxK : @Ne Nat x K) (nxS : @Ne Nat x S) (nKS : @Ne Nat K S) (mH : (H, listOf hv.toArray hn2) ∈ tl) (mW2 : (W, listOf wv.toArray wn) ∈ tl) (hh8 : hv.length ≤ 8) (hw8 : wv.length ≤ 8) (B : Below A₀ base outer g) (X : (hd.heap_1 w.params).In g) (TP : Top p loose mean mg mb g) (hdp : dp + 18 < recursionLimit) (hun : un + 280 < cLine) (F : Fr g L s.heap (kstB u [(Str.ofString "pile", .ref x), (Str.ofString "hooks", .ref K), (Str.ofString "lasts", .ref S), (Str.ofString "held", .ref H), (Str.ofString "way", .ref W), (Str.ofString "r", .int (r : Int) tr), (Str.ofString "new", .ref rW.x), (Str.ofString "depth", .int (d : Int) td), (Str.ofString "off", .ref O)])) (N : News g L s.heap ((x, subO 143 dx its pn) :: (K, listOf (List.toArray kv) kn) :: (S, listOf (List.toArray sv) sn) :: tl))
    (k : ∀ u' h' tk' H' W' hn' wn', s.toks ≤ tk' → (∀ q ∈ ((x, subO 143 dx its pn) :: (K, listOf (List.toArray kv) kn) :: (S, listOf (List.toArray sv) sn) :: tl), q.1 < H' ∧ q.1 < W') → Fr g L h' (kstB u' [(Str.ofString "pile", .ref x), (Str.ofString "hooks", .ref K), (Str.ofString "lasts", .ref S), (Str.ofString "held", .ref H'), (Str.ofString "way", .ref W'), (Str.ofString "r", .int (r : Int) tr), (Str.ofString "new", .ref rW.x), (Str.ofString "depth", .int (d : Int) td), (Str.ofString "off", .ref O)]) → News g L h' ((x, subO 143 dx its pn) :: (K, listOf (List.toArray kv) kn) :: (S, listOf (List.toArray sv) sn) :: ((H', listOf (hv.take d ++ [Value.ref rW.x]).toArray hn') :: (W', listOf (wv.take d ++ [Value.int (r : Int) tr]).toArray wn') :: tl)) → Q .next { s with heap := h', toks := tk' }) :
    wpAny (model PR w) (rdA w.params dp un gd L outer) (exec (nth (rdTurn w.params) 6) (rdEnv w.params L)) Q (fun _ _ => False) s := by
  k_with_none
  w_top off
  k_with "m_enter" => ((case kA => exact rfl); (case kF => exact rfl); (case kK => assumption); (case k1 => k_asm); (case k2 => k_asm); (case k3 => k_asm); (case k5 => k_asm); (case k6 => k_is); (case k7 => k_is); (case k8 => walk_at "lt_room"); (case k9 => exact BindsTo.of_eq rfl); (case c5 => decide); (case kB => exact locs rfl); (case c2 => exact rfl); (case c3 => exact rfl); (case c4 => exact rfl); k_whole; intro g' L' h' F' N' B' X' T'; (try dsimp only [List.reverse, List.reverseAux, List.length]))
  k_with "m_pure" => ((case k1 => k_asm); (case k2 => k_asm); (case k3 => k_asm); (case k4 => k_asm); (case kK => first | exact rfl | assumption); (case kd => walk_at "lt_room"); (case ku => walk_at "lt_units"))
  k_with "m_useI" => (walk_at "m_pure"; (case k5 => k_asm); intro t9 h9 tk9 F9 N9; (try dsimp only); (try k_sweep))
  k_with "m_same" => (intro z h2 h3; (try simp only [List.forall_mem_cons, List.not_mem_nil, false_implies, implies_true, and_true, ne_eq, List.contains_cons, List.contains_nil, Bool.or_false, Bool.or_eq_false_iff, beq_eq_false_iff_ne] at h2 h3); simp [kstB, h2, h3])
  k_with "m_useB" => (walk_at "m_pure"; (case k5 => k_asm); intro h9 tk9 F9 N9; (try dsimp only); (try k_sweep))
  k_with "l_idx" => (k_dflt (k_extra "m_idx"))
  k_with "g9" => (k_here; (with_reducible show wpAny _ _ (subscriptTail _ _ (Value.ref _) (Value.int _ _)) _ _ _))
  k_with "a9" => ((case k1 => is_list); (case k3 => omega); (case k5 => omega); (case k6 => with_unfolding_all rfl); k_whole)
  k_with "m_sameN" => (intro z h1 h2 h3; (try simp only [List.forall_mem_cons, List.not_mem_nil, false_implies, implies_true, and_true, ne_eq, List.contains_cons, List.contains_nil, Bool.or_false, Bool.or_eq_false_iff, beq_eq_false_iff_ne] at h2 h3); first | rfl | ((show (if z = _ then _ else _) = _); rw [if_neg h1]; rfl) | (simp [kstB, h1, h2, h3]; done))
  k_with "mul_fits" => (k_extra "m_mul")
  k_with "InvEndN" => (refine stop_ ?_)
  k_with "KswEnd" => (refine stop_ ?_)
  k_with "m_new" => (first | exact List.forall_mem_nil _ | (refine List.forall_mem_cons.mpr ⟨⟨by k_mem, by k_all⟩, ?_⟩; walk_at "m_new"))
  k_with "exec For Name Name cons nil" => (k_here; with_unfolding_all refine wpAny_For ?_)
  k_with "exec For Name Call cons nil" => (k_here; with_unfolding_all refine wpAny_For ?_)
  k_with "exec For Tuple Name cons nil" => (k_here; with_unfolding_all refine wpAny_For ?_)
  k_with "exec For Tuple Call cons nil" => (k_here; with_unfolding_all refine wpAny_For ?_)
  k_with "pyIter ref" => (k_dflt (k_extra "m_iter"))
  k_with "pyIter str" => (k_dflt (k_extra "m_siter"))
  k_with "XEnd" => (dsimp only [XEnd])
  k_with "XEndN" => (refine stop_ ?_)
  k_with "k_all" => (first | (with_reducible assumption) | (refine List.forall_mem_append.mpr ⟨?_, ?_⟩ <;> k_all) | fail "m_all")
  k_with "k_room" => (walk_at "lt_room")
  k_with "k_room" => (walk_at "lt_room")
  k_with "k_units" => (walk_at "lt_units")
  k_with "size_fits" => ((simp only [List.size_toArray, Array.size_push, PySem.sizeLine_eq]); omega)
  k_with "g25" => (k_here)
  k_with "a25" => ((case k1 => k_asm); (case k2 => k_asm); (case k3 => k_inst); (case k4 => k_is); (case k5 => k_is); (case k6 => k_is); (case k7 => k_is); (case k8 => k_get); k_whole)
  k_with "m_perm" => (first | exact List.forall_mem_nil _ | (refine List.forall_mem_cons.mpr ⟨?_, ?_⟩; (focus (k_mem; done)); (focus (walk_at "m_perm"; done))) | (refine List.forall_mem_append.mpr ⟨?_, ?_⟩; (focus (walk_at "m_perm"; done)); (focus (walk_at "m_perm"; done))) | (intro q hq; (repeat first | exact hq | exact List.mem_append_left _ hq | exact List.mem_append_right _ hq | exact List.mem_append_left _ (List.mem_append_left _ hq) | exact List.mem_append_left _ (List.mem_append_right _ hq) | refine List.Mem.tail _ ?_); done) | (trace "heavy m_perm"; intro q hq; simp only [List.mem_cons, List.mem_append, List.not_mem_nil, or_false] at hq ⊢; (repeat' (refine Or.elim hq ?_ ?_ <;> (clear hq; intro hq))) <;> simp [hq]))
  k_with "k_mem" => ((repeat (first | with_reducible assumption | with_reducible exact List.mem_cons_self | with_reducible refine List.mem_cons_of_mem _ ?_ | with_reducible refine List.mem_append_left _ ?_)); done)
  k_with "g37" => skip
  k_with "a37" => ((case N => k_asm); (case h1 => k_mem); (case h2 => k_extra "m_dx"))
  k_with "k_all" => (first | (with_reducible assumption) | (with_reducible refine List.forall_mem_append.mpr ⟨?_, ?_⟩ <;> k_all) | fail "m_all")
  k_with "k_room" => (walk_at "lt_room")
  k_with "loadName" => (k_here; (rename Fr _ _ _ _ => lF9); k_dflt (refine ldX lF9 (by rfl) ?_))
  k_with "k_room" => (walk_at "lt_room")
  k_with "k_units" => (walk_at "lt_units")
  k_with "size_fits" => ((simp only [List.size_toArray, Array.size_push, PySem.sizeLine_eq]); omega)
  k_with "g41" => (k_here; (with_reducible show wpAny _ _ (subscriptTail _ _ (Value.ref _) (Value.ref _)) _ _ _))
  k_with "a41" => ((case k1 => k_asm); (case k2 => k_asm); (case k4 => k_mem); (case kB => omega); (case kC => with_unfolding_all rfl); (case kD => (intro _; with_unfolding_all rfl)))
  k_with "b41" => (k_extra "m_slice")
  k_with "g42" => (k_here; (with_reducible show wpAny _ _ (subscriptTail _ _ (Value.ref _) (Value.ref _)) _ _ _))
  k_with "a42" => ((case k1 => k_asm); (case k2 => k_asm); (case k4 => k_mem); (case kB => omega); (case kC => with_unfolding_all rfl); (case kD => (intro _; with_unfolding_all rfl)))
  k_with "b42" => (k_extra "m_slice")
  k_with "g44" => (k_here; (with_reducible show wpAny _ _ (binaryOp _ (Value.ref _) (Value.ref _)) _ _ _))
  k_with "a44" => ((case F => k_asm); (case N => k_asm); (case a => k_mem); (case b => k_mem); (case z => (simp only [List.length_take, List.length_cons, List.length_nil]; omega)))
  k_with "b44" => (k_extra "m_slice")
  k_with "lt_room" => (first | with_unfolding_all exact room2 (j := 0) hdp rfl rfl | with_unfolding_all exact room0 (j := 0) hdp rfl rfl | with_unfolding_all exact room2 (j := 1) hdp rfl rfl | with_unfolding_all exact room0 (j := 1) hdp rfl rfl | with_unfolding_all exact room2 (j := 2) hdp rfl rfl | with_unfolding_all exact room0 (j := 2) hdp rfl rfl | with_unfolding_all exact room2 (j := 3) hdp rfl rfl | with_unfolding_all exact room0 (j := 3) hdp rfl rfl | with_unfolding_all exact room2 (j := 4) hdp rfl rfl | with_unfolding_all exact room0 (j := 4) hdp rfl rfl | with_unfolding_all exact room2 (j := 5) hdp rfl rfl | with_unfolding_all exact room0 (j := 5) hdp rfl rfl | with_unfolding_all exact room2 (j := 6) hdp rfl rfl | with_unfolding_all exact room0 (j := 6) hdp rfl rfl | with_unfolding_all exact room2 (j := 7) hdp rfl rfl | with_unfolding_all exact room0 (j := 7) hdp rfl rfl | (trace "heavy"; ktr_room))
  k_with "lt_units" => (first | with_unfolding_all exact room2 (j := 0) hun rfl rfl | with_unfolding_all exact room0 (j := 0) hun rfl rfl | with_unfolding_all exact room2 (j := 1) hun rfl rfl | with_unfolding_all exact room0 (j := 1) hun rfl rfl | with_unfolding_all exact room2 (j := 2) hun rfl rfl | with_unfolding_all exact room0 (j := 2) hun rfl rfl | with_unfolding_all exact room2 (j := 3) hun rfl rfl | with_unfolding_all exact room0 (j := 3) hun rfl rfl | with_unfolding_all exact room2 (j := 4) hun rfl rfl | with_unfolding_all exact room0 (j := 4) hun rfl rfl | with_unfolding_all exact room2 (j := 5) hun rfl rfl | with_unfolding_all exact room0 (j := 5) hun rfl rfl | with_unfolding_all exact room2 (j := 6) hun rfl rfl | with_unfolding_all exact room0 (j := 6) hun rfl rfl | with_unfolding_all exact room2 (j := 7) hun rfl rfl | with_unfolding_all exact room0 (j := 7) hun rfl rfl | (trace "heavy"; ktr_units))
  have kMark : KstMark := kstMark
  refine toks_ ?_
  conv in nth _ _ => whnf
  unfold rdA rdEnv
  generalize hsc : (fdAt w.params 230).scope = sc
  conv at hsc => lhs; whnf
  subst hsc
  dsimp only [kstB] at F
  k_with "m_slice" => (intro sD sh sF sN sl; (try dsimp only); (have slX : ∀ q ∈ ((x, subO 143 dx its pn) :: (K, listOf (List.toArray kv) kn) :: (S, listOf (List.toArray sv) sn) :: tl), q.1 < sD := fun q hq => sl q (by first | exact hq | exact .tail _ hq | exact .tail _ (.tail _ hq) | exact .tail _ (.tail _ (.tail _ hq)) | exact .tail _ (.tail _ (.tail _ (.tail _ hq))) | exact .tail _ (.tail _ (.tail _ (.tail _ (.tail _ hq)))))))
  k_steps
  refine Stop.mk fun hle => ?_
  refine' k _ _ _ ?H' ?W' 0 0 hle ?hq (fr_names ?ha ?hF) (kst_newsOf ?hN ?hS)
  case hF => assumption
  case ha => kst_all
  case hN => assumption
  case hS => walk_at "m_perm"
  case hq => exact fun q hq => ⟨(by assumption : ∀ q ∈ ((x, subO 143 dx its pn) :: (K, listOf (List.toArray kv) kn) :: (S, listOf (List.toArray sv) sn) :: tl), q.1 < _) q hq, (by assumption : ∀ q ∈ ((x, subO 143 dx its pn) :: (K, listOf (List.toArray kv) kn) :: (S, listOf (List.toArray sv) sn) :: tl), q.1 < _) q hq⟩
end
set_option maxRecDepth 100000
set_option maxHeartbeats 8000000
local macro_rules | `(tactic| walk_at "call ref") => `(tactic| (k_extra "g45"; k_dflt (refine' out_useT (pop0_p ?ne1 ?hdx ?k1 ?k2 ?k3 ?k4 ?kK ?kd ?ku ?e ?kN) ?_; k_extra "a45"); k_extra "b45"))
local macro_rules | `(tactic| walk_at "call ref") => `(tactic| (k_extra "g46"; k_dflt (refine' out_useT (pop1_p ?ne1 ?hdx ?k1 ?k2 ?k3 ?k4 ?kK ?kd ?ku ?v ?e ?kN) ?_; k_extra "a46"); k_extra "b46"))
local macro_rules | `(tactic| walk_at "call ref") => `(tactic| (k_extra "g47"; k_dflt (refine' out_useT (push_p ?ne1 ?hdx ?k1 ?k2 ?k3 ?k4 ?kK ?kd ?ku ?e ?kN) ?_; k_extra "a47"); k_extra "b47"))
section
variable {w : World} {p : Program} {loose : List Str} {mean : ExcName → Option Value} {mg mb : Str → Option Value} {dp un : Nat} {gd : Option (List Code)} {outer : List Env} {A₀ : Around} {base g : Heap} {L : Addr} {s : Shared} {Q : Flow → Shared → Prop} {u : Str → Option Value}
variable {x dx K S H W : Addr} {its : Array Value} {pn xc : Nat} {xt1 xt2 : Tok} {kv sv : List Value} {kn sn : Nat} {r : Nat} {tr : Tok} {tl : List (Addr × Obj)}
theorem st_tail0 {rW : WsR} {d : Nat} {td : Tok} {O : Addr} {hooks : List Int} {oC : Obj} (hC0 : (L + 1, oC) ∈ tl) {LA : Addr} (dC : oC.data = .cell (some (.ref LA))) {lv : List Value} {leads : List Str} (hB : g.IsList LA lv.toArray) (hi : StrsAre lv leads) (hn : leads.length = 8) (hr8 : r < 8) (ox : ∀ q ∈ tl, q.1 ≠ x) (oK : ∀ q ∈ tl, q.1 ≠ K) (oS : ∀ q ∈ tl, q.1 ≠ S) (nxK : @Ne Nat x K) (nxS : @Ne Nat x S) (nKS : @Ne Nat K S) (hdx : (dx, dictOf [entS w "_initial_size" xt1 (.int 2 xt2)] xc) ∈ tl) (hz : its.size = 0) (hr0 : r = 0) (hpos : 0 < s.toks) (iK : IntsAre kv hooks) (hk8 : hooks.length ≤ 8) (B : Below A₀ base outer g) (X : (hd.heap_1 w.params).In g) (TP : Top p loose mean mg mb g) (hdp : dp + 18 < recursionLimit) (hun : un + 280 < cLine) (F : Fr g L s.heap (kstB u [(Str.ofString "pile", .ref x), (Str.ofString "hooks", .ref K), (Str.ofString "lasts", .ref S), (Str.ofString "held", .ref H), (Str.ofString "way", .ref W), (Str.ofString "r", .int (r : Int) tr), (Str.ofString "new", .ref rW.x), (Str.ofString "depth", .int (d : Int) td), (Str.ofString "off", .ref O)])) (N : News g L s.heap ((x, subO 143 dx its pn) :: (K, listOf (List.toArray kv) kn) :: (S, listOf (List.toArray sv) sn) :: tl))
    (k : ∀ u' h' tk' D tx u2 kv' kn' pn' xr, s.toks ≤ tk' → leads[r]? = some xr → (∀ q ∈ ((x, subO 143 dx its pn) :: (K, listOf (List.toArray kv) kn) :: (S, listOf (List.toArray sv) sn) :: tl), q.1 < D) → 0 < u2 → u2 < tk' → IntsAre kv' (hooks ++ [0]) → Fr g L h' (kstB u' [(Str.ofString "pile", .ref x), (Str.ofString "hooks", .ref K), (Str.ofString "lasts", .ref S), (Str.ofString "held", .ref H), (Str.ofString "way", .ref W)]) → News g L h' ((x, subO 143 dx (its.push (.ref D)) pn') :: (K, listOf (List.toArray kv') kn') :: (S, listOf (List.toArray sv) sn) :: ((D, tupO [.str xr tx, .str ⟨#[97 + r]⟩ u2]) :: tl)) → Q .next { s with heap := h', toks := tk' }) :
    wpAny (model PR w) (rdA w.params dp un gd L outer) (execs ((rdTurn w.params).drop 7) (rdEnv w.params L)) Q (fun _ _ => False) s := by
  k_with_none
  w_top off
  k_with "m_enter" => ((case kA => exact rfl); (case kF => exact rfl); (case kK => assumption); (case k1 => k_asm); (case k2 => k_asm); (case k3 => k_asm); (case k5 => k_asm); (case k6 => k_is); (case k7 => k_is); (case k8 => walk_at "lt_room"); (case k9 => exact BindsTo.of_eq rfl); (case c5 => decide); (case kB => exact locs rfl); (case c2 => exact rfl); (case c3 => exact rfl); (case c4 => exact rfl); k_whole; intro g' L' h' F' N' B' X' T'; (try dsimp only [List.reverse, List.reverseAux, List.length]))
  k_with "m_pure" => ((case k1 => k_asm); (case k2 => k_asm); (case k3 => k_asm); (case k4 => k_asm); (case kK => first | exact rfl | assumption); (case kd => walk_at "lt_room"); (case ku => walk_at "lt_units"))
  k_with "m_useI" => (walk_at "m_pure"; (case k5 => k_asm); intro t9 h9 tk9 F9 N9; (try dsimp only); (try k_sweep))
  k_with "m_same" => (intro z h2 h3; (try simp only [List.forall_mem_cons, List.not_mem_nil, false_implies, implies_true, and_true, ne_eq, List.contains_cons, List.contains_nil, Bool.or_false, Bool.or_eq_false_iff, beq_eq_false_iff_ne] at h2 h3); simp [kstB, h2, h3])
  k_with "m_useB" => (walk_at "m_pure"; (case k5 => k_asm); intro h9 tk9 F9 N9; (try dsimp only); (try k_sweep))
  k_with "l_idx" => (k_dflt (k_extra "m_idx"))
  k_with "g9" => (k_here; (with_reducible show wpAny _ _ (subscriptTail _ _ (Value.ref _) (Value.int _ _)) _ _ _))
  k_with "a9" => ((case k1 => is_list); (case k3 => omega); (case k5 => omega); (case k6 => with_unfolding_all rfl); k_whole)
  k_with "m_sameN" => (intro z h1 h2 h3; (try simp only [List.forall_mem_cons, List.not_mem_nil, false_implies, implies_true, and_true, ne_eq, List.contains_cons, List.contains_nil, Bool.or_false, Bool.or_eq_false_iff, beq_eq_false_iff_ne] at h2 h3); first | rfl | ((show (if z = _ then _ else _) = _); rw [if_neg h1]; rfl) | (simp [kstB, h1, h2, h3]; done))
  k_with "mul_fits" => (k_extra "m_mul")
  k_with "InvEndN" => (refine stop_ ?_)
  k_with "KswEnd" => (refine stop_ ?_)
  k_with "m_new" => (first | exact List.forall_mem_nil _ | (refine List.forall_mem_cons.mpr ⟨⟨by k_mem, by k_all⟩, ?_⟩; walk_at "m_new"))
  k_with "exec For Name Name cons nil" => (k_here; with_unfolding_all refine wpAny_For ?_)
  k_with "exec For Name Call cons nil" => (k_here; with_unfolding_all refine wpAny_For ?_)
  k_with "exec For Tuple Name cons nil" => (k_here; with_unfolding_all refine wpAny_For ?_)
  k_with "exec For Tuple Call cons nil" => (k_here; with_unfolding_all refine wpAny_For ?_)
  k_with "pyIter ref" => (k_dflt (k_extra "m_iter"))
  k_with "pyIter str" => (k_dflt (k_extra "m_siter"))
  k_with "XEnd" => (dsimp only [XEnd])
  k_with "XEndN" => (refine stop_ ?_)
  k_with "k_all" => (first | (with_reducible assumption) | (refine List.forall_mem_append.mpr ⟨?_, ?_⟩ <;> k_all) | fail "m_all")
  k_with "k_room" => (walk_at "lt_room")
  k_with "k_room" => (walk_at "lt_room")
  k_with "k_units" => (walk_at "lt_units")
  k_with "size_fits" => ((simp only [List.size_toArray, Array.size_push, PySem.sizeLine_eq]); omega)
  k_with "g25" => (k_here)
  k_with "a25" => ((case k1 => k_asm); (case k2 => k_asm); (case k3 => k_inst); (case k4 => k_is); (case k5 => k_is); (case k6 => k_is); (case k7 => k_is); (case k8 => k_get); k_whole)
  k_with "m_perm" => (first | exact List.forall_mem_nil _ | (refine List.forall_mem_cons.mpr ⟨?_, ?_⟩; (focus (k_mem; done)); (focus (walk_at "m_perm"; done))) | (refine List.forall_mem_append.mpr ⟨?_, ?_⟩; (focus (walk_at "m_perm"; done)); (focus (walk_at "m_perm"; done))) | (intro q hq; (repeat first | exact hq | exact List.mem_append_left _ hq | exact List.mem_append_right _ hq | exact List.mem_append_left _ (List.mem_append_left _ hq) | exact List.mem_append_left _ (List.mem_append_right _ hq) | refine List.Mem.tail _ ?_); done) | (trace "heavy m_perm"; intro q hq; simp only [List.mem_cons, List.mem_append, List.not_mem_nil, or_false] at hq ⊢; (repeat' (refine Or.elim hq ?_ ?_ <;> (clear hq; intro hq))) <;> simp [hq]))
  k_with "k_mem" => ((repeat (first | with_reducible assumption | with_reducible exact List.mem_cons_self | with_reducible refine List.mem_cons_of_mem _ ?_ | with_reducible refine List.mem_append_left _ ?_)); done)
  k_with "g37" => skip
  k_with "a37" => ((case N => k_asm); (case h1 => k_mem); (case h2 => k_extra "m_dx"))
  k_with "k_all" => (first | (with_reducible assumption) | (with_reducible refine List.forall_mem_append.mpr ⟨?_, ?_⟩ <;> k_all) | fail "m_all")
  k_with "k_room" => (walk_at "lt_room")
  k_with "loadName" => (k_here; (rename Fr _ _ _ _ => lF9); k_dflt (refine ldX lF9 (by rfl) ?_))
  k_with "k_room" => (walk_at "lt_room")
  k_with "k_units" => (walk_at "lt_units")
  k_with "size_fits" => ((simp only [List.size_toArray, Array.size_push, PySem.sizeLine_eq]); omega)
  k_with "g39" => (k_here; (with_reducible show wpAny _ _ (eval (Expr.Name (Str.ofString "leads") _) (envX _ _ _ _ _ _)) _ _ _))
  k_with "a39" => ((case a => rfl); (case b => rfl); (case N => k_asm); (case c => k_extra "m_cellc"); (case m => k_extra "m_cellm"); (case d => k_extra "m_celld"))
  k_with "subscriptTail Name Name ref int" => (k_here; (with_reducible show wpAny _ _ (subscriptTail _ _ (Value.ref _) (Value.int _ _)) _ _ _); k_dflt (k_extra "m_sub"))
  k_with "g45" => (k_here; (with_reducible show wpAny _ _ (call (Value.ref 103) _) _ _ _))
  k_with "a45" => ((case k2 => k_asm); (case kN => k_asm); (case ne1 => k_all); (case hdx => k_extra "m_dx"); (case k1 => k_asm); (case k3 => k_asm); (case k4 => k_asm); (case kK => first | exact rfl | assumption); (case kd => walk_at "lt_room"); (case ku => walk_at "lt_units"); (case e => k_extra "m_pe"))
  k_with "b45" => (k_extra "m_pop0")
  k_with "g46" => (k_here; (with_reducible show wpAny _ _ (call (Value.ref 103) _) _ _ _))
  k_with "a46" => ((case k2 => k_asm); (case kN => k_asm); (case ne1 => k_all); (case hdx => k_extra "m_dx"); (case k1 => k_asm); (case k3 => k_asm); (case k4 => k_asm); (case kK => first | exact rfl | assumption); (case kd => walk_at "lt_room"); (case ku => walk_at "lt_units"); (case e => k_extra "m_pe"))
  k_with "b46" => (k_extra "m_pop1")
  k_with "g47" => (k_here; (with_reducible show wpAny _ _ (call (Value.ref 87) _) _ _ _))
  k_with "a47" => ((case k2 => k_asm); (case kN => k_asm); (case ne1 => k_all); (case hdx => k_extra "m_dx"); (case k1 => k_asm); (case k3 => k_asm); (case k4 => k_asm); (case kK => first | exact rfl | assumption); (case kd => walk_at "lt_room"); (case ku => walk_at "lt_units"); (case e => k_extra "m_qe"))
  k_with "b47" => (k_extra "m_push")
  k_with "g43" => (k_here; (with_reducible show wpAny _ _ (subscriptTail _ _ (Value.str (Str.ofString "abcdefgh") _) (Value.int _ _)) _ _ _))
  k_with "a43" => ((case hk => omega); (case hs => with_unfolding_all rfl); (case ht => (intro _; with_unfolding_all rfl)))
  k_with "call ref" => (k_here; (with_reducible show wpAny _ _ (call (Value.ref 63) _) _ _ _); k_dflt (k_extra "m_index"))
  k_with "execs cons" => (k_here; k_extra "m_toks")
  k_with "TokThen" => (refine tokThen_ ?_; (intro tkN tkL tkE; (try dsimp only at tkE); (try dsimp only)))
  k_with "ite" => (k_here; k_dflt (first | (refine ite_pos (by k_extra "m_cond") ?_) | (refine ite_neg (by k_extra "m_cond") ?_)))
  k_with "lt_room" => (first | with_unfolding_all exact room2 (j := 0) hdp rfl rfl | with_unfolding_all exact room0 (j := 0) hdp rfl rfl | with_unfolding_all exact room2 (j := 1) hdp rfl rfl | with_unfolding_all exact room0 (j := 1) hdp rfl rfl | with_unfolding_all exact room2 (j := 2) hdp rfl rfl | with_unfolding_all exact room0 (j := 2) hdp rfl rfl | with_unfolding_all exact room2 (j := 3) hdp rfl rfl | with_unfolding_all exact room0 (j := 3) hdp rfl rfl | with_unfolding_all exact room2 (j := 4) hdp rfl rfl | with_unfolding_all exact room0 (j := 4) hdp rfl rfl | with_unfolding_all exact room2 (j := 5) hdp rfl rfl | with_unfolding_all exact room0 (j := 5) hdp rfl rfl | with_unfolding_all exact room2 (j := 6) hdp rfl rfl | with_unfolding_all exact room0 (j := 6) hdp rfl rfl | with_unfolding_all exact room2 (j := 7) hdp rfl rfl | with_unfolding_all exact room0 (j := 7) hdp rfl rfl | (trace "heavy"; ktr_room))
  k_with "lt_units" => (first | with_unfolding_all exact room2 (j := 0) hun rfl rfl | with_unfolding_all exact room0 (j := 0) hun rfl rfl | with_unfolding_all exact room2 (j := 1) hun rfl rfl | with_unfolding_all exact room0 (j := 1) hun rfl rfl | with_unfolding_all exact room2 (j := 2) hun rfl rfl | with_unfolding_all exact room0 (j := 2) hun rfl rfl | with_unfolding_all exact room2 (j := 3) hun rfl rfl | with_unfolding_all exact room0 (j := 3) hun rfl rfl | with_unfolding_all exact room2 (j := 4) hun rfl rfl | with_unfolding_all exact room0 (j := 4) hun rfl rfl | with_unfolding_all exact room2 (j := 5) hun rfl rfl | with_unfolding_all exact room0 (j := 5) hun rfl rfl | with_unfolding_all exact room2 (j := 6) hun rfl rfl | with_unfolding_all exact room0 (j := 6) hun rfl rfl | with_unfolding_all exact room2 (j := 7) hun rfl rfl | with_unfolding_all exact room0 (j := 7) hun rfl rfl | (trace "heavy"; ktr_units))
  have kMark : KstMark := kstMark
  refine toksE_ ?_
  generalize hst : (rdTurn w.params).drop 7 = st
  conv at hst => lhs; whnf
  subst hst
  unfold rdA rdEnv
  generalize hsc : (fdAt w.params 230).scope = sc
  conv at hsc => lhs; whnf
  subst hsc
  dsimp only [kstB] at F
  have hr0i : (r : Int) = 0 := by omega
  k_with "m_pe" => (omega)
  k_with "m_qe" => (omega)
  k_with "m_pop0" => (rintro r9 news9 h9 tk9 l9 ⟨pD, pt1, pt2, rfl, pO, rfl⟩ F9 N9; (have pX := fun q hq => pO q hq); (k_lt pO); (replace N9 := news_swap N9); (try dsimp only))
  k_with "m_push" => (rintro r9 news9 h9 tk9 l9 ⟨rfl, qD, qn, qO, rfl⟩ F9 N9; (have qX := fun q hq => qO q hq); (dsimp only at l9); (k_lt qO); (replace N9 := news_swap N9); (try dsimp only))
  k_with "m_cond" => ((try clear k); first | exact decide_eq_true (by omega) | (intro hc9; exact absurd (of_decide_eq_true hc9) (by omega)) | exact beq_iff_eq.mpr (by omega) | (intro hc9; exact absurd (eq_of_beq hc9) (by omega)))
  k_with "m_toks" => (first | (with_reducible refine execs_consT s.toks ?_ ?_; (· k_dflt (exact Nat.le_refl _))) | ((rename s.toks ≤ _ => tkL9); with_reducible refine execs_consT s.toks ?_ ?_; (· k_dflt (exact tkL9))) | ((rename s.toks ≤ _ => tkL9); with_reducible refine execs_consT s.toks ?_ ?_; (· k_dflt (exact Nat.le_trans tkL9 (Nat.le_add_right _ _)))))
  k_with "m_dx" => ((repeat (first | exact hdx | refine List.mem_cons_of_mem _ ?_)); done)
  k_with "m_cellc" => (exact (show _ = some (L + 1) from rfl))
  k_with "m_cellm" => (first | exact List.Mem.tail _ (List.Mem.tail _ (List.Mem.tail _ hC0)) | (repeat (first | exact hC0 | refine List.mem_append_left _ ?_ | refine List.mem_cons_of_mem _ ?_)))
  k_with "m_celld" => (exact dC)
  k_with "m_sub" => ((rename Fr _ _ _ _ => lF9); (refine item_strB (hB.at fun o e => lF9.keep _ o e) hi (by omega) (by (rw [hn]; omega)) (by omega) ?_ (by with_unfolding_all rfl)); intro xr tx xe xm)
  k_steps
  refine Stop.mk fun hle => ?_
  rename News _ _ _ _ => nE
  simp only [List.push_toArray] at nE
  obtain ⟨u2, kv2, eu, ek⟩ := tail_cap nE
  rw [← eu, ← ek] at nE
  refine' k _ _ _ qD tx u2 kv2 (kn + 1) qn xr hle ?xe ?hD ?h0 ?h1 ?hi (fr_names ?ha ?hF) (kst_newsOf nE ?hS)
  case hF => assumption
  case ha => kst_all
  case xe => simpa using xe
  case hi => (rw [ek]; exact ints_snoc iK)
  case h0 => (rw [eu]; exact Nat.succ_pos _)
  case h1 => (rw [eu]; omega)
  case hD =>
    intro q hq
    simp only [List.mem_cons] at hq
    rcases hq with rfl | rfl | rfl | hq
    · exact qO.1
    · exact qO.2.2.1
    · exact qO.2.2.2.1
    · exact kst_ltOf qO.2.2.2.2 q hq
  case hS => walk_at "m_perm"
end
set_option maxRecDepth 100000
set_option maxHeartbeats 8000000
section
variable {w : World} {p : Program} {loose : List Str} {mean : ExcName → Option Value} {mg mb : Str → Option Value} {dp un : Nat} {gd : Option (List Code)} {outer : List Env} {A₀ : Around} {base g : Heap} {L : Addr} {s : Shared} {Q : Flow → Shared → Prop} {u : Str → Option Value}
variable {x dx K S H W : Addr} {its : Array Value} {pn xc : Nat} {xt1 xt2 : Tok} {kv sv : List Value} {kn sn : Nat} {r : Nat} {tr : Tok} {tl : List (Addr × Obj)}
theorem st_tail1 {rW : WsR} {d : Nat} {td : Tok} {O : Addr} {hooks : List Int} {T : Addr} {x0 : Str} {t0 u0 : Tok} {j : Nat} {oC : Obj} (hC0 : (L + 1, oC) ∈ tl) {LA : Addr} (dC : oC.data = .cell (some (.ref LA))) {lv : List Value} {leads : List Str} (hB : g.IsList LA lv.toArray) (hi : StrsAre lv leads) (hn : leads.length = 8) (hr8 : r < 8) (ox : ∀ q ∈ tl, q.1 ≠ x) (oK : ∀ q ∈ tl, q.1 ≠ K) (oS : ∀ q ∈ tl, q.1 ≠ S) (nxK : @Ne Nat x K) (nxS : @Ne Nat x S) (nKS : @Ne Nat K S) (hdx : (dx, dictOf [entS w "_initial_size" xt1 (.int 2 xt2)] xc) ∈ tl) (hz : its.size ≤ 8) (hr1 : 0 < r) (hpos : 0 < s.toks) (iK : IntsAre kv hooks) (hk8 : hooks.length ≤ 8) (mT : (T, tupO [.str x0 t0, .str ⟨#[97 + j]⟩ u0]) ∈ tl) (j8 : j < 8) (ju0 : 0 < u0) (ju1 : u0 < s.toks) (B : Below A₀ base outer g) (X : (hd.heap_1 w.params).In g) (TP : Top p loose mean mg mb g) (hdp : dp + 18 < recursionLimit) (hun : un + 280 < cLine) (F : Fr g L s.heap (kstB u [(Str.ofString "pile", .ref x), (Str.ofString "hooks", .ref K), (Str.ofString "lasts", .ref S), (Str.ofString "held", .ref H), (Str.ofString "way", .ref W), (Str.ofString "r", .int (r : Int) tr), (Str.ofString "new", .ref rW.x), (Str.ofString "depth", .int (d : Int) td), (Str.ofString "off", .ref O)])) (N : News g L s.heap ((x, subO 143 dx (its.push (.ref T)) pn) :: (K, listOf (List.toArray kv) kn) :: (S, listOf (List.toArray sv) sn) :: tl))
    (k : ∀ u' h' tk' D1 D2 tx u2 kv' kn' pn' xr, s.toks ≤ tk' → leads[r]? = some xr → (∀ q ∈ ((x, subO 143 dx (its.push (.ref T)) pn) :: (K, listOf (List.toArray kv) kn) :: (S, listOf (List.toArray sv) sn) :: tl), q.1 < D1 ∧ q.1 < D2) → 0 < u2 → u2 < tk' → IntsAre kv' (hooks ++ [(j : Int)]) → Fr g L h' (kstB u' [(Str.ofString "pile", .ref x), (Str.ofString "hooks", .ref K), (Str.ofString "lasts", .ref S), (Str.ofString "held", .ref H), (Str.ofString "way", .ref W)]) → News g L h' ((x, subO 143 dx ((its.push (.ref D1)).push (.ref D2)) pn') :: (K, listOf (List.toArray kv') kn') :: (S, listOf (List.toArray sv) sn) :: ((D1, tupO [.str x0 t0, .str ⟨#[97 + j]⟩ u0]) :: (D2, tupO [.str xr tx, .str ⟨#[97 + r]⟩ u2]) :: tl)) → Q .next { s with heap := h', toks := tk' }) :
    wpAny (model PR w) (rdA w.params dp un gd L outer) (execs ((rdTurn w.params).drop 7) (rdEnv w.params L)) Q (fun _ _ => False) s := by
  k_with_none
  w_top off
  k_with "m_enter" => ((case kA => exact rfl); (case kF => exact rfl); (case kK => assumption); (case k1 => k_asm); (case k2 => k_asm); (case k3 => k_asm); (case k5 => k_asm); (case k6 => k_is); (case k7 => k_is); (case k8 => walk_at "lt_room"); (case k9 => exact BindsTo.of_eq rfl); (case c5 => decide); (case kB => exact locs rfl); (case c2 => exact rfl); (case c3 => exact rfl); (case c4 => exact rfl); k_whole; intro g' L' h' F' N' B' X' T'; (try dsimp only [List.reverse, List.reverseAux, List.length]))
  k_with "m_pure" => ((case k1 => k_asm); (case k2 => k_asm); (case k3 => k_asm); (case k4 => k_asm); (case kK => first | exact rfl | assumption); (case kd => walk_at "lt_room"); (case ku => walk_at "lt_units"))
  k_with "m_useI" => (walk_at "m_pure"; (case k5 => k_asm); intro t9 h9 tk9 F9 N9; (try dsimp only); (try k_sweep))
  k_with "m_same" => (intro z h2 h3; (try simp only [List.forall_mem_cons, List.not_mem_nil, false_implies, implies_true, and_true, ne_eq, List.contains_cons, List.contains_nil, Bool.or_false, Bool.or_eq_false_iff, beq_eq_false_iff_ne] at h2 h3); simp [kstB, h2, h3])
  k_with "m_useB" => (walk_at "m_pure"; (case k5 => k_asm); intro h9 tk9 F9 N9; (try dsimp only); (try k_sweep))
  k_with "l_idx" => (k_dflt (k_extra "m_idx"))
  k_with "g9" => (k_here; (with_reducible show wpAny _ _ (subscriptTail _ _ (Value.ref _) (Value.int _ _)) _ _ _))
  k_with "a9" => ((case k1 => is_list); (case k3 => omega); (case k5 => omega); (case k6 => with_unfolding_all rfl); k_whole)
  k_with "m_sameN" => (intro z h1 h2 h3; (try simp only [List.forall_mem_cons, List.not_mem_nil, false_implies, implies_true, and_true, ne_eq, List.contains_cons, List.contains_nil, Bool.or_false, Bool.or_eq_false_iff, beq_eq_false_iff_ne] at h2 h3); first | rfl | ((show (if z = _ then _ else _) = _); rw [if_neg h1]; rfl) | (simp [kstB, h1, h2, h3]; done))
  k_with "mul_fits" => (k_extra "m_mul")
  k_with "InvEndN" => (refine stop_ ?_)
  k_with "KswEnd" => (refine stop_ ?_)
  k_with "m_new" => (first | exact List.forall_mem_nil _ | (refine List.forall_mem_cons.mpr ⟨⟨by k_mem, by k_all⟩, ?_⟩; walk_at "m_new"))
  k_with "exec For Name Name cons nil" => (k_here; with_unfolding_all refine wpAny_For ?_)
  k_with "exec For Name Call cons nil" => (k_here; with_unfolding_all refine wpAny_For ?_)
  k_with "exec For Tuple Name cons nil" => (k_here; with_unfolding_all refine wpAny_For ?_)
  k_with "exec For Tuple Call cons nil" => (k_here; with_unfolding_all refine wpAny_For ?_)
  k_with "pyIter ref" => (k_dflt (k_extra "m_iter"))
  k_with "pyIter str" => (k_dflt (k_extra "m_siter"))
  k_with "XEnd" => (dsimp only [XEnd])
  k_with "XEndN" => (refine stop_ ?_)
  k_with "k_all" => (first | (with_reducible assumption) | (refine List.forall_mem_append.mpr ⟨?_, ?_⟩ <;> k_all) | fail "m_all")
  k_with "k_room" => (walk_at "lt_room")
  k_with "k_room" => (walk_at "lt_room")
  k_with "k_units" => (walk_at "lt_units")
  k_with "size_fits" => ((simp only [List.size_toArray, Array.size_push, PySem.sizeLine_eq]); omega)
  k_with "g25" => (k_here)
  k_with "a25" => ((case k1 => k_asm); (case k2 => k_asm); (case k3 => k_inst); (case k4 => k_is); (case k5 => k_is); (case k6 => k_is); (case k7 => k_is); (case k8 => k_get); k_whole)
  k_with "m_perm" => (first | exact List.forall_mem_nil _ | (refine List.forall_mem_cons.mpr ⟨?_, ?_⟩; (focus (k_mem; done)); (focus (walk_at "m_perm"; done))) | (refine List.forall_mem_append.mpr ⟨?_, ?_⟩; (focus (walk_at "m_perm"; done)); (focus (walk_at "m_perm"; done))) | (intro q hq; (repeat first | exact hq | exact List.mem_append_left _ hq | exact List.mem_append_right _ hq | exact List.mem_append_left _ (List.mem_append_left _ hq) | exact List.mem_append_left _ (List.mem_append_right _ hq) | refine List.Mem.tail _ ?_); done) | (trace "heavy m_perm"; intro q hq; simp only [List.mem_cons, List.mem_append, List.not_mem_nil, or_false] at hq ⊢; (repeat' (refine Or.elim hq ?_ ?_ <;> (clear hq; intro hq))) <;> simp [hq]))
  k_with "k_mem" => ((repeat (first | with_reducible assumption | with_reducible exact List.mem_cons_self | with_reducible refine List.mem_cons_of_mem _ ?_ | with_reducible refine List.mem_append_left _ ?_)); done)
  k_with "g37" => skip
  k_with "a37" => ((case N => k_asm); (case h1 => k_mem); (case h2 => k_extra "m_dx"))
  k_with "k_all" => (first | (with_reducible assumption) | (with_reducible refine List.forall_mem_append.mpr ⟨?_, ?_⟩ <;> k_all) | fail "m_all")
  k_with "k_room" => (walk_at "lt_room")
  k_with "loadName" => (k_here; (rename Fr _ _ _ _ => lF9); k_dflt (refine ldX lF9 (by rfl) ?_))
  k_with "k_room" => (walk_at "lt_room")
  k_with "k_units" => (walk_at "lt_units")
  k_with "size_fits" => ((simp only [List.size_toArray, Array.size_push, PySem.sizeLine_eq]); omega)
  k_with "g39" => (k_here; (with_reducible show wpAny _ _ (eval (Expr.Name (Str.ofString "leads") _) (envX _ _ _ _ _ _)) _ _ _))
  k_with "a39" => ((case a => rfl); (case b => rfl); (case N => k_asm); (case c => k_extra "m_cellc"); (case m => k_extra "m_cellm"); (case d => k_extra "m_celld"))
  k_with "subscriptTail Name Name ref int" => (k_here; (with_reducible show wpAny _ _ (subscriptTail _ _ (Value.ref _) (Value.int _ _)) _ _ _); k_dflt (k_extra "m_sub"))
  k_with "g45" => (k_here; (with_reducible show wpAny _ _ (call (Value.ref 103) _) _ _ _))
  k_with "a45" => ((case k2 => k_asm); (case kN => k_asm); (case ne1 => k_all); (case hdx => k_extra "m_dx"); (case k1 => k_asm); (case k3 => k_asm); (case k4 => k_asm); (case kK => first | exact rfl | assumption); (case kd => walk_at "lt_room"); (case ku => walk_at "lt_units"); (case e => k_extra "m_pe"))
  k_with "b45" => (k_extra "m_pop0")
  k_with "g46" => (k_here; (with_reducible show wpAny _ _ (call (Value.ref 103) _) _ _ _))
  k_with "a46" => ((case k2 => k_asm); (case kN => k_asm); (case ne1 => k_all); (case hdx => k_extra "m_dx"); (case k1 => k_asm); (case k3 => k_asm); (case k4 => k_asm); (case kK => first | exact rfl | assumption); (case kd => walk_at "lt_room"); (case ku => walk_at "lt_units"); (case e => k_extra "m_pe"))
  k_with "b46" => (k_extra "m_pop1")
  k_with "g47" => (k_here; (with_reducible show wpAny _ _ (call (Value.ref 87) _) _ _ _))
  k_with "a47" => ((case k2 => k_asm); (case kN => k_asm); (case ne1 => k_all); (case hdx => k_extra "m_dx"); (case k1 => k_asm); (case k3 => k_asm); (case k4 => k_asm); (case kK => first | exact rfl | assumption); (case kd => walk_at "lt_room"); (case ku => walk_at "lt_units"); (case e => k_extra "m_qe"))
  k_with "b47" => (k_extra "m_push")
  k_with "g43" => (k_here; (with_reducible show wpAny _ _ (subscriptTail _ _ (Value.str (Str.ofString "abcdefgh") _) (Value.int _ _)) _ _ _))
  k_with "a43" => ((case hk => omega); (case hs => with_unfolding_all rfl); (case ht => (intro _; with_unfolding_all rfl)))
  k_with "call ref" => (k_here; (with_reducible show wpAny _ _ (call (Value.ref 63) _) _ _ _); k_dflt (k_extra "m_index"))
  k_with "execs cons" => (k_here; k_extra "m_toks")
  k_with "TokThen" => (refine tokThen_ ?_; (intro tkN tkL tkE; (try dsimp only at tkE); (try dsimp only)))
  k_with "ite" => (k_here; k_dflt (first | (refine ite_pos (by k_extra "m_cond") ?_) | (refine ite_neg (by k_extra "m_cond") ?_)))
  k_with "lt_room" => (first | with_unfolding_all exact room2 (j := 0) hdp rfl rfl | with_unfolding_all exact room0 (j := 0) hdp rfl rfl | with_unfolding_all exact room2 (j := 1) hdp rfl rfl | with_unfolding_all exact room0 (j := 1) hdp rfl rfl | with_unfolding_all exact room2 (j := 2) hdp rfl rfl | with_unfolding_all exact room0 (j := 2) hdp rfl rfl | with_unfolding_all exact room2 (j := 3) hdp rfl rfl | with_unfolding_all exact room0 (j := 3) hdp rfl rfl | with_unfolding_all exact room2 (j := 4) hdp rfl rfl | with_unfolding_all exact room0 (j := 4) hdp rfl rfl | with_unfolding_all exact room2 (j := 5) hdp rfl rfl | with_unfolding_all exact room0 (j := 5) hdp rfl rfl | with_unfolding_all exact room2 (j := 6) hdp rfl rfl | with_unfolding_all exact room0 (j := 6) hdp rfl rfl | with_unfolding_all exact room2 (j := 7) hdp rfl rfl | with_unfolding_all exact room0 (j := 7) hdp rfl rfl | (trace "heavy"; ktr_room))
  k_with "lt_units" => (first | with_unfolding_all exact room2 (j := 0) hun rfl rfl | with_unfolding_all exact room0 (j := 0) hun rfl rfl | with_unfolding_all exact room2 (j := 1) hun rfl rfl | with_unfolding_all exact room0 (j := 1) hun rfl rfl | with_unfolding_all exact room2 (j := 2) hun rfl rfl | with_unfolding_all exact room0 (j := 2) hun rfl rfl | with_unfolding_all exact room2 (j := 3) hun rfl rfl | with_unfolding_all exact room0 (j := 3) hun rfl rfl | with_unfolding_all exact room2 (j := 4) hun rfl rfl | with_unfolding_all exact room0 (j := 4) hun rfl rfl | with_unfolding_all exact room2 (j := 5) hun rfl rfl | with_unfolding_all exact room0 (j := 5) hun rfl rfl | with_unfolding_all exact room2 (j := 6) hun rfl rfl | with_unfolding_all exact room0 (j := 6) hun rfl rfl | with_unfolding_all exact room2 (j := 7) hun rfl rfl | with_unfolding_all exact room0 (j := 7) hun rfl rfl | (trace "heavy"; ktr_units))
  have kMark : KstMark := kstMark
  refine toksE_ ?_
  generalize hst : (rdTurn w.params).drop 7 = st
  conv at hst => lhs; whnf
  subst hst
  unfold rdA rdEnv
  generalize hsc : (fdAt w.params 230).scope = sc
  conv at hsc => lhs; whnf
  subst hsc
  dsimp only [kstB] at F
  have hr1i : (0 : Int) < (r : Int) := by omega
  k_with "m_pe" => (omega)
  k_with "m_qe" => ((try simp only [Array.size_push]); omega)
  k_with "m_pop1" => (rintro r9 news9 h9 tk9 l9 ⟨rfl, pn9, rfl⟩ F9 N9; (try dsimp only))
  k_with "m_push" => (rintro r9 news9 h9 tk9 l9 ⟨rfl, qD, qn, qO, rfl⟩ F9 N9; (dsimp only at l9); (k_lt qO); (replace N9 := news_swap N9); (try dsimp only))
  k_with "m_tk" => ((rename s.toks ≤ _ => tkL9); exact Nat.lt_of_lt_of_le ju1 (Nat.le_trans tkL9 (by dsimp only; omega)))
  k_with "m_index" => ((rename News _ _ _ _ => lN9); (refine' pure_useIT (index_p j8 ju0 ?w0 ?w1 ?w2 ?w3 ?w4 ?w5 ?w6 ?w7) lN9 ?_); (case w0 => (k_extra "m_tk")); (case w1 => k_asm); (case w2 => k_asm); (case w3 => k_asm); (case w4 => k_asm); (case w5 => first | exact rfl | assumption); (case w6 => walk_at "lt_room"); (case w7 => walk_at "lt_units"); clear lN9; intro t9 h9 tk9 l9 F9 N9; dsimp only)
  k_with "m_cond" => ((try clear k); first | exact decide_eq_true (by omega) | (intro hc9; exact absurd (of_decide_eq_true hc9) (by omega)) | exact beq_iff_eq.mpr (by omega) | (intro hc9; exact absurd (eq_of_beq hc9) (by omega)))
  k_with "m_toks" => (first | (with_reducible refine execs_consT s.toks ?_ ?_; (· k_dflt (exact Nat.le_refl _))) | ((rename s.toks ≤ _ => tkL9); with_reducible refine execs_consT s.toks ?_ ?_; (· k_dflt (exact tkL9))) | ((rename s.toks ≤ _ => tkL9); with_reducible refine execs_consT s.toks ?_ ?_; (· k_dflt (exact Nat.le_trans tkL9 (Nat.le_add_right _ _)))))
  k_with "m_dx" => ((repeat (first | exact hdx | refine List.mem_cons_of_mem _ ?_)); done)
  k_with "m_cellc" => (exact (show _ = some (L + 1) from rfl))
  k_with "m_cellm" => (first | exact List.Mem.tail _ (List.Mem.tail _ (List.Mem.tail _ hC0)) | (repeat (first | exact hC0 | refine List.mem_append_left _ ?_ | refine List.mem_cons_of_mem _ ?_)))
  k_with "m_celld" => (exact dC)
  k_with "m_sub" => ((rename Fr _ _ _ _ => lF9); (refine item_strB (hB.at fun o e => lF9.keep _ o e) hi (by omega) (by (rw [hn]; omega)) (by omega) ?_ (by with_unfolding_all rfl)); intro xr tx xe xm)
  k_steps
  refine Stop.mk fun hle => ?_
  rename News _ _ _ _ => nE
  simp only [List.push_toArray] at nE
  obtain ⟨D1, u2, kv2, e1, eu, ek⟩ := tail_cap2 nE
  subst e1
  rw [← eu, ← ek] at nE
  have qO1 : x < D1 ∧ K < D1 ∧ S < D1 ∧ AllLt D1 tl := by assumption
  refine' k _ _ _ D1 qD tx u2 kv2 (kn + 1) qn xr hle ?xe ?hD ?h0 ?h1 ?hi (fr_names ?ha ?hF) (kst_newsOf nE ?hS)
  case hF => assumption
  case ha => kst_all
  case xe => simpa using xe
  case hi => (rw [ek]; exact ints_snoc iK)
  case h0 => (rw [eu]; exact Nat.succ_pos _)
  case h1 => (rw [eu]; omega)
  case hD =>
    intro q hq
    simp only [List.mem_cons] at hq
    rcases hq with rfl | rfl | rfl | hq
    · exact ⟨qO1.1, qO.1⟩
    · exact ⟨qO1.2.1, qO.2.2.1⟩
    · exact ⟨qO1.2.2.1, qO.2.2.2.1⟩
    · exact ⟨kst_ltOf qO1.2.2.2 q hq, kst_ltOf qO.2.2.2.2 q hq⟩
  case hS => walk_at "m_perm"
end
set_option maxRecDepth 100000
set_option maxHeartbeats 1000000
theorem facts_end {w : World} {leads : List Str} {x K S : Addr} {fix : List (Addr × Obj)} {c : RdS} {i d : Nat} {rW : WsR} {xr : Str} {tr : Tok} {tl' : List (Addr × Obj)} {its' : Array Value} {pn' kn' sn' hn' wn' : Nat} {kv' sv' : List Value} {hooks' lasts' : List Int} {H' W' : Addr} {tb' : Nat}
    (fa : RdS.Facts w leads x K S fix c) (hsub : ∀ p ∈ c.tl, p ∈ tl') (ox : ∀ p ∈ tl', p.1 ≠ x) (oK : ∀ p ∈ tl', p.1 ≠ K) (oS : ∀ p ∈ tl', p.1 ≠ S) (mH : (H', listOf (c.hv.take d ++ [Value.ref rW.x]).toArray hn') ∈ tl') (mW : (W', listOf (c.wv.take d ++ [Value.int (i : Int) tr]).toArray wn') ∈ tl')
    (mR : ∀ e ∈ WsL w rW, e ∈ tl') (fW : WsFig rW xr) (hxr : leads[i]? = some xr) (ik : IntsAre kv' hooks') (is : IntsAre sv' lasts') (aP : All2 (PileAt tl' leads tb') its'.toList (c.way.take d ++ [i])) (htb : 0 < tb') :
    RdS.Facts w leads x K S fix ⟨its', pn', kv', kn', hooks', sv', sn', lasts', H', W', c.hv.take d ++ [Value.ref rW.x], c.wv.take d ++ [Value.int (i : Int) tr], hn', wn', c.way.take d ++ [i], tl', tb'⟩ := by
  refine ⟨ox, oK, oS, ik, is, mH, mW, ?_, ?_, aP, fun p hp => hsub p (fa.fx p hp), htb⟩
  · exact ((fa.aH.take d).mono fun v j a => a.mono hsub).snoc ⟨rW, xr, rfl, mR, hxr, fW⟩
  · show IntsAre (c.wv.take d ++ [Value.int (i : Int) tr]) (natI (c.way.take d ++ [i]))
    have := ints_snoc (y := (i : Int)) (t := tr) (natI_take fa.aW d)
    rwa [show natI (c.way.take d ++ [i]) = natI (c.way.take d) ++ [(i : Int)] from List.map_append]
theorem pile_mono {tl tl' : List (Addr × Obj)} {leads : List Str} {tb tb' : Nat} (h : tb ≤ tb') (k : ∀ p ∈ tl, p ∈ tl') {v : Value} {j : Nat} (a : PileAt tl leads tb v j) : PileAt tl' leads tb' v j := by
  obtain ⟨T, t, u, x, h1, h2, h3, h4, h5, h6⟩ := a
  exact ⟨T, t, u, x, h1, k _ h2, h3, h4, h5, Nat.lt_of_lt_of_le h6 h⟩
theorem mem_own3 {α : Type} {a b c : α} {t o n : List α} : ∀ q ∈ a :: b :: c :: (t ++ n), q ∈ a :: b :: c :: (t ++ o ++ n) := fun q h => by
  simp only [List.mem_cons, List.mem_append] at h ⊢
  rcases h with h | h | h | h | h <;> simp [h]
theorem ext_toList (its : Array Value) (d : Nat) : (its.extract 0 d).toList = its.toList.take d := by simp
theorem ext_pop {its : Array Value} {d : Nat} {v : Value} (h0 : 0 < d) (e : its.toList[d - 1]? = some v) : its.extract 0 d = (its.extract 0 (d - 1)).push v := by
  apply Array.toList_inj.mp
  rw [Array.toList_push, ext_toList, ext_toList]
  obtain ⟨k, rfl⟩ : ∃ k, d = k + 1 := ⟨d - 1, by omega⟩
  rw [List.take_add_one, show k + 1 - 1 = k from rfl] at *
  rw [e]; rfl
theorem rdTurn_eq (P : Params) : rdTurn P = nth (rdTurn P) 0 :: nth (rdTurn P) 1 :: nth (rdTurn P) 2 :: nth (rdTurn P) 3 :: nth (rdTurn P) 4 :: nth (rdTurn P) 5 :: nth (rdTurn P) 6 :: (rdTurn P).drop 7 := by
  with_unfolding_all rfl
theorem off_of_lt {l : List (Addr × Obj)} {D : Addr} {own : List (Addr × Obj)} (h : ∀ q ∈ l, q.1 < D) (hs : ∀ q ∈ own, q ∈ l) : ∀ p ∈ own, p.1 ≠ D := fun p hp => Nat.ne_of_lt (h p (hs p hp))
section
variable {w : World} {p : Program} {loose : List Str} {mean : ExcName → Option Value} {mg mb : Str → Option Value} {dp un : Nat} {gd : Option (List Code)} {outer : List Env} {A₀ : Around} {base g : Heap} {L : Addr} {s : Shared} {Q : Flow → Shared → Prop} {u : Str → Option Value}
variable {x dx K S : Addr} {xc : Nat} {xt1 xt2 : Tok} {i : Nat} {tr : Tok}
theorem st_turn {c : RdS} {own fix : List (Addr × Obj)} {oC : Obj} {LA : Addr} (dC : oC.data = .cell (some (.ref LA))) {lv : List Value} {leads : List Str} (hB : g.IsList LA lv.toArray) (hi : StrsAre lv leads) (hn : leads.length = 8) (hi8 : i < 8) (hC : ∀ x ∈ leads, ∀ (i ch : Nat), x.cps[i]? = some ch → ch = 32 ∨ ch = 9) (hA : ∀ x ∈ leads, x.cps.all (· < 128) = true) (hL : ∀ x ∈ leads, x.cps.size ≤ 4) (hok : ∀ x ∈ leads, PyData.strOk x = true) (h0 : ∀ r, 0 < r → r < 8 → lsOf leads 0 r = true) (nxK : @Ne Nat x K) (nxS : @Ne Nat x S) (nKS : @Ne Nat K S)
    (hdx0 : (dx, dictOf [entS w "_initial_size" xt1 (.int 2 xt2)] xc) ∈ fix) (hC00 : (L + 1, oC) ∈ fix) (fa : RdS.Facts w leads x K S fix c) (inv : ReadR (lsOf leads) i c.way c.hooks c.lasts) (htb : c.tb ≤ s.toks) (own1 : ∀ p ∈ own, p.1 ≠ x) (own2 : ∀ p ∈ own, p.1 ≠ K) (own3 : ∀ p ∈ own, p.1 ≠ S) (own4 : ∀ q ∈ c.tl, ∀ p ∈ own, p.1 ≠ q.1) (B : Below A₀ base outer g) (X : (hd.heap_1 w.params).In g) (TP : Top p loose mean mg mb g) (hdp : dp + 18 < recursionLimit) (hun : un + 280 < cLine)
    (F : Fr g L s.heap (kstB u [(Str.ofString "pile", .ref x), (Str.ofString "hooks", .ref K), (Str.ofString "lasts", .ref S), (Str.ofString "held", .ref c.H), (Str.ofString "way", .ref c.W), (Str.ofString "r", .int (i : Int) tr)])) (N : News g L s.heap ((x, subO 143 dx c.its c.pn) :: (K, listOf (List.toArray c.kv) c.kn) :: (S, listOf (List.toArray c.sv) c.sn) :: (c.tl ++ own)))
    (k : ∀ (c' : RdS) u' h' tk' all, s.toks ≤ tk' → RdS.Facts w leads x K S fix c' → ReadR (lsOf leads) (i + 1) c'.way c'.hooks c'.lasts → c'.tb ≤ tk' → Fr g L h' (kstB u' [(Str.ofString "pile", .ref x), (Str.ofString "hooks", .ref K), (Str.ofString "lasts", .ref S), (Str.ofString "held", .ref c'.H), (Str.ofString "way", .ref c'.W)]) → News g L h' all → (∀ q ∈ RdS.Led x dx K S c', q ∈ all) → (∀ q ∈ own, q ∈ all) → (∀ q ∈ RdS.Led x dx K S c', ∀ p ∈ own, p.1 ≠ q.1) → Q .next { s with heap := h', toks := tk' }) :
    wpAny (model PR w) (rdA w.params dp un gd L outer) (execs (rdTurn w.params) (rdEnv w.params L)) Q (fun _ _ => False) s := by
  obtain ⟨fox, foK, foS, fik, fis, fmH, fmW, faH, faW, faP, ffx, ftb⟩ := id fa
  have rb := readB inv h0 (Nat.le_of_lt hi8)
  have hw8 : ∀ j ∈ c.way, j < 8 := fun j hj => Nat.lt_trans (rb.w j hj) hi8
  have hwl : c.way.length ≤ 8 := Nat.le_trans rb.n (Nat.le_of_lt hi8)
  have hsz : c.its.size = c.way.length := by rw [← faP.length]; simp
  have hhv : c.hv.length = c.way.length := faH.length
  have hwv : c.wv.length = c.way.length := by rw [faW.length, List.length_map]
  have hpos : 0 < s.toks := Nat.lt_of_lt_of_le ftb htb
  have ap1 : ∀ {a : Addr}, (∀ p ∈ c.tl, p.1 ≠ a) → (∀ p ∈ own, p.1 ≠ a) → ∀ p ∈ c.tl ++ own, p.1 ≠ a := fun h1 h2 p hp => (List.mem_append.mp hp).elim (h1 p) (h2 p)
  rw [rdTurn_eq]
  refine wpAny_execs_cons (st_new (ap1 fox own1) (ap1 foK own2) (ap1 foS own3) nxK nxS nKS (List.mem_append_left _ (ffx _ hC00)) dC hB hi hn hi8 hC hA hL B X TP hdp hun F N ?_)
  intro rW xr nw u1 h1 tk1 l1 hxr fW mW oW F1 N1
  -- the ledger behind the new row: t1
  have t1x : ∀ q ∈ c.tl ++ own ++ nw, q.1 ≠ x := fun q hq => (List.mem_append.mp hq).elim (ap1 fox own1 q) fun h => oW q h _ (.head _)
  have t1K : ∀ q ∈ c.tl ++ own ++ nw, q.1 ≠ K := fun q hq => (List.mem_append.mp hq).elim (ap1 foK own2 q) fun h => oW q h _ (.tail _ (.head _))
  have t1S : ∀ q ∈ c.tl ++ own ++ nw, q.1 ≠ S := fun q hq => (List.mem_append.mp hq).elim (ap1 foS own3 q) fun h => oW q h _ (.tail _ (.tail _ (.head _)))
  have s1 : ∀ q ∈ c.tl, q ∈ c.tl ++ own ++ nw := fun q hq => List.mem_append_left _ (List.mem_append_left _ hq)
  have hdx1 := s1 _ (ffx _ hdx0)
  refine wpAny_execs_cons (st_depth t1x t1K t1S nxK nxS nKS hdx1 B X TP hdp hun F1 N1 ?_)
  intro td u2 h2 tk2 l2 F2 N2
  rw [hsz] at F2
  refine wpAny_execs_cons (st_while (s1 _ fmH) (faH.mono fun v j a => a.mono s1) fW (fun e he => List.mem_append_right _ (mW e he)) hxr hL hwl B X TP hdp hun F2 N2 ?_)
  intro d td' u3 h3 tk3 l3 hD F3 N3
  have hdl : d ≤ c.way.length := hD.le
  refine wpAny_execs_cons (st_off (by omega) (by omega) t1x t1K t1S nxK nxS nKS hdx1 B X TP hdp hun F3 N3 ?_)
  intro O pn4 u4 h4 tk4 l4 oO F4 N4
  have t2x : ∀ q ∈ (O, listOf (c.its.toList.drop d).toArray 0) :: (c.tl ++ own ++ nw), q.1 ≠ x := List.forall_mem_cons.mpr ⟨Nat.ne_of_gt (oO _ (.head _)), t1x⟩
  have t2K : ∀ q ∈ (O, listOf (c.its.toList.drop d).toArray 0) :: (c.tl ++ own ++ nw), q.1 ≠ K := List.forall_mem_cons.mpr ⟨Nat.ne_of_gt (oO _ (.tail _ (.head _))), t1K⟩
  have t2S : ∀ q ∈ (O, listOf (c.its.toList.drop d).toArray 0) :: (c.tl ++ own ++ nw), q.1 ≠ S := List.forall_mem_cons.mpr ⟨Nat.ne_of_gt (oO _ (.tail _ (.tail _ (.head _)))), t1S⟩
  have s2 : ∀ q ∈ c.tl, q ∈ (O, listOf (c.its.toList.drop d).toArray 0) :: (c.tl ++ own ++ nw) := fun q hq => .tail _ (s1 q hq)
  refine wpAny_execs_cons (st_cmp (s2 _ (ffx _ hC00)) dC hB hi hn (.head _) (s2 _ fmW) faW ((faP.drop d).mono fun v j a => (pile_mono (Nat.le_refl _) s2 a).row) hw8 hwl hdl hok B X TP hdp hun F4 N4 ?_)
  intro u5 h5 tk5 l5 F5 N5
  refine wpAny_execs_cons (st_lasts t2x t2K t2S nxK nxS nKS (.head _) ((faP.drop d).mono fun v j a => pile_mono (Nat.le_refl _) s2 a) fis rb.l (Nat.le_trans htb (Nat.le_trans l1 (Nat.le_trans l2 (Nat.le_trans l3 (Nat.le_trans l4 l5))))) hi8 B X TP hdp hun F5 N5 ?_)
  intro u6 h6 tk6 sv6 sn6 l6 iS6 F6 N6
  refine wpAny_execs_cons (st_held t2x t2K t2S nxK nxS nKS (s2 _ fmH) (s2 _ fmW) (by omega) (by omega) B X TP hdp hun F6 N6 ?_)
  intro u7 h7 tk7 H' W' hn7 wn7 l7 oHW F7 N7
  -- all that is new in this turn
  have hs7 : s.toks ≤ tk7 := Nat.le_trans l1 (Nat.le_trans l2 (Nat.le_trans l3 (Nat.le_trans l4 (Nat.le_trans l5 (Nat.le_trans l6 l7)))))
  have t3x : ∀ q ∈ (H', listOf (c.hv.take d ++ [Value.ref rW.x]).toArray hn7) :: (W', listOf (c.wv.take d ++ [Value.int (i : Int) tr]).toArray wn7) :: (O, listOf (c.its.toList.drop d).toArray 0) :: (c.tl ++ own ++ nw), q.1 ≠ x := List.forall_mem_cons.mpr ⟨Nat.ne_of_gt (oHW _ (.head _)).1, List.forall_mem_cons.mpr ⟨Nat.ne_of_gt (oHW _ (.head _)).2, t2x⟩⟩
  have t3K : ∀ q ∈ (H', listOf (c.hv.take d ++ [Value.ref rW.x]).toArray hn7) :: (W', listOf (c.wv.take d ++ [Value.int (i : Int) tr]).toArray wn7) :: (O, listOf (c.its.toList.drop d).toArray 0) :: (c.tl ++ own ++ nw), q.1 ≠ K := List.forall_mem_cons.mpr ⟨Nat.ne_of_gt (oHW _ (.tail _ (.head _))).1, List.forall_mem_cons.mpr ⟨Nat.ne_of_gt (oHW _ (.tail _ (.head _))).2, t2K⟩⟩
  have t3S : ∀ q ∈ (H', listOf (c.hv.take d ++ [Value.ref rW.x]).toArray hn7) :: (W', listOf (c.wv.take d ++ [Value.int (i : Int) tr]).toArray wn7) :: (O, listOf (c.its.toList.drop d).toArray 0) :: (c.tl ++ own ++ nw), q.1 ≠ S := List.forall_mem_cons.mpr ⟨Nat.ne_of_gt (oHW _ (.tail _ (.tail _ (.head _)))).1, List.forall_mem_cons.mpr ⟨Nat.ne_of_gt (oHW _ (.tail _ (.tail _ (.head _)))).2, t2S⟩⟩
  have s3 : ∀ q ∈ c.tl, q ∈ (H', listOf (c.hv.take d ++ [Value.ref rW.x]).toArray hn7) :: (W', listOf (c.wv.take d ++ [Value.int (i : Int) tr]).toArray wn7) :: (O, listOf (c.its.toList.drop d).toArray 0) :: (c.tl ++ own ++ nw) := fun q hq => .tail _ (.tail _ (s2 q hq))
  have own5 : ∀ p ∈ own, p.1 ≠ H' := fun q hq => Nat.ne_of_lt (oHW q (.tail _ (.tail _ (.tail _ (.tail _ (List.mem_append_left _ (List.mem_append_right _ hq))))))).1
  have own6 : ∀ p ∈ own, p.1 ≠ W' := fun q hq => Nat.ne_of_lt (oHW q (.tail _ (.tail _ (.tail _ (.tail _ (List.mem_append_left _ (List.mem_append_right _ hq))))))).2
  have own7 : ∀ p ∈ own, p.1 ≠ O := fun q hq => Nat.ne_of_lt (oO q (.tail _ (.tail _ (.tail _ (List.mem_append_left _ (List.mem_append_right _ hq))))))
  have own8 : ∀ q ∈ nw, ∀ p ∈ own, p.1 ≠ q.1 := fun q hq p hp => Ne.symm (oW q hq p (.tail _ (.tail _ (.tail _ (List.mem_append_right _ hp)))))
  rcases Nat.eq_zero_or_pos i with hi0 | hi0
  · -- the first row
    have hw0 : c.way = [] := List.length_eq_zero_iff.mp (by have := rb.n; omega)
    have hz0 : c.its.size = 0 := by rw [hsz, hw0]; rfl
    have hd0 : d = 0 := by rw [hw0] at hdl; exact Nat.le_zero.mp hdl
    refine st_tail0 (s3 _ (ffx _ hC00)) dC hB hi hn hi8 t3x t3K t3S nxK nxS nKS (s3 _ (ffx _ hdx0)) (by simp [hz0]) hi0 (Nat.lt_of_lt_of_le hpos hs7) fik (by rw [rb.h]; omega) B X TP hdp hun F7 N7 ?_
    intro u8 h8 tk8 D tx u2' kv8 kn8 pn8 xr8 l8 hxr8 oD hu0 hu1 ik8 F8 N8
    have e8 : xr8 = xr := Option.some.inj (hxr8.symm.trans hxr)
    subst e8
    have sN : ∀ q ∈ c.tl, q ∈ (D, tupO [.str xr8 tx, .str ⟨#[97 + i]⟩ u2']) :: (H', listOf (c.hv.take d ++ [Value.ref rW.x]).toArray hn7) :: (W', listOf (c.wv.take d ++ [Value.int (i : Int) tr]).toArray wn7) :: (O, listOf (c.its.toList.drop d).toArray 0) :: (c.tl ++ nw) := fun q hq => .tail _ (.tail _ (.tail _ (.tail _ (List.mem_append_left _ hq))))
    have offs : ∀ a : Addr, (a = x ∨ a = K ∨ a = S) → ∀ q ∈ (D, tupO [.str xr8 tx, .str ⟨#[97 + i]⟩ u2']) :: (H', listOf (c.hv.take d ++ [Value.ref rW.x]).toArray hn7) :: (W', listOf (c.wv.take d ++ [Value.int (i : Int) tr]).toArray wn7) :: (O, listOf (c.its.toList.drop d).toArray 0) :: (c.tl ++ nw), q.1 ≠ a := by
      have mv : ∀ q ∈ (H', listOf (c.hv.take d ++ [Value.ref rW.x]).toArray hn7) :: (W', listOf (c.wv.take d ++ [Value.int (i : Int) tr]).toArray wn7) :: (O, listOf (c.its.toList.drop d).toArray 0) :: (c.tl ++ nw), q ∈ (H', listOf (c.hv.take d ++ [Value.ref rW.x]).toArray hn7) :: (W', listOf (c.wv.take d ++ [Value.int (i : Int) tr]).toArray wn7) :: (O, listOf (c.its.toList.drop d).toArray 0) :: (c.tl ++ own ++ nw) := by
        exact mem_own3
      rintro a (rfl | rfl | rfl)
      · exact List.forall_mem_cons.mpr ⟨Nat.ne_of_gt (oD _ (.head _)), fun q hq => t3x q (mv q hq)⟩
      · exact List.forall_mem_cons.mpr ⟨Nat.ne_of_gt (oD _ (.tail _ (.head _))), fun q hq => t3K q (mv q hq)⟩
      · exact List.forall_mem_cons.mpr ⟨Nat.ne_of_gt (oD _ (.tail _ (.tail _ (.head _)))), fun q hq => t3S q (mv q hq)⟩
    have fa' := facts_end (pn' := pn8) (kn' := kn8) (sn' := sn6) (hn' := hn7) (wn' := wn7) (tb' := tk8) (d := d) (tr := tr) (its' := (c.its.extract 0 d).push (.ref D)) fa sN (offs x (.inl rfl)) (offs K (.inr (.inl rfl))) (offs S (.inr (.inr rfl))) (.tail _ (.head _)) (.tail _ (.tail _ (.head _)))
      (fun e he => .tail _ (.tail _ (.tail _ (.tail _ (List.mem_append_right _ (mW e he)))))) fW hxr ik8 iS6 (by
        rw [Array.toList_push, ext_toList, hw0]
        have : c.its.toList = [] := by rw [← List.length_eq_zero_iff]; simpa using hz0
        rw [this]
        simp only [List.take_nil, List.nil_append]
        exact .cons ⟨D, tx, u2', xr8, rfl, .head _, hxr, hi8, hu0, hu1⟩ .nil) (Nat.lt_of_lt_of_le hpos (Nat.le_trans hs7 l8))
    refine k _ u8 h8 tk8 _ (Nat.le_trans hs7 l8) fa' ?_ (Nat.le_refl _) F8 N8 ?_ ?_ ?_
    · have := inv.step hD
      rw [if_pos hi0] at this
      exact this
    · intro q hq
      refine (List.mem_cons.mp hq).elim (fun e => e ▸ (by k_mem)) fun hq => ?_
      refine (List.mem_cons.mp hq).elim (fun e => e ▸ (by k_mem)) fun hq => ?_
      refine (List.mem_cons.mp hq).elim (fun e => e ▸ (by k_mem)) fun hq => ?_
      refine (List.mem_cons.mp hq).elim (fun e => e ▸ (by k_mem)) fun hq => ?_
      refine (List.mem_cons.mp hq).elim (fun e => e ▸ (by k_mem)) fun hq => ?_
      refine (List.mem_cons.mp hq).elim (fun e => e ▸ (by k_mem)) fun hq => ?_
      refine (List.mem_cons.mp hq).elim (fun e => e ▸ (by k_mem)) fun hq => ?_
      repeat refine List.Mem.tail _ ?_
      exact (List.mem_append.mp hq).elim (fun h => List.mem_append_left _ (List.mem_append_left _ h)) fun h => List.mem_append_right _ h
    · intro q hq
      repeat refine List.Mem.tail _ ?_
      exact List.mem_append_left _ (List.mem_append_right _ hq)
    · intro q hq
      rcases List.mem_cons.mp hq with rfl | hq
      · exact own1
      rcases List.mem_cons.mp hq with rfl | hq
      · exact own2
      rcases List.mem_cons.mp hq with rfl | hq
      · exact own3
      rcases List.mem_cons.mp hq with rfl | hq
      · exact fun q hq => Nat.ne_of_lt (oD q (.tail _ (.tail _ (.tail _ (.tail _ (.tail _ (.tail _ (List.mem_append_left _ (List.mem_append_right _ hq)))))))))
      rcases List.mem_cons.mp hq with rfl | hq
      · exact own5
      rcases List.mem_cons.mp hq with rfl | hq
      · exact own6
      rcases List.mem_cons.mp hq with rfl | hq
      · exact own7
      rcases List.mem_append.mp hq with h | h
      · exact own4 q h
      · exact own8 q h
  · -- a later row
    have hd0 : 0 < d := depth_pos rb hD (h0 i hi0 hi8) hi0
    obtain ⟨jv, hjv⟩ : ∃ v, c.its.toList[d - 1]? = some v := ⟨_, List.getElem?_eq_getElem (by simp; omega)⟩
    obtain ⟨j, hj, T, t0, u0, x0, rfl, mT, hx0, j8, ju0, ju1⟩ := faP.get hjv
    rw [ext_pop hd0 hjv] at N7
    refine st_tail1 (s3 _ (ffx _ hC00)) dC hB hi hn hi8 t3x t3K t3S nxK nxS nKS (s3 _ (ffx _ hdx0)) (by simp; omega) hi0 (Nat.lt_of_lt_of_le hpos hs7) fik (by rw [rb.h]; omega) (s3 _ mT) j8 ju0 (Nat.lt_of_lt_of_le ju1 (Nat.le_trans htb hs7)) B X TP hdp hun F7 N7 ?_
    intro u8 h8 tk8 D1 D2 tx u2' kv8 kn8 pn8 xr8 l8 hxr8 oD hu0 hu1 ik8 F8 N8
    have e8 : xr8 = xr := Option.some.inj (hxr8.symm.trans hxr)
    subst e8
    have sN : ∀ q ∈ c.tl, q ∈ (D1, tupO [.str x0 t0, .str ⟨#[97 + j]⟩ u0]) :: (D2, tupO [.str xr8 tx, .str ⟨#[97 + i]⟩ u2']) :: (H', listOf (c.hv.take d ++ [Value.ref rW.x]).toArray hn7) :: (W', listOf (c.wv.take d ++ [Value.int (i : Int) tr]).toArray wn7) :: (O, listOf (c.its.toList.drop d).toArray 0) :: (c.tl ++ nw) := fun q hq => .tail _ (.tail _ (.tail _ (.tail _ (.tail _ (List.mem_append_left _ hq)))))
    have offs : ∀ a : Addr, (a = x ∨ a = K ∨ a = S) → ∀ q ∈ (D1, tupO [.str x0 t0, .str ⟨#[97 + j]⟩ u0]) :: (D2, tupO [.str xr8 tx, .str ⟨#[97 + i]⟩ u2']) :: (H', listOf (c.hv.take d ++ [Value.ref rW.x]).toArray hn7) :: (W', listOf (c.wv.take d ++ [Value.int (i : Int) tr]).toArray wn7) :: (O, listOf (c.its.toList.drop d).toArray 0) :: (c.tl ++ nw), q.1 ≠ a := by
      have mv : ∀ q ∈ (H', listOf (c.hv.take d ++ [Value.ref rW.x]).toArray hn7) :: (W', listOf (c.wv.take d ++ [Value.int (i : Int) tr]).toArray wn7) :: (O, listOf (c.its.toList.drop d).toArray 0) :: (c.tl ++ nw), q ∈ (H', listOf (c.hv.take d ++ [Value.ref rW.x]).toArray hn7) :: (W', listOf (c.wv.take d ++ [Value.int (i : Int) tr]).toArray wn7) :: (O, listOf (c.its.toList.drop d).toArray 0) :: (c.tl ++ own ++ nw) := by
        exact mem_own3
      rintro a (rfl | rfl | rfl)
      · exact List.forall_mem_cons.mpr ⟨Nat.ne_of_gt (oD _ (.head _)).1, List.forall_mem_cons.mpr ⟨Nat.ne_of_gt (oD _ (.head _)).2, fun q hq => t3x q (mv q hq)⟩⟩
      · exact List.forall_mem_cons.mpr ⟨Nat.ne_of_gt (oD _ (.tail _ (.head _))).1, List.forall_mem_cons.mpr ⟨Nat.ne_of_gt (oD _ (.tail _ (.head _))).2, fun q hq => t3K q (mv q hq)⟩⟩
      · exact List.forall_mem_cons.mpr ⟨Nat.ne_of_gt (oD _ (.tail _ (.tail _ (.head _)))).1, List.forall_mem_cons.mpr ⟨Nat.ne_of_gt (oD _ (.tail _ (.tail _ (.head _)))).2, fun q hq => t3S q (mv q hq)⟩⟩
    have htk : c.tb ≤ tk8 := Nat.le_trans htb (Nat.le_trans hs7 l8)
    have fa' := facts_end (pn' := pn8) (kn' := kn8) (sn' := sn6) (hn' := hn7) (wn' := wn7) (tb' := tk8) (d := d) (tr := tr) (its' := ((c.its.extract 0 (d - 1)).push (.ref D1)).push (.ref D2)) fa sN (offs x (.inl rfl)) (offs K (.inr (.inl rfl))) (offs S (.inr (.inr rfl))) (.tail _ (.tail _ (.head _))) (.tail _ (.tail _ (.tail _ (.head _))))
      (fun e he => .tail _ (.tail _ (.tail _ (.tail _ (.tail _ (List.mem_append_right _ (mW e he))))))) fW hxr ik8 iS6 (by
        rw [Array.toList_push, Array.toList_push, ext_toList]
        have ew : c.way.take d = c.way.take (d - 1) ++ [j] := by
          obtain ⟨k, rfl⟩ : ∃ k, d = k + 1 := ⟨d - 1, by omega⟩
          rw [List.take_add_one, show k + 1 - 1 = k from rfl] at *
          rw [hj]; rfl
        rw [ew]
        exact (((faP.take (d - 1)).mono fun v j a => pile_mono htk sN a).snoc ⟨D1, t0, u0, x0, rfl, .head _, hx0, j8, ju0, Nat.lt_of_lt_of_le ju1 htk⟩).snoc ⟨D2, tx, u2', xr8, rfl, .tail _ (.head _), hxr, hi8, hu0, hu1⟩) (Nat.lt_of_lt_of_le hpos (Nat.le_trans hs7 l8))
    refine k _ u8 h8 tk8 _ (Nat.le_trans hs7 l8) fa' ?_ (Nat.le_refl _) F8 N8 ?_ ?_ ?_
    · have := inv.step hD
      rw [if_neg (Nat.ne_of_gt hi0), List.getD_eq_getElem?_getD, hj] at this
      exact this
    · intro q hq
      refine (List.mem_cons.mp hq).elim (fun e => e ▸ (by k_mem)) fun hq => ?_
      refine (List.mem_cons.mp hq).elim (fun e => e ▸ (by k_mem)) fun hq => ?_
      refine (List.mem_cons.mp hq).elim (fun e => e ▸ (by k_mem)) fun hq => ?_
      refine (List.mem_cons.mp hq).elim (fun e => e ▸ (by k_mem)) fun hq => ?_
      refine (List.mem_cons.mp hq).elim (fun e => e ▸ (by k_mem)) fun hq => ?_
      refine (List.mem_cons.mp hq).elim (fun e => e ▸ (by k_mem)) fun hq => ?_
      refine (List.mem_cons.mp hq).elim (fun e => e ▸ (by k_mem)) fun hq => ?_
      refine (List.mem_cons.mp hq).elim (fun e => e ▸ (by k_mem)) fun hq => ?_
      repeat refine List.Mem.tail _ ?_
      exact (List.mem_append.mp hq).elim (fun h => List.mem_append_left _ (List.mem_append_left _ h)) fun h => List.mem_append_right _ h
    · intro q hq
      repeat refine List.Mem.tail _ ?_
      exact List.mem_append_left _ (List.mem_append_right _ hq)
    · intro q hq
      rcases List.mem_cons.mp hq with rfl | hq
      · exact own1
      rcases List.mem_cons.mp hq with rfl | hq
      · exact own2
      rcases List.mem_cons.mp hq with rfl | hq
      · exact own3
      rcases List.mem_cons.mp hq with rfl | hq
      · exact fun q hq => Nat.ne_of_lt (oD q (.tail _ (.tail _ (.tail _ (.tail _ (.tail _ (.tail _ (List.mem_append_left _ (List.mem_append_right _ hq)))))))) ).1
      rcases List.mem_cons.mp hq with rfl | hq
      · exact fun q hq => Nat.ne_of_lt (oD q (.tail _ (.tail _ (.tail _ (.tail _ (.tail _ (.tail _ (List.mem_append_left _ (List.mem_append_right _ hq)))))))) ).2
      rcases List.mem_cons.mp hq with rfl | hq
      · exact own5
      rcases List.mem_cons.mp hq with rfl | hq
      · exact own6
      rcases List.mem_cons.mp hq with rfl | hq
      · exact own7
      rcases List.mem_append.mp hq with h | h
      · exact own4 q h
      · exact own8 q h
end
set_option maxRecDepth 100000
set_option maxHeartbeats 8000000
local macro_rules | `(tactic| walk_at "call ref") => `(tactic| (k_extra "g48"; k_dflt (refine' out_useT (new_p ?k1 ?k2 ?k3 ?k4 ?kK ?kd ?ku ?kN) ?_; k_extra "a48"); k_extra "b48"))
section
variable {w : World} {p : Program} {loose : List Str} {mean : ExcName → Option Value} {mg mb : Str → Option Value} {dp un : Nat} {gd : Option (List Code)} {cn : Str} {cs : Scope} {a : Addr} {ccd : Value} {cl : List (Str × Addr)} {outer : List Env} {A₀ : Around} {base h₀ : Heap} {L : Addr} {m : Str → Option Value} {s : Shared}
theorem read_p {LA : Addr} {lv : List Value} {leads : List Str} (hpos : 0 < s.toks) (hl : s.heap.IsList LA lv.toArray) (hi : StrsAre lv leads) (hn : leads.length = 8) (hC : ∀ x ∈ leads, ∀ (i ch : Nat), x.cps[i]? = some ch → ch = 32 ∨ ch = 9) (hA : ∀ x ∈ leads, x.cps.all (· < 128) = true) (hL : ∀ x ∈ leads, x.cps.size ≤ 4) (hok : ∀ x ∈ leads, PyData.strOk x = true) (h0 : ∀ r, 0 < r → r < 8 → lsOf leads 0 r = true) (B : Below A₀ base outer h₀) (F : Fr h₀ L s.heap m) (X : (hd.heap_1 w.params).In h₀) (TP : Top p loose mean mg mb h₀) (hk : cs.kind = .function) (hdp : dp + 20 < recursionLimit) (hun : un + 300 < cLine) :
    PureAt PR w (ktrTop dp un gd cn cs L a ccd cl outer) h₀ L m s 230 [.ref LA] (fun r tl => ∃ T K S kv kn sv sn hooks lasts way, r = .ref T ∧ tl = [(T, tupO [.ref K, .ref S]), (K, listOf (List.toArray kv) kn), (S, listOf (List.toArray sv) sn)] ∧ IntsAre kv hooks ∧ IntsAre sv lasts ∧ ReadR (lsOf leads) 8 way hooks lasts) := by
  k_with_none
  w_top off
  k_with "m_enter" => ((case kA => exact rfl); (case kF => exact rfl); (case kK => assumption); (case k1 => k_asm); (case k2 => k_asm); (case k3 => k_asm); (case k5 => k_asm); (case k6 => k_is); (case k7 => k_is); (case k8 => walk_at "lt_room"); (case k9 => exact BindsTo.of_eq rfl); (case c5 => decide); (case kB => exact locs rfl); (case c2 => exact rfl); (case c3 => exact rfl); (case c4 => exact rfl); k_whole; intro g' L' h' F' N' B' X' T'; (try dsimp only [List.reverse, List.reverseAux, List.length]))
  k_with "m_pure" => ((case k1 => k_asm); (case k2 => k_asm); (case k3 => k_asm); (case k4 => k_asm); (case kK => first | exact rfl | assumption); (case kd => walk_at "lt_room"); (case ku => walk_at "lt_units"))
  k_with "m_useI" => (walk_at "m_pure"; (case k5 => k_asm); intro t9 h9 tk9 F9 N9; (try dsimp only); (try k_sweep))
  k_with "m_same" => (intro z h2 h3; (try simp only [List.forall_mem_cons, List.not_mem_nil, false_implies, implies_true, and_true, ne_eq, List.contains_cons, List.contains_nil, Bool.or_false, Bool.or_eq_false_iff, beq_eq_false_iff_ne] at h2 h3); simp [kstB, h2, h3])
  k_with "m_useB" => (walk_at "m_pure"; (case k5 => k_asm); intro h9 tk9 F9 N9; (try dsimp only); (try k_sweep))
  k_with "l_idx" => (k_dflt (k_extra "m_idx"))
  k_with "g9" => (k_here; (with_reducible show wpAny _ _ (subscriptTail _ _ (Value.ref _) (Value.int _ _)) _ _ _))
  k_with "a9" => ((case k1 => is_list); (case k3 => omega); (case k5 => omega); (case k6 => with_unfolding_all rfl); k_whole)
  k_with "m_sameN" => (intro z h1 h2 h3; (try simp only [List.forall_mem_cons, List.not_mem_nil, false_implies, implies_true, and_true, ne_eq, List.contains_cons, List.contains_nil, Bool.or_false, Bool.or_eq_false_iff, beq_eq_false_iff_ne] at h2 h3); first | rfl | ((show (if z = _ then _ else _) = _); rw [if_neg h1]; rfl) | (simp [kstB, h1, h2, h3]; done))
  k_with "mul_fits" => (k_extra "m_mul")
  k_with "InvEndN" => (refine stop_ ?_)
  k_with "KswEnd" => (refine stop_ ?_)
  k_with "m_new" => (first | exact List.forall_mem_nil _ | (refine List.forall_mem_cons.mpr ⟨⟨by k_mem, by k_all⟩, ?_⟩; walk_at "m_new"))
  k_with "exec For Name Name cons nil" => (k_here; with_unfolding_all refine wpAny_For ?_)
  k_with "exec For Name Call cons nil" => (k_here; with_unfolding_all refine wpAny_For ?_)
  k_with "exec For Tuple Name cons nil" => (k_here; with_unfolding_all refine wpAny_For ?_)
  k_with "exec For Tuple Call cons nil" => (k_here; with_unfolding_all refine wpAny_For ?_)
  k_with "pyIter ref" => (k_dflt (k_extra "m_iter"))
  k_with "pyIter str" => (k_dflt (k_extra "m_siter"))
  k_with "XEnd" => (dsimp only [XEnd])
  k_with "XEndN" => (refine stop_ ?_)
  k_with "k_all" => (first | (with_reducible assumption) | (refine List.forall_mem_append.mpr ⟨?_, ?_⟩ <;> k_all) | fail "m_all")
  k_with "k_room" => (walk_at "lt_room")
  k_with "k_room" => (walk_at "lt_room")
  k_with "k_units" => (walk_at "lt_units")
  k_with "size_fits" => ((simp only [List.size_toArray, Array.size_push, PySem.sizeLine_eq]); omega)
  k_with "g25" => (k_here)
  k_with "a25" => ((case k1 => k_asm); (case k2 => k_asm); (case k3 => k_inst); (case k4 => k_is); (case k5 => k_is); (case k6 => k_is); (case k7 => k_is); (case k8 => k_get); k_whole)
  k_with "m_perm" => (first | exact List.forall_mem_nil _ | (refine List.forall_mem_cons.mpr ⟨?_, ?_⟩; (focus (k_mem; done)); (focus (walk_at "m_perm"; done))) | (refine List.forall_mem_append.mpr ⟨?_, ?_⟩; (focus (walk_at "m_perm"; done)); (focus (walk_at "m_perm"; done))) | (intro q hq; (repeat first | exact hq | exact List.mem_append_left _ hq | exact List.mem_append_right _ hq | exact List.mem_append_left _ (List.mem_append_left _ hq) | exact List.mem_append_left _ (List.mem_append_right _ hq) | refine List.Mem.tail _ ?_); done) | (trace "heavy m_perm"; intro q hq; simp only [List.mem_cons, List.mem_append, List.not_mem_nil, or_false] at hq ⊢; (repeat' (refine Or.elim hq ?_ ?_ <;> (clear hq; intro hq))) <;> simp [hq]))
  k_with "k_mem" => ((repeat (first | with_reducible assumption | with_reducible exact List.mem_cons_self | with_reducible refine List.mem_cons_of_mem _ ?_ | with_reducible refine List.mem_append_left _ ?_)); done)
  k_with "g37" => skip
  k_with "a37" => ((case N => k_asm); (case h1 => k_mem); (case h2 => k_extra "m_dx"))
  k_with "k_all" => (first | (with_reducible assumption) | (with_reducible refine List.forall_mem_append.mpr ⟨?_, ?_⟩ <;> k_all) | fail "m_all")
  k_with "k_room" => (walk_at "lt_room")
  k_with "loadName" => (k_here; (rename Fr _ _ _ _ => lF9); k_dflt (refine ldX lF9 (by rfl) ?_))
  k_with "k_room" => (walk_at "lt_room")
  k_with "k_units" => (walk_at "lt_units")
  k_with "size_fits" => ((simp only [List.size_toArray, Array.size_push, PySem.sizeLine_eq]); omega)
  k_with "m_enter2" => ((case kA => exact rfl); (case kF => exact rfl); (case kK => assumption); (case k1 => k_asm); (case k2 => k_asm); (case k3 => k_asm); (case k5 => k_asm); (case k6 => k_is); (case k7 => k_is); (case k8 => walk_at "lt_room"); (case k9 => exact BindsTo.of_eq rfl); (case kC => exact rfl); (case kD => (intro n; rfl)); (case c2 => exact rfl); (case c3 => exact rfl); (case c4 => exact rfl); k_whole)
  k_with "g48" => (k_here)
  k_with "a48" => (walk_at "m_pure"; (case kN => k_asm))
  k_with "b48" => (k_extra "m_new143")
  k_with "execs cons" => (k_here; k_extra "m_toks")
  k_with "exec For Name Call cons nil" => (k_here; k_extra "m_for")
  k_with "TokThen" => (refine tokThen_ ?_; k_extra "m_tokthen")
  k_with "pyIter ref" => (k_dflt (k_extra "m_iter"))
  k_with "YEnd" => (refine stop_ ?_)
  k_with "execs cons" => ((with_reducible show wpAny _ _ (execs _ _) (YEnd _ _ _ _ _ _ _ _ _ _) _ _); refine stop_ ?_)
  k_with "lt_room" => (first | with_unfolding_all exact room2 (j := 0) hdp rfl rfl | with_unfolding_all exact room0 (j := 0) hdp rfl rfl | with_unfolding_all exact room2 (j := 1) hdp rfl rfl | with_unfolding_all exact room0 (j := 1) hdp rfl rfl | with_unfolding_all exact room2 (j := 2) hdp rfl rfl | with_unfolding_all exact room0 (j := 2) hdp rfl rfl | with_unfolding_all exact room2 (j := 3) hdp rfl rfl | with_unfolding_all exact room0 (j := 3) hdp rfl rfl | with_unfolding_all exact room2 (j := 4) hdp rfl rfl | with_unfolding_all exact room0 (j := 4) hdp rfl rfl | with_unfolding_all exact room2 (j := 5) hdp rfl rfl | with_unfolding_all exact room0 (j := 5) hdp rfl rfl | with_unfolding_all exact room2 (j := 6) hdp rfl rfl | with_unfolding_all exact room0 (j := 6) hdp rfl rfl | with_unfolding_all exact room2 (j := 7) hdp rfl rfl | with_unfolding_all exact room0 (j := 7) hdp rfl rfl | (trace "heavy"; ktr_room))
  k_with "lt_units" => (first | with_unfolding_all exact room2 (j := 0) hun rfl rfl | with_unfolding_all exact room0 (j := 0) hun rfl rfl | with_unfolding_all exact room2 (j := 1) hun rfl rfl | with_unfolding_all exact room0 (j := 1) hun rfl rfl | with_unfolding_all exact room2 (j := 2) hun rfl rfl | with_unfolding_all exact room0 (j := 2) hun rfl rfl | with_unfolding_all exact room2 (j := 3) hun rfl rfl | with_unfolding_all exact room0 (j := 3) hun rfl rfl | with_unfolding_all exact room2 (j := 4) hun rfl rfl | with_unfolding_all exact room0 (j := 4) hun rfl rfl | with_unfolding_all exact room2 (j := 5) hun rfl rfl | with_unfolding_all exact room0 (j := 5) hun rfl rfl | with_unfolding_all exact room2 (j := 6) hun rfl rfl | with_unfolding_all exact room0 (j := 6) hun rfl rfl | with_unfolding_all exact room2 (j := 7) hun rfl rfl | with_unfolding_all exact room0 (j := 7) hun rfl rfl | (trace "heavy"; ktr_units))
  k_dflt (refine' pure_codeC (nm := Str.ofString "leads") ?k1 ?k2 ?k3 ?k5 ?kA ?kF ?kK ?k6 ?k7 ?k8 ?k9 ?kC ?kD ?_ ?c2 ?c3 ?c4; walk_at "m_enter2")
  intro g' L' h' tk' oC tkL F' N' dC B' X' T' stB
  have hB := hl.at fun o e => stB _ o e
  clear stB
  k_with "m_new143" => (rintro r9 news9 h9 tk9 l9 ⟨x, dx, xn, xc, xt1, xt2, rfl, kx1, kx2, rfl⟩ F9 N9; (try k_lt kx1); (try k_lt2 kx2); (try dsimp only); (try k_sweep))
  k_with "m_toks" => (first | (with_reducible refine execs_consT s.toks ?_ ?_; (· k_dflt (first | exact tkL | exact Nat.le_trans tkL (Nat.le_add_right _ _) | exact Nat.le_trans tkL (by omega)))))
  k_with "m_for" => (with_reducible refine for_T s.toks ?_ ?_ ?_; (· k_dflt (exact tkL)); (· k_dflt (intro _; rfl)))
  k_with "m_tokthen" => (clear tkL; intro tkN tkL tkE; clear tkE; dsimp only)
  k_steps
  ((rename News _ _ _ _ => lN9); (obtain ⟨S0, K0, W0, H0, t80, e1, e2, e3, e4, e5⟩ := news_read lN9); (subst e1 e2 e3 e4 e5); (rename Fr _ _ _ _ => lF9); (rename News _ _ _ _ => lN9); (refine' y_range (σ := RdS) (RdS.Led x dx K0 S0) (fun c => [(Str.ofString "pile", .ref x), (Str.ofString "hooks", .ref K0), (Str.ofString "lasts", .ref S0), (Str.ofString "held", .ref c.H), (Str.ofString "way", .ref c.W)]) (RdS.Facts w leads x K0 S0 [(dx, dictOf [entS w "_initial_size" xt1 (.int 2 xt2)] xc), (L' + 1, oC)]) (fun i c => ReadR (lsOf leads) i c.way c.hooks c.lasts) (RdS.tb) (⟨#[], xn, [], 0, [], (List.replicate (Int.toNat 8) [Value.int 8 t80]).flatten, 0, [8, 8, 8, 8, 8, 8, 8, 8], H0, W0, [], [], 0, 0, [], (H0, listOf #[] 0) :: (W0, listOf #[] 0) :: [(dx, dictOf [entS w "_initial_size" xt1 (.int 2 xt2)] xc), (L' + 1, oC)], 1⟩) ?hr ?hsm ?hn ?hh lF9 ?lN9 ?hf ?hps ?hp ?htb ?hE (fun c i tr kU kH kTk kOwn kLt kOff kFacts kInv kTB kFr kNews => ?turn) (fun c kU kH kTk kFacts kInv kTB kFr kNews => ?done)); (case hh => rfl); (case hE => passes_own); (case hr => assumption); (case hsm => decide); (case hn => exact (show _ = ((8 : Nat) : Int) by decide)); (case lN9 => exact kst_newsOf lN9 (SubL.mem (by (dsimp only [RdS.Led]; k_subL)))); (case hf => exact rd_0 ints_rep8 (by k_all) (by k_all) (by k_all)); (case hps => kst_all); (case hp => exact .zero); (case htb => exact Nat.lt_of_lt_of_le hpos tkL); (clear lF9 lN9); (have nxK : @Ne Nat x K0 := by k_ne); (have nxS : @Ne Nat x S0 := by k_ne); (have nKS : @Ne Nat K0 S0 := by k_ne); (all_goals (try simp only [RdS.Led, List.cons_append] at kNews)); (case' turn => (simp only [RdS.Led, List.forall_mem_cons] at kOff; obtain ⟨ko1, ko2, ko3, ko4⟩ := kOff)); (case' done => (obtain ⟨fox, foK, foS, fik, fis, fmH, fmW, faH, faW, faP, ffx, ftb⟩ := kFacts; clear faH faW faP fmH fmW ffx; refine stop_ ?_)))
  case' turn =>
    k_steps
  case' turn =>
    refine Stop.mk ?_
    rw [show (0 : Int) + (i : Nat) = ((i : Nat) : Int) from Int.zero_add _] at *
    rename Fr _ _ _ _ => fE
    rename News _ _ _ _ => nE
    change wpAny (model PR w) (rdA w.params (dp + 1) (un + 3) gd L' (envX cn cs L a ccd cl :: outer)) (execs (rdTurn w.params) (rdEnv w.params L')) _ _ _
    refine st_turn (c := c) (tr := tr) (own := kOwn) (fix := [(dx, dictOf [entS w "_initial_size" xt1 (.int 2 xt2)] xc), (L' + 1, oC)]) dC hB hi hn kLt hC hA hL hok h0 nxK nxS nKS (.head _) (.tail _ (.head _)) kFacts kInv (Nat.le_trans kTB ?ht) ko1 ko2 ko3 ko4 B' X' T' (by omega) (by omega) (fr_names ?ha fE) nE ?kk
    case ht => (dsimp only; omega)
    case ha => kst_all
    case kk =>
      intro c' u' h9 tk9 all9 hle fa' inv' tb' F9 N9 in1 in2 off9
      exact yend_ c' F9 N9 in1 in2 off9 fa' (by kst_all) inv' (fun _ => tb')
  case' done =>
    refine Stop.mk ?_
    k_steps
  case' done =>
    refine' leaveP_ (by assumption) (by assumption) [(_, tupO [Value.ref K0, Value.ref S0]), (K0, listOf (List.toArray c.kv) c.kn), (S0, listOf (List.toArray c.sv) c.sn)] sub_nil ?hz ⟨_, _, _, _, _, _, _, _, _, c.way, rfl, rfl, fik, fis, kInv⟩
    case hz => exact List.forall_mem_cons.mpr ⟨⟨by k_mem, fun _ h => nomatch h⟩, List.forall_mem_cons.mpr ⟨⟨by k_mem, fun _ h => nomatch h⟩, List.forall_mem_cons.mpr ⟨⟨by k_mem, fun _ h => nomatch h⟩, fun _ h => nomatch h⟩⟩⟩
end
set_option maxRecDepth 100000
noncomputable def lwBody (P : Params) : List Stmt := stmtsOf (fdAt P 258).body
noncomputable abbrev lwEnv (P : Params) (L fa : Addr) (cd : Value) : Env := envX (Str.ofString "law") (fdAt P 258).scope L fa cd []
noncomputable abbrev lwA (P : Params) (dp un : Nat) (gd : Option (List Code)) (L fa : Addr) (cd : Value) (outer : List Env) : Around := ktrTop dp un gd (Str.ofString "law") (fdAt P 258).scope L fa cd [] outer
theorem ints_at {vs : List Value} {zs : List Int} (h : IntsAre vs zs) : ∀ {i : Nat} {v : Value}, vs[i]? = some v → ∃ z t, v = .int z t ∧ zs[i]? = some z := by
  induction h with
  | nil => intro i v e; simp at e
  | cons z t _ ih => intro i v e; cases i with
    | zero => simp at e; exact ⟨z, t, e.symm, rfl⟩
    | succ i => simpa using ih (by simpa using e)
structure CdS where
  cv : List Value
  cn : Nat
  codes : List Int
theorem fmod7 (i : Int) : 0 ≤ Int.fmod i 7 ∧ Int.fmod i 7 < 7 := ⟨Int.fmod_nonneg_of_pos i (by decide), Int.fmod_lt_of_pos i (by decide)⟩
/-- a lead by its shape -/
noncomputable def decN : Nat → Nat → List Nat → List Nat
  | 0, _, l => l
  | f + 1, n, l => if 1 < n then decN f (n / 2) (l ++ [if n % 2 = 0 then 32 else 9]) else l
noncomputable def leadN (n : Nat) : Str := ⟨(decN 5 n []).toArray⟩
structure LdS where
  lv : List Value
  ln : Nat
  leads : List Str
noncomputable def LdP (i : Nat) (c : LdS) : Prop := ∃ ns : List Nat, ns.length = i ∧ (∀ n ∈ ns, 2 ≤ n ∧ n ≤ 31) ∧ c.leads = ⟨#[]⟩ :: ns.map leadN
noncomputable def ShP (n0 : Nat) (c : (Str × Tok) × (Int × Tok)) : Prop := ∃ f n : Nat, f ≤ 5 ∧ c.2.1 = (n : Int) ∧ 1 ≤ n ∧ n < 2 ^ (f + 1) ∧ c.1.1.cps.size + f ≤ 5 ∧ decN f n c.1.1.cps.toList = decN 5 n0 []
theorem fmod2 (i : Int) : 0 ≤ Int.fmod i 2 ∧ Int.fmod i 2 < 2 := ⟨Int.fmod_nonneg_of_pos i (by decide), Int.fmod_lt_of_pos i (by decide)⟩
theorem sh_open {n0 : Nat} {x : Str} {t u : Tok} {z : Int} (h : ShP n0 ((x, t), (z, u))) : 0 ≤ z ∧ z < 64 ∧ x.length ≤ 5 := by
  obtain ⟨f, n, hf, e, h1, h2, h3, _⟩ := h
  dsimp only at e h3
  have hl : x.length ≤ 5 := by show x.cps.size ≤ 5; omega
  have : 2 ^ (f + 1) ≤ 2 ^ 6 := Nat.pow_le_pow_right (by decide) (by omega)
  exact ⟨by omega, by omega, hl⟩
theorem sh_0 (z : Int) {x : Str} {t u : Tok} (hx : x.cps = #[] := by rfl) : ShP (Int.fmod z 30 + 2).toNat ((x, t), (Int.fmod z 30 + 2, u)) := by
  have h1 : 0 ≤ Int.fmod z 30 := Int.fmod_nonneg_of_pos z (by decide)
  have h2 : Int.fmod z 30 < 30 := Int.fmod_lt_of_pos z (by decide)
  refine ⟨5, (Int.fmod z 30 + 2).toNat, Nat.le_refl _, ?_, by omega, by omega, ?_, ?_⟩
  · dsimp only; omega
  · dsimp only; rw [hx]; decide
  · dsimp only; rw [hx]
theorem sign_item {n : Nat} : Txt.item (Str.ofString " \t") (Int.fmod (n : Int) 2) = ⟨#[if n % 2 = 0 then 32 else 9]⟩ := by
  have e : Int.fmod (n : Int) 2 = ((n % 2 : Nat) : Int) := by
    rw [Int.fmod_eq_emod_of_nonneg _ (by decide)]; omega
  rw [e]
  have h2 : n % 2 = 0 ∨ n % 2 = 1 := by omega
  rcases h2 with h | h <;> rw [h] <;> decide +kernel
theorem fdiv2 (n : Nat) : Int.fdiv (n : Int) 2 = ((n / 2 : Nat) : Int) := by
  rw [Int.fdiv_eq_ediv_of_nonneg _ (by decide)]; omega
theorem sh_1 {n0 : Nat} {x : Str} {t u t' u' : Tok} {q q' : Int} {y : Str} (h : ShP n0 ((x, t), (q, u))) (hq : 1 < q) (hy : y = x ++ Txt.item (Str.ofString " \t") (Int.fmod q 2)) (hq' : q' = Int.fdiv q 2) : ShP n0 ((y, t'), (q', u')) ∧ q'.toNat < q.toNat := by
  obtain ⟨f, n, hf, e, h1, h2, h3, h4⟩ := h
  dsimp only at e h3 h4
  subst e
  have hn : 1 < n := by omega
  obtain ⟨f', rfl⟩ : ∃ f', f = f' + 1 := by
    cases f with
    | zero => simp at h2; omega
    | succ f' => exact ⟨f', rfl⟩
  rw [fdiv2] at hq'
  rw [sign_item] at hy
  subst hq' hy
  have hc : (x ++ (⟨#[if n % 2 = 0 then 32 else 9]⟩ : Str)).cps = x.cps ++ #[if n % 2 = 0 then 32 else 9] := rfl
  refine ⟨⟨f', n / 2, by omega, rfl, by omega, ?_, ?_, ?_⟩, by omega⟩
  · rw [Nat.pow_succ] at h2
    omega
  · dsimp only; rw [hc, Array.size_append]; show x.cps.size + 1 + f' ≤ 5; omega
  · dsimp only
    rw [hc, Array.toList_append, ← h4]
    show _ = if 1 < n then _ else _
    rw [if_pos hn]
theorem sh_end {n0 : Nat} {x : Str} {t u : Tok} {q : Int} (h : ShP n0 ((x, t), (q, u))) (hq : ¬ 1 < q) : x = leadN n0 := by
  obtain ⟨f, n, hf, e, h1, h2, h3, h4⟩ := h
  dsimp only at e h4
  have hn : ¬ 1 < n := by omega
  have e2 : decN f n x.cps.toList = x.cps.toList := by
    cases f with
    | zero => rfl
    | succ f => show (if 1 < n then _ else _) = _; rw [if_neg hn]
  rw [e2] at h4
  unfold leadN
  rw [← h4]
theorem ldP_len {i : Nat} {lv : List Value} {ln : Nat} {leads : List Str} (h : LdP i ⟨lv, ln, leads⟩) (hs : StrsAre lv leads) : lv.length = i + 1 := by
  obtain ⟨ns, h1, _, h3⟩ := h
  rw [strs_len hs, show leads = _ from h3, List.length_cons, List.length_map, h1]
theorem ldP_step {i : Nat} {lv : List Value} {ln : Nat} {leads : List Str} {z : Int} {lv' : List Value} {ln' : Nat} (h : LdP i ⟨lv, ln, leads⟩) : LdP (i + 1) ⟨lv', ln', leads ++ [leadN (Int.fmod z 30 + 2).toNat]⟩ := by
  obtain ⟨ns, h1, h2, h3⟩ := h
  have q1 : 0 ≤ Int.fmod z 30 := Int.fmod_nonneg_of_pos z (by decide)
  have q2 : Int.fmod z 30 < 30 := Int.fmod_lt_of_pos z (by decide)
  refine ⟨ns ++ [(Int.fmod z 30 + 2).toNat], by simp [h1], fun n hn => ?_, ?_⟩
  · rcases List.mem_append.mp hn with hn | hn
    · exact h2 n hn
    · rw [List.mem_singleton.mp hn]; omega
  · show leads ++ _ = _
    rw [show leads = _ from h3]
    simp
theorem strs_snoc {lv : List Value} {leads : List Str} {x : Str} {t : Tok} (h : StrsAre lv leads) : StrsAre (lv ++ [.str x t]) (leads ++ [x]) := by
  induction h with
  | nil => exact .cons _ _ .nil
  | cons _ _ _ ih => exact .cons _ _ ih
theorem codes_cap {h₀ h : Heap} {L C : Addr} {cv : List Value} {cn : Nat} {r : List (Addr × Obj)} (_ : News h₀ L h ((C, listOf (List.toArray cv) cn) :: r)) : ∃ cv', cv' = cv := ⟨_, rfl⟩
set_option maxRecDepth 100000
set_option maxHeartbeats 8000000
/-- a figure reckoned out ahead of its use -/
noncomputable def fN {β : Type} (n : Nat) (k : Nat → β) : β := match n with | 0 => k 0 | n + 1 => k (n + 1)
noncomputable def fI {β : Type} (x : Int) (k : Int → β) : β := match x with | .ofNat n => fN n fun n => k (.ofNat n) | .negSucc n => fN n fun n => k (.negSucc n)
noncomputable def fL {β : Type} : List Int → (List Int → β) → β
  | [], k => k []
  | x :: xs, k => fI x fun x => fL xs fun xs => k (x :: xs)
noncomputable def fM {β : Type} : List Nat → (List Nat → β) → β
  | [], k => k []
  | x :: xs, k => fN x fun x => fM xs fun xs => k (x :: xs)
theorem fN_eq {β : Type} (n : Nat) (k : Nat → β) : fN n k = k n := by cases n <;> rfl
theorem fI_eq {β : Type} (x : Int) (k : Int → β) : fI x k = k x := by cases x with
  | ofNat n => exact fN_eq n fun n => k (.ofNat n)
  | negSucc n => exact fN_eq n fun n => k (.negSucc n)
theorem fL_eq {β : Type} : ∀ (l : List Int) (k : List Int → β), fL l k = k l
  | [], _ => rfl
  | x :: xs, k => by unfold fL; rw [fI_eq, fL_eq xs]
theorem fM_eq {β : Type} : ∀ (l : List Nat) (k : List Nat → β), fM l k = k l
  | [], _ => rfl
  | x :: xs, k => by unfold fM; rw [fN_eq, fM_eq xs]
noncomputable def lcaF (ho : List Int) : Nat → Int → Int → Int
  | 0, a, _ => a
  | n + 1, a, b => if a = b then a else if a > b then lcaF ho n (gI ho a) b else lcaF ho n a (gI ho b)
noncomputable def lcaV (ho : List Int) : Nat → Int → Int → (Int → Bool) → Bool
  | 0, a, _, q => q a
  | n + 1, a, b, q => if a = b then q a else if a > b then fI (gI ho a) fun a => lcaV ho n a b q else fI (gI ho b) fun b => lcaV ho n a b q
theorem lcaV_eq (ho : List Int) (q : Int → Bool) : ∀ n a b, lcaV ho n a b q = q (lcaF ho n a b)
  | 0, _, _ => rfl
  | n + 1, a, b => by
    unfold lcaV lcaF
    rw [fI_eq, fI_eq, lcaV_eq ho q n, lcaV_eq ho q n]
    split
    · rfl
    · split <;> rfl
/-- lift, its bounds and its answer -/
noncomputable def liftV (lb fl he ho : List Int) (r low : Int) (q : Int → Bool) : Bool :=
  fI (gI fl r) fun f => fI (low - 1) fun d => fI (Builtin.bitAnd f d) fun lw => decide (0 ≤ lw) && (decide (lw < 16) && (if lw = 0 then q r else
    fI (topF lw) fun bit => fI (gI lb r) fun l => fI (-bit) fun nb => fI (Builtin.bitAnd l nb) fun x => fI (Builtin.bitOr x bit) fun h =>
      decide (0 ≤ h) && (decide (h < 9) && fI (gI he h) fun e => decide (0 ≤ e) && (decide (e < 8) && fI (gI ho e) q))))
theorem liftV_ok {lb fl he ho : List Int} {r low : Int} {q : Int → Bool} (h : liftV lb fl he ho r low q = true) (r0 : 0 ≤ r) (r8 : r < 8) (h1 : lb.length = 8) (h2 : fl.length = 8) (h3 : ho.length = 8) (h4 : he.length = 9) :
    LiftOk lb fl he ho r low ∧ q (liftF lb fl he ho r low) = true := by
  unfold liftV at h
  simp only [fI_eq, Bool.and_eq_true, decide_eq_true_eq] at h
  obtain ⟨a1, a2, a3⟩ := h
  by_cases hz : lowF fl r low = 0
  · have hz' : Builtin.bitAnd (gI fl r) (low - 1) = 0 := hz
    rw [if_pos hz'] at a3
    refine ⟨⟨r0, r8, h1, h2, h3, h4, a1, a2, fun q => absurd hz q⟩, ?_⟩
    unfold liftF
    rw [if_pos hz]
    exact a3
  · have hz' : ¬ Builtin.bitAnd (gI fl r) (low - 1) = 0 := hz
    rw [if_neg hz'] at a3
    simp only [Bool.and_eq_true, decide_eq_true_eq] at a3
    obtain ⟨b1, b2, b3, b4, b5⟩ := a3
    refine ⟨⟨r0, r8, h1, h2, h3, h4, a1, a2, fun _ => ⟨b1, b2, b3, b4⟩⟩, ?_⟩
    unfold liftF
    rw [if_neg hz]
    exact b5
noncomputable def meetV (lb fl he ho : List Int) (r k : Int) (q : Int → Bool) : Bool :=
  fI (gI lb r) fun a => fI (gI lb k) fun b => fI (Builtin.bitXor a b) fun ul => decide (0 ≤ ul) && (decide (ul < 16) && (if ul = 0 then q (if r < k then r else k) else
    fI (gI fl r) fun f => fI (gI fl k) fun g => fI (Builtin.bitAnd f g) fun fg => fI (topF ul) fun t => fI (-t) fun nt => fI (Builtin.bitAnd fg nt) fun sh => fI (-sh) fun ns => fI (Builtin.bitAnd sh ns) fun lo =>
      liftV lb fl he ho r lo fun x => liftV lb fl he ho k lo fun y => q (if x < y then x else y)))
theorem meetV_ok {lb fl he ho : List Int} {r k : Int} {q : Int → Bool} (h : meetV lb fl he ho r k q = true) (r0 : 0 ≤ r) (r8 : r < 8) (k0 : 0 ≤ k) (k8 : k < 8) (h1 : lb.length = 8) (h2 : fl.length = 8) (h3 : ho.length = 8) (h4 : he.length = 9) :
    MeetOk lb fl he ho r k ∧ q (meetF lb fl he ho r k) = true := by
  unfold meetV at h
  simp only [fI_eq, Bool.and_eq_true, decide_eq_true_eq] at h
  obtain ⟨a1, a2, a3⟩ := h
  by_cases hz : ulF lb r k = 0
  · have hz' : Builtin.bitXor (gI lb r) (gI lb k) = 0 := hz
    rw [if_pos hz'] at a3
    refine ⟨⟨r0, r8, k0, k8, h1, h2, a1, a2, fun q => absurd hz q⟩, ?_⟩
    unfold meetF mrF
    rw [if_pos hz, if_pos hz]
    exact a3
  · have hz' : ¬ Builtin.bitXor (gI lb r) (gI lb k) = 0 := hz
    rw [if_neg hz'] at a3
    obtain ⟨b1, b2⟩ := liftV_ok a3 r0 r8 h1 h2 h3 h4
    obtain ⟨c1, c2⟩ := liftV_ok b2 k0 k8 h1 h2 h3 h4
    refine ⟨⟨r0, r8, k0, k8, h1, h2, a1, a2, fun _ => ⟨b1, c1⟩⟩, ?_⟩
    unfold meetF mrF
    rw [if_neg hz, if_neg hz]
    exact c2
/-- the tables, row by row -/
noncomputable def tabV (ho la : List Int) : Nat → List Int → List Int → List Int → (n : Nat) → (List Int → List Int → List Int → Bool) → Bool
  | 0, lb, fl, he, _, q => q lb fl he
  | j + 1, lb, fl, he, n, q => fI (gI la n) fun z => fI (Builtin.bitXor n z) fun x => decide (0 ≤ x) && (decide (x < 16) && fI (-(topF x)) fun t => fI (Builtin.bitAnd z t) fun l => decide (0 ≤ l) && (decide (l < 9) &&
      fI (gI ho n) fun o => (decide (n = 0) || (decide (0 ≤ o) && decide (o < (n : Int)))) && fI (flaF fl ho l n) fun f => fL (hedsF he l n) fun he => tabV ho la j (lb ++ [l]) (fl ++ [f]) he (n + 1) q))
theorem tabV_ok {ho la : List Int} {q : List Int → List Int → List Int → Bool} : ∀ (j n : Nat), tabV ho la j (tabN ho la n).lb (tabN ho la n).fl (tabN ho la n).he n q = true →
    (∀ r : Nat, n ≤ r → r < n + j → 0 ≤ Builtin.bitXor r (gI la r) ∧ Builtin.bitXor r (gI la r) < 16 ∧ 0 ≤ labF la r ∧ labF la r < 9 ∧ (0 < r → 0 ≤ gI ho r ∧ gI ho r < r)) ∧ q (tabN ho la (n + j)).lb (tabN ho la (n + j)).fl (tabN ho la (n + j)).he = true
  | 0, n, h => ⟨fun r h1 h2 => by omega, h⟩
  | j + 1, n, h => by
    unfold tabV at h
    simp only [fI_eq, fL_eq, Bool.and_eq_true, Bool.or_eq_true, decide_eq_true_eq] at h
    obtain ⟨a1, a2, a3, a4, a5, a6⟩ := h
    obtain ⟨b1, b2⟩ := tabV_ok j (n + 1) a6
    refine ⟨fun r h1 h2 => ?_, by rw [show n + (j + 1) = n + 1 + j by omega]; exact b2⟩
    rcases Nat.eq_or_lt_of_le h1 with e | e
    · subst e
      exact ⟨a1, a2, a3, a4, fun h0 => a5.resolve_left (by omega)⟩
    · exact b1 r e (by omega)
noncomputable def checkV (ho la : List Int) : Bool := fL ho fun ho => fL la fun la => decide (ho.length = 8) && (decide (la.length = 8) && tabV ho la 8 [] [] [8, 8, 8, 8, 8, 8, 8, 8, 8] 0 fun lb fl he =>
  decide (lb.length = 8) && (decide (fl.length = 8) && (decide (he.length = 9) && (List.range 8).all fun r => (List.range r).all fun k => fN r fun r => fN k fun k => meetV lb fl he ho r k fun x => lcaV ho 16 r k fun y => decide (x = y))))
theorem checkV_ok {ho la : List Int} (h : checkV ho la = true) : TabOk ho la ∧ ∀ r k : Nat, r < 8 → k < r → MeetOk (tabN ho la 8).lb (tabN ho la 8).fl (tabN ho la 8).he ho r k ∧ meetF (tabN ho la 8).lb (tabN ho la 8).fl (tabN ho la 8).he ho r k = lcaF ho 16 r k := by
  unfold checkV at h
  simp only [fL_eq, Bool.and_eq_true, decide_eq_true_eq] at h
  obtain ⟨a1, a2, a3⟩ := h
  obtain ⟨b1, b2⟩ := tabV_ok 8 0 a3
  simp only [Nat.zero_add, fN_eq, Bool.and_eq_true, decide_eq_true_eq, List.all_eq_true, List.mem_range] at b2
  obtain ⟨c1, c2, c3, c4⟩ := b2
  refine ⟨⟨a1, a2, fun r hr => b1 r (Nat.zero_le _) (by omega)⟩, fun r k hr hk => ?_⟩
  have h := c4 r hr k hk
  obtain ⟨d1, d2⟩ := meetV_ok h (by omega) (by omega) (by omega) (by omega) c1 c2 a1 c3
  rw [lcaV_eq, decide_eq_true_eq] at d2
  exact ⟨d1, d2⟩
/-- the word of law's walk up -/
noncomputable def LcP (ho : List Int) (i j : Nat) (c : (Int × Tok) × (Int × Tok)) : Prop := ∃ a b n : Nat, c.1.1 = (a : Int) ∧ c.2.1 = (b : Int) ∧ a < 8 ∧ b < 8 ∧ a + b < n ∧ lcaF ho n a b = lcaF ho 16 i j
theorem lc_0 {ho : List Int} {i j : Nat} {a b : Int} {ta tb : Tok} (ha : a = (i : Int)) (hb : b = (j : Int)) (hi : i < 8) (hj : j < 8) : LcP ho i j ((a, ta), (b, tb)) := ⟨i, j, 16, ha, hb, hi, hj, by omega, rfl⟩
theorem lc_open {ho : List Int} {i j : Nat} {a b : Int} {ta tb : Tok} (h : LcP ho i j ((a, ta), (b, tb))) : 0 ≤ a ∧ a < 8 ∧ 0 ≤ b ∧ b < 8 := by
  obtain ⟨a', b', n, e1, e2, h1, h2, _⟩ := h
  dsimp only at e1 e2
  omega
theorem lc_end {ho : List Int} {i j : Nat} {a b : Int} {ta tb : Tok} (h : LcP ho i j ((a, ta), (b, tb))) (e : a = b) : a = lcaF ho 16 i j := by
  obtain ⟨a', b', n, e1, e2, h1, h2, h3, h4⟩ := h
  dsimp only at e1 e2
  subst e1
  obtain ⟨m, rfl⟩ : ∃ m, n = m + 1 := ⟨n - 1, by omega⟩
  rw [← h4]
  unfold lcaF
  rw [if_pos (by omega)]
theorem lc_one {ho : List Int} {i j : Nat} {a b a2 : Int} {ta tb ta2 tb2 : Tok} (hoB : ∀ r : Nat, r < 8 → 0 < r → 0 ≤ gI ho r ∧ gI ho r < r) (h : LcP ho i j ((a, ta), (b, tb))) (hn : a > b) (e : a2 = ho.getD a.toNat 0) : LcP ho i j ((a2, ta2), (b, tb2)) ∧ a2.toNat + b.toNat < a.toNat + b.toNat := by
  obtain ⟨a', b', n, e1, e2, h1, h2, h3, h4⟩ := h
  dsimp only at e1 e2
  subst e1 e2
  obtain ⟨q1, q2⟩ := hoB a' h1 (by omega)
  have e' : a2 = gI ho a' := e
  obtain ⟨m, rfl⟩ : ∃ m, n = m + 1 := ⟨n - 1, by omega⟩
  refine ⟨⟨a2.toNat, b', m, by dsimp only; omega, rfl, by omega, h2, by omega, ?_⟩, by omega⟩
  rw [← h4]
  conv => rhs; unfold lcaF
  rw [if_neg (by omega), if_pos hn, ← e', show ((a2.toNat : Nat) : Int) = a2 by omega]
theorem lc_two {ho : List Int} {i j : Nat} {a b b2 : Int} {ta tb ta2 tb2 : Tok} (hoB : ∀ r : Nat, r < 8 → 0 < r → 0 ≤ gI ho r ∧ gI ho r < r) (h : LcP ho i j ((a, ta), (b, tb))) (hne : a ≠ b) (hn : ¬ a > b) (e : b2 = ho.getD b.toNat 0) : LcP ho i j ((a, ta2), (b2, tb2)) ∧ a.toNat + b2.toNat < a.toNat + b.toNat := by
  obtain ⟨a', b', n, e1, e2, h1, h2, h3, h4⟩ := h
  dsimp only at e1 e2
  subst e1 e2
  obtain ⟨q1, q2⟩ := hoB b' h2 (by omega)
  have e' : b2 = gI ho b' := e
  obtain ⟨m, rfl⟩ : ∃ m, n = m + 1 := ⟨n - 1, by omega⟩
  refine ⟨⟨a', b2.toNat, m, rfl, by dsimp only; omega, h1, by omega, by omega, ?_⟩, by omega⟩
  rw [← h4]
  conv => rhs; unfold lcaF
  rw [if_neg hne, if_neg hn, ← e', show ((b2.toNat : Nat) : Int) = b2 by omega]
theorem meet_at {lb fl he ho : List Int} {i j : Nat} (h : MeetOk lb fl he ho i j ∧ meetF lb fl he ho i j = lcaF ho 16 i j) : MeetOk lb fl he ho (0 + (i : Int)) (0 + (j : Int)) := by
  rw [Int.zero_add, Int.zero_add]; exact h.1
theorem rangeSize_i {i : Nat} : Builtin.Range.rangeSize 0 (0 + (i : Int)) 1 = (i : Int) := by
  rw [Int.zero_add]; exact rangeSize_nat _ _
noncomputable def setAll0 (lasts : List Int) (js : List Nat) (r : Nat) : List Int := js.foldl (fun l j => l.set j (r : Int)) lasts
noncomputable def walkAll : Nat → Nat → List Nat → List Int → List Int → Bool
  | 0, _, _, ho, la => checkV ho la
  | n + 1, i, way, ho, la => (List.range way.length).all fun j => fN j fun j => fM (way.take (j + 1) ++ [i]) fun way' => fL (ho ++ [((way.getD j 0 : Nat) : Int)]) fun ho => fL (setAll0 la (way.drop (j + 1)) i) fun la => walkAll n (i + 1) way' ho la
set_option maxRecDepth 100000
set_option maxHeartbeats 8000000
theorem wa_step {n i : Nat} {way : List Nat} {ho la : List Int} (h : ∀ j, j < way.length → walkAll n (i + 1) (way.take (j + 1) ++ [i]) (ho ++ [((way.getD j 0 : Nat) : Int)]) (setAll0 la (way.drop (j + 1)) i) = true) : walkAll (n + 1) i way ho la = true := by
  unfold walkAll
  simp only [fN_eq, fM_eq, fL_eq, List.all_eq_true, List.mem_range]
  exact h
theorem below1 {P : Nat → Prop} (h0 : P 0) : ∀ j, j < 1 → P j := fun j h => by
  obtain rfl : j = 0 := by omega
  exact h0
theorem below2 {P : Nat → Prop} (h0 : P 0) (h1 : P 1) : ∀ j, j < 2 → P j
  | 0, _ => h0
  | 1, _ => h1
  | j + 2, h => absurd h (by omega)
theorem below3 {P : Nat → Prop} (h0 : P 0) (h1 : P 1) (h2 : P 2) : ∀ j, j < 3 → P j
  | 0, _ => h0
  | 1, _ => h1
  | 2, _ => h2
  | j + 3, h => absurd h (by omega)
theorem walk_all : walkAll 7 1 [0] [0] [8, 8, 8, 8, 8, 8, 8, 8] = true :=
  wa_step (below1 (wa_step (below2 (wa_step (below2 (by decide +kernel) (by decide +kernel))) (wa_step (below3 (by decide +kernel) (by decide +kernel) (by decide +kernel))))))
set_option maxRecDepth 100000
set_option maxHeartbeats 8000000
/-- the walk of the tree check reaches what the program reads -/
theorem reach_all {ls : Nat → Nat → Bool} (hw : walkAll 7 1 [0] [0] [8, 8, 8, 8, 8, 8, 8, 8] = true) (h0 : ∀ r, 0 < r → r < 8 → ls 0 r = true) {i : Nat} {way : List Nat} {hooks lasts : List Int} (h : ReadR ls i way hooks lasts) : 1 ≤ i → i ≤ 8 → walkAll (8 - i) i way hooks lasts = true := by
  induction h with
  | zero => intro h; omega
  | @step i way hooks lasts d h hd ih =>
    intro _ hi8
    have rb := readB h h0 (by omega)
    rcases Nat.eq_zero_or_pos i with hi | hi
    · subst hi
      have : way = [] := List.length_eq_zero_iff.mp (by have := rb.n; omega)
      subst this
      have e1 : hooks = [] := List.length_eq_zero_iff.mp rb.h
      subst e1
      have e2 : lasts = [8, 8, 8, 8, 8, 8, 8, 8] := by
        cases h; rfl
      subst e2
      simpa [setAll] using hw
    · have hw' := ih hi (by omega)
      have hdp := depth_pos rb hd (h0 i hi (by omega)) hi
      have hdl := hd.le
      obtain ⟨n, hn⟩ : ∃ n, 8 - i = n + 1 := ⟨7 - i, by omega⟩
      rw [hn] at hw'
      unfold walkAll at hw'
      simp only [List.all_eq_true, List.mem_range, fN_eq, fM_eq, fL_eq] at hw'
      have := hw' (d - 1) (by omega)
      rw [show d - 1 + 1 = d by omega] at this
      rw [show 8 - (i + 1) = n by omega, if_neg (by omega)]
      exact this
/-- the way is the chain of the hooks -/
structure WayIs (i : Nat) (way : List Nat) (hooks : List Int) : Prop where
  last : 0 < i → way[way.length - 1]? = some (i - 1)
  ne : 0 < i → 0 < way.length
  link : ∀ (m j j' : Nat), way[m]? = some j → way[m + 1]? = some j' → hooks[j']? = some (j : Int)
theorem climb_way {lt : Nat → Nat → Bool} {hs : List Int} {i d : Nat} {way : List Nat} {hooks : List Int} (hw : ∀ j ∈ way, j < i) (ha : ∀ r, r < i → hs[r]? = hooks[r]?) (W : WayIs i way hooks) (D : DepthIs lt way i d) (hd : 0 < d) {k : Int} : ∀ (n m j : Nat), m = d - 1 + n → way[m]? = some j → Climb lt hs i (j : Int) k → ∃ q, way[d - 1]? = some q ∧ k = (q : Int)
  | 0, m, j, e, hj, c => by
    subst e
    rcases D.stop with h | ⟨q, h1, h2⟩
    · omega
    · have : q = j := Option.some.inj (h1.symm.trans hj)
      subst this
      cases c with
      | stop _ => exact ⟨_, h1, rfl⟩
      | go h _ _ => rw [Int.toNat_natCast, h2] at h; cases h
  | n + 1, m, j, e, hj, c => by
    have hf : lt j i = false := D.off m j (by omega) hj
    cases c with
    | stop h => rw [Int.toNat_natCast, hf] at h; cases h
    | @go _ k1 _ h h1 c' =>
      rw [Int.toNat_natCast, ha j (hw j (List.mem_of_getElem? hj))] at h1
      have hlt := (List.getElem?_eq_some_iff.mp hj).1
      have hp : way[m - 1]? = some way[m - 1] := List.getElem?_eq_getElem (by omega)
      have hl := W.link (m - 1) _ j hp (by rw [show m - 1 + 1 = m by omega]; exact hj)
      rw [hl] at h1
      have e1 := Option.some.inj h1
      subst e1
      exact climb_way hw ha W D hd n (m - 1) _ (by omega) hp c'
theorem hung_hooks {lt : Nat → Nat → Bool} {hs : List Int} (hH : HungIs lt hs) (h8 : hs.length = 8) (h0 : ∀ r, 0 < r → r < 8 → lt 0 r = true) {i : Nat} {way : List Nat} {hooks lasts : List Int} (h : ReadR lt i way hooks lasts) : i ≤ 8 → (∀ r, r < i → hs[r]? = hooks[r]?) ∧ WayIs i way hooks := by
  induction h with
  | zero => intro _; exact ⟨fun r h => by omega, ⟨fun h => by omega, fun h => by omega, fun m j j' h => by simp at h⟩⟩
  | @step i way hooks lasts d h hd ih =>
    intro hi8
    obtain ⟨ha, W⟩ := ih (by omega)
    have rb := readB h h0 (by omega)
    have hdl := hd.le
    have key : hs[i]? = some (if i = 0 then 0 else ((way.getD (d - 1) 0 : Nat) : Int)) := by
      rcases Nat.eq_zero_or_pos i with hi | hi
      · subst hi
        rw [if_pos rfl]; exact hH.1
      · obtain ⟨k, e1, _, _, c⟩ := hH.2 i hi (by omega)
        have hdp := depth_pos rb hd (h0 i hi (by omega)) hi
        have hl := W.last hi
        have hne := W.ne hi
        have c' : Climb lt hs i ((i - 1 : Nat) : Int) k := by rw [show ((i - 1 : Nat) : Int) = (i : Int) - 1 by omega]; exact c
        obtain ⟨q, e2, e3⟩ := climb_way rb.w ha W hd hdp (way.length - d) (way.length - 1) (i - 1) (by omega) hl c'
        rw [if_neg (by omega), e1, List.getD_eq_getElem?_getD, e2, e3]
        rfl
    have hl1 : (way.take d).length = d := by rw [List.length_take]; omega
    refine ⟨fun r hr => ?_, ⟨fun _ => ?_, fun _ => by simp, fun m j j' h1 h2 => ?_⟩⟩
    · rcases Nat.lt_or_ge r i with h' | h'
      · rw [List.getElem?_append_left (by rw [rb.h]; exact h')]; exact ha r h'
      · have : r = i := by omega
        subst this
        rw [key, List.getElem?_append_right (by rw [rb.h]; exact Nat.le_refl _), rb.h]
        simp
    · rw [List.length_append, List.length_singleton, hl1, List.getElem?_append_right (by omega), hl1]
      simp
    · rcases Nat.lt_or_ge (m + 1) d with h' | h'
      · rw [List.getElem?_append_left (by omega), List.getElem?_take, if_pos (by omega)] at h1 h2
        have hj' := rb.w j' (List.mem_of_getElem? h2)
        rw [List.getElem?_append_left (by rw [rb.h]; exact hj')]
        exact W.link m j j' h1 h2
      · have hm : m + 1 = d := by
          have := (List.getElem?_eq_some_iff.mp h2).1
          rw [List.length_append, hl1, List.length_singleton] at this
          omega
        rw [List.getElem?_append_right (by omega), hl1, show m + 1 - d = 0 by omega] at h2
        have ej : i = j' := by simpa using h2
        subst ej
        rw [List.getElem?_append_left (by omega), List.getElem?_take, if_pos (by omega)] at h1
        have hi0 : 0 < i := Nat.lt_of_le_of_lt (Nat.zero_le _) (rb.w j (List.mem_of_getElem? h1))
        rw [List.getElem?_append_right (by rw [rb.h]; exact Nat.le_refl _), rb.h, Nat.sub_self, if_neg (by omega), List.getD_eq_getElem?_getD, show d - 1 = m by omega, h1]
        rfl
theorem hung_is {lt : Nat → Nat → Bool} {hs : List Int} (hH : HungIs lt hs) (h8 : hs.length = 8) (h0 : ∀ r, 0 < r → r < 8 → lt 0 r = true) {way : List Nat} {hooks lasts : List Int} (h : ReadR lt 8 way hooks lasts) : hs = hooks := by
  obtain ⟨ha, _⟩ := hung_hooks hH h8 h0 h (Nat.le_refl _)
  have rb := readB h h0 (Nat.le_refl _)
  apply List.ext_getElem?
  intro r
  rcases Nat.lt_or_ge r 8 with h' | h'
  · exact ha r h'
  · rw [List.getElem?_eq_none (by omega), List.getElem?_eq_none (by rw [rb.h]; exact h')]
/-- two orders that agree on the eight rows read alike -/
theorem read_congr {ls lt : Nat → Nat → Bool} (he : ∀ j r, j < 8 → r < 8 → ls j r = lt j r) (h0 : ∀ r, 0 < r → r < 8 → ls 0 r = true) {i : Nat} {way : List Nat} {hooks lasts : List Int} (h : ReadR ls i way hooks lasts) : i ≤ 8 → ReadR lt i way hooks lasts := by
  induction h with
  | zero => intro _; exact .zero
  | @step i way hooks lasts d h hd ih =>
    intro hi
    have rb := readB h h0 (by omega)
    refine .step (ih (by omega)) ⟨hd.le, fun j k h1 h2 => ?_, ?_⟩
    · have := rb.w k (List.mem_of_getElem? h2)
      rw [← he k i (by omega) (by omega)]; exact hd.off j k h1 h2
    · rcases hd.stop with h | ⟨k, h1, h2⟩
      · exact .inl h
      · have := rb.w k (List.mem_of_getElem? h1)
        exact .inr ⟨k, h1, by rw [← he k i (by omega) (by omega)]; exact h2⟩
/-- the thirty leads and the empty one -/
noncomputable def LN : List Str := ⟨#[]⟩ :: (List.range 30).map fun n => leadN (n + 2)
noncomputable def rowLtS (x y : Str) : Bool := (ltB (rowF x) (rowF y)).all id
noncomputable def leadOkB (x : Str) : Bool := (x.cps.all fun c => c == 32 || c == 9) && (decide (x.cps.size ≤ 4) && ((x.cps.all (· < 128)) && PyData.strOk x))
theorem ln_ok : LN.all leadOkB = true := by decide +kernel
theorem ln_less : (LN.all fun x => LN.all fun y => lessW x y == rowLtS x y) = true := by decide +kernel
theorem ln_top : ((List.range 30).all fun n => rowLtS ⟨#[]⟩ (leadN (n + 2))) = true := by decide +kernel
theorem leadN_mem {n : Nat} (h : 2 ≤ n ∧ n ≤ 31) : leadN n ∈ LN := by
  refine List.mem_cons_of_mem _ (List.mem_map.mpr ⟨n - 2, List.mem_range.mpr (by omega), ?_⟩)
  rw [show n - 2 + 2 = n by omega]
structure LeadsOk (leads : List Str) : Prop where
  len : leads.length = 8
  hC : ∀ x ∈ leads, ∀ (i ch : Nat), x.cps[i]? = some ch → ch = 32 ∨ ch = 9
  hA : ∀ x ∈ leads, x.cps.all (· < 128) = true
  hL : ∀ x ∈ leads, x.cps.size ≤ 4
  ok : ∀ x ∈ leads, PyData.strOk x = true
  eq : ∀ j r, j < 8 → r < 8 → lsOf leads j r = rowLt (leads.map rowF) j r
  top : ∀ r, 0 < r → r < 8 → rowLt (leads.map rowF) 0 r = true
theorem leads_ok {lv : List Value} {ln : Nat} {leads : List Str} (h : LdP 7 ⟨lv, ln, leads⟩) : LeadsOk leads := by
  obtain ⟨ns, h1, h2, h3⟩ := h
  have h3' : leads = ⟨#[]⟩ :: ns.map leadN := h3
  subst h3'
  have hm : ∀ x ∈ ((⟨#[]⟩ : Str) :: ns.map leadN), x ∈ LN := fun x hx => by
    rcases List.mem_cons.mp hx with rfl | hx
    · exact List.mem_cons_self
    · obtain ⟨n, hn, rfl⟩ := List.mem_map.mp hx
      exact leadN_mem (h2 n hn)
  have hb : ∀ x ∈ ((⟨#[]⟩ : Str) :: ns.map leadN), leadOkB x = true := fun x hx => List.all_eq_true.mp ln_ok x (hm x hx)
  have hlen : ((⟨#[]⟩ : Str) :: ns.map leadN).length = 8 := by rw [List.length_cons, List.length_map, h1]
  have hget : ∀ j, j < 8 → ∃ x ∈ LN, ((⟨#[]⟩ : Str) :: ns.map leadN)[j]? = some x := fun j hj => ⟨_, hm _ (List.getElem_mem (by omega)), List.getElem?_eq_getElem (by omega)⟩
  have hrow : ∀ j r x y, ((⟨#[]⟩ : Str) :: ns.map leadN)[j]? = some x → ((⟨#[]⟩ : Str) :: ns.map leadN)[r]? = some y → rowLt (((⟨#[]⟩ : Str) :: ns.map leadN).map rowF) j r = rowLtS x y := fun j r x y hx hy => by
    unfold rowLt rowLtS
    rw [List.getD_eq_getElem?_getD, List.getD_eq_getElem?_getD, List.getElem?_map, List.getElem?_map, hx, hy]
    rfl
  refine ⟨hlen, fun x hx i ch e => ?_, fun x hx => ?_, fun x hx => ?_, fun x hx => ?_, fun j r hj hr => ?_, fun r h0 h8 => ?_⟩
  · have q := hb x hx
    unfold leadOkB at q
    simp only [Bool.and_eq_true] at q
    have q1 := (Array.all_eq_true_iff_forall_mem.mp q.1) ch (Array.mem_of_getElem? e)
    simpa using q1
  · have q := hb x hx
    unfold leadOkB at q
    simp only [Bool.and_eq_true] at q
    exact q.2.2.1
  · have q := hb x hx
    unfold leadOkB at q
    simp only [Bool.and_eq_true, decide_eq_true_eq] at q
    exact q.2.1
  · have q := hb x hx
    unfold leadOkB at q
    simp only [Bool.and_eq_true] at q
    exact q.2.2.2
  · obtain ⟨x, hx, ex⟩ := hget j hj
    obtain ⟨y, hy, ey⟩ := hget r hr
    have q := List.all_eq_true.mp (List.all_eq_true.mp ln_less x hx) y hy
    rw [ls_get ex ey, hrow j r x y ex ey]
    exact eq_of_beq q
  · have hr : r - 1 < ns.length := by omega
    have ey : ((⟨#[]⟩ : Str) :: ns.map leadN)[r]? = some (leadN ns[r - 1]) := by
      obtain ⟨m, rfl⟩ : ∃ m, r = m + 1 := ⟨r - 1, by omega⟩
      rw [List.getElem?_cons_succ, List.getElem?_map]
      simp only [Nat.add_sub_cancel] at hr ⊢
      rw [List.getElem?_eq_getElem hr]
      rfl
    rw [hrow 0 r _ _ rfl ey]
    have hb2 := h2 _ (List.getElem_mem hr)
    have q := List.all_eq_true.mp ln_top (ns[r - 1] - 2) (List.mem_range.mpr (by omega))
    rwa [show ns[r - 1] - 2 + 2 = ns[r - 1] by omega] at q
theorem LeadsOk.top' {leads : List Str} (h : LeadsOk leads) : ∀ r, 0 < r → r < 8 → lsOf leads 0 r = true := fun r h0 h8 => by rw [h.eq 0 r (by omega) h8]; exact h.top r h0 h8
set_option maxRecDepth 100000
set_option maxHeartbeats 8000000
section
variable {w : World} {p : Program} {loose : List Str} {mean : ExcName → Option Value} {mg mb : Str → Option Value} {dp un : Nat} {gd : Option (List Code)} {outer : List Env} {A₀ : Around} {base g : Heap} {L fa : Addr} {cd : Value} {s : Shared} {Q : Flow → Shared → Prop} {u : Str → Option Value}
variable {SL C LA : Addr} {cv lv : List Value} {cn ln : Nat}
theorem sl_codes {sv : List Value} {ns codes : List Int} (hS : g.IsList SL sv.toArray) (hI : IntsAre sv ns) (iC : IntsAre cv codes) (hc7 : codes.length = 7) (B : Below A₀ base outer g) (X : (hd.heap_1 w.params).In g) (TP : Top p loose mean mg mb g) (hdp : dp + 30 < recursionLimit) (hun : un + 400 < cLine) (F : Fr g L s.heap (kstB u [(Str.ofString "script", .ref SL), (Str.ofString "codes", .ref C)])) (N : News g L s.heap [(C, listOf (List.toArray cv) cn)])
    (k : ∀ u' h' tk' cv' cn' codes', s.toks ≤ tk' → IntsAre cv' codes' → codes'.length = 7 → Fr g L h' (kstB u' [(Str.ofString "script", .ref SL), (Str.ofString "codes", .ref C)]) → News g L h' [(C, listOf (List.toArray cv') cn')] → Q .next { s with heap := h', toks := tk' }) :
    wpAny (model PR w) (lwA w.params dp un gd L fa cd outer) (exec (nth (lwBody w.params) 1) (lwEnv w.params L fa cd)) Q (fun _ _ => False) s := by
  k_with_none
  w_top off
  k_with "m_enter" => ((case kA => exact rfl); (case kF => exact rfl); (case kK => assumption); (case k1 => k_asm); (case k2 => k_asm); (case k3 => k_asm); (case k5 => k_asm); (case k6 => k_is); (case k7 => k_is); (case k8 => walk_at "lt_room"); (case k9 => exact BindsTo.of_eq rfl); (case c5 => decide); (case kB => exact locs rfl); (case c2 => exact rfl); (case c3 => exact rfl); (case c4 => exact rfl); k_whole; intro g' L' h' F' N' B' X' T'; (try dsimp only [List.reverse, List.reverseAux, List.length]))
  k_with "m_pure" => ((case k1 => k_asm); (case k2 => k_asm); (case k3 => k_asm); (case k4 => k_asm); (case kK => first | exact rfl | assumption); (case kd => walk_at "lt_room"); (case ku => walk_at "lt_units"))
  k_with "m_useI" => (walk_at "m_pure"; (case k5 => k_asm); intro t9 h9 tk9 F9 N9; (try dsimp only); (try k_sweep))
  k_with "m_same" => (intro z h2 h3; (try simp only [List.forall_mem_cons, List.not_mem_nil, false_implies, implies_true, and_true, ne_eq, List.contains_cons, List.contains_nil, Bool.or_false, Bool.or_eq_false_iff, beq_eq_false_iff_ne] at h2 h3); simp [kstB, h2, h3])
  k_with "m_useB" => (walk_at "m_pure"; (case k5 => k_asm); intro h9 tk9 F9 N9; (try dsimp only); (try k_sweep))
  k_with "l_idx" => (k_dflt (k_extra "m_idx"))
  k_with "g9" => (k_here; (with_reducible show wpAny _ _ (subscriptTail _ _ (Value.ref _) (Value.int _ _)) _ _ _))
  k_with "a9" => ((case k1 => is_list); (case k3 => omega); (case k5 => omega); (case k6 => with_unfolding_all rfl); k_whole)
  k_with "m_sameN" => (intro z h1 h2 h3; (try simp only [List.forall_mem_cons, List.not_mem_nil, false_implies, implies_true, and_true, ne_eq, List.contains_cons, List.contains_nil, Bool.or_false, Bool.or_eq_false_iff, beq_eq_false_iff_ne] at h2 h3); first | rfl | ((show (if z = _ then _ else _) = _); rw [if_neg h1]; rfl) | (simp [kstB, h1, h2, h3]; done))
  k_with "mul_fits" => (k_extra "m_mul")
  k_with "InvEndN" => (refine stop_ ?_)
  k_with "KswEnd" => (refine stop_ ?_)
  k_with "m_new" => (first | exact List.forall_mem_nil _ | (refine List.forall_mem_cons.mpr ⟨⟨by k_mem, by k_all⟩, ?_⟩; walk_at "m_new"))
  k_with "exec For Name Name cons nil" => (k_here; with_unfolding_all refine wpAny_For ?_)
  k_with "exec For Name Call cons nil" => (k_here; with_unfolding_all refine wpAny_For ?_)
  k_with "exec For Tuple Name cons nil" => (k_here; with_unfolding_all refine wpAny_For ?_)
  k_with "exec For Tuple Call cons nil" => (k_here; with_unfolding_all refine wpAny_For ?_)
  k_with "pyIter ref" => (k_dflt (k_extra "m_iter"))
  k_with "pyIter str" => (k_dflt (k_extra "m_siter"))
  k_with "XEnd" => (dsimp only [XEnd])
  k_with "XEndN" => (refine stop_ ?_)
  k_with "k_all" => (first | (with_reducible assumption) | (refine List.forall_mem_append.mpr ⟨?_, ?_⟩ <;> k_all) | fail "m_all")
  k_with "k_room" => (walk_at "lt_room")
  k_with "k_room" => (walk_at "lt_room")
  k_with "k_units" => (walk_at "lt_units")
  k_with "size_fits" => ((simp only [List.size_toArray, Array.size_push, PySem.sizeLine_eq]); omega)
  k_with "m_perm" => (first | exact List.forall_mem_nil _ | (refine List.forall_mem_cons.mpr ⟨?_, ?_⟩; (focus (k_mem; done)); (focus (walk_at "m_perm"; done))) | (refine List.forall_mem_append.mpr ⟨?_, ?_⟩; (focus (walk_at "m_perm"; done)); (focus (walk_at "m_perm"; done))) | (intro q hq; (repeat first | exact hq | exact List.mem_append_left _ hq | exact List.mem_append_right _ hq | exact List.mem_append_left _ (List.mem_append_left _ hq) | exact List.mem_append_left _ (List.mem_append_right _ hq) | refine List.Mem.tail _ ?_); done) | (trace "heavy m_perm"; intro q hq; simp only [List.mem_cons, List.mem_append, List.not_mem_nil, or_false] at hq ⊢; (repeat' (refine Or.elim hq ?_ ?_ <;> (clear hq; intro hq))) <;> simp [hq]))
  k_with "k_mem" => ((repeat (first | with_reducible assumption | with_reducible exact List.mem_cons_self | with_reducible refine List.mem_cons_of_mem _ ?_ | with_reducible refine List.mem_append_left _ ?_)); done)
  k_with "g37" => skip
  k_with "a37" => ((case N => k_asm); (case h1 => k_mem); (case h2 => k_extra "m_dx"))
  k_with "k_all" => (first | (with_reducible assumption) | (with_reducible refine List.forall_mem_append.mpr ⟨?_, ?_⟩ <;> k_all) | fail "m_all")
  k_with "k_room" => (walk_at "lt_room")
  k_with "loadName" => (k_here; (rename Fr _ _ _ _ => lF9); k_dflt (refine ldX lF9 (by rfl) ?_))
  k_with "k_room" => (walk_at "lt_room")
  k_with "k_units" => (walk_at "lt_units")
  k_with "size_fits" => ((simp only [List.size_toArray, Array.size_push, PySem.sizeLine_eq]); omega)
  k_with "YEnd" => (dsimp only [YEnd])
  k_with "YEndN" => (refine stop_ ?_)
  k_with "exec For Tuple Call cons nil" => (k_here; with_unfolding_all refine wpAny_For ?_)
  k_with "call type:enumerate" => (k_dflt (k_extra "m_enum"))
  k_with "lt_room" => (first | with_unfolding_all exact room2 (j := 0) hdp rfl rfl | with_unfolding_all exact room0 (j := 0) hdp rfl rfl | with_unfolding_all exact room2 (j := 1) hdp rfl rfl | with_unfolding_all exact room0 (j := 1) hdp rfl rfl | with_unfolding_all exact room2 (j := 2) hdp rfl rfl | with_unfolding_all exact room0 (j := 2) hdp rfl rfl | with_unfolding_all exact room2 (j := 3) hdp rfl rfl | with_unfolding_all exact room0 (j := 3) hdp rfl rfl | with_unfolding_all exact room2 (j := 4) hdp rfl rfl | with_unfolding_all exact room0 (j := 4) hdp rfl rfl | with_unfolding_all exact room2 (j := 5) hdp rfl rfl | with_unfolding_all exact room0 (j := 5) hdp rfl rfl | with_unfolding_all exact room2 (j := 6) hdp rfl rfl | with_unfolding_all exact room0 (j := 6) hdp rfl rfl | with_unfolding_all exact room2 (j := 7) hdp rfl rfl | with_unfolding_all exact room0 (j := 7) hdp rfl rfl | (trace "heavy"; ktr_room))
  k_with "lt_units" => (first | with_unfolding_all exact room2 (j := 0) hun rfl rfl | with_unfolding_all exact room0 (j := 0) hun rfl rfl | with_unfolding_all exact room2 (j := 1) hun rfl rfl | with_unfolding_all exact room0 (j := 1) hun rfl rfl | with_unfolding_all exact room2 (j := 2) hun rfl rfl | with_unfolding_all exact room0 (j := 2) hun rfl rfl | with_unfolding_all exact room2 (j := 3) hun rfl rfl | with_unfolding_all exact room0 (j := 3) hun rfl rfl | with_unfolding_all exact room2 (j := 4) hun rfl rfl | with_unfolding_all exact room0 (j := 4) hun rfl rfl | with_unfolding_all exact room2 (j := 5) hun rfl rfl | with_unfolding_all exact room0 (j := 5) hun rfl rfl | with_unfolding_all exact room2 (j := 6) hun rfl rfl | with_unfolding_all exact room0 (j := 6) hun rfl rfl | with_unfolding_all exact room2 (j := 7) hun rfl rfl | with_unfolding_all exact room0 (j := 7) hun rfl rfl | (trace "heavy"; ktr_units))
  have kMark : KstMark := kstMark
  refine toks_ ?_
  conv in nth _ _ => whnf
  unfold lwA lwEnv
  generalize hsc : (fdAt w.params 258).scope = sc
  conv at hsc => lhs; whnf
  subst hsc
  dsimp only [kstB] at F
  k_with "m_enum" => ((rename Fr _ _ _ _ => lF9); (rename News _ _ _ _ => lN9); (refine' y_enum (σ := CdS) (fun c => [(C, listOf c.cv.toArray c.cn)]) (fun _ => [(Str.ofString "script", .ref SL), (Str.ofString "codes", .ref C)]) (fun c => IntsAre c.cv c.codes ∧ c.codes.length = 7) (fun _ _ => True) (fun _ => 0) (⟨cv, cn, codes⟩) ?hl ?hh lF9 ?lN9 ?hf ?hps ?hp ?htb ?hE (fun c i T ti v kU kH kTk kOwn kIt kTup kOff kInts kInv kTB kFr kNews => ?turn) (fun c kU kH kTk kInts kInv kTB kFr kNews => ?done)); (case hl => exact hS); (case hh => rfl); (case lN9 => exact lN9); (case hf => exact ⟨iC, hc7⟩); (case hps => kst_all); (case hp => trivial); (case htb => exact Nat.zero_le _); (case hE => passes_own); (clear lF9 lN9); (all_goals (obtain ⟨cv1, cn1, codes1⟩ := c; (try dsimp only [kstB] at kFr); (try simp only [List.cons_append, List.nil_append] at kNews); dsimp only at kInts; obtain ⟨kI1, kI7⟩ := kInts)); (case' turn => (obtain ⟨z, tz, rfl, _⟩ := ints_at hI (by simpa using kIt); (try dsimp only at kOff); (simp only [List.forall_mem_cons] at kOff); (obtain ⟨ko1, ko2⟩ := kOff); (have hm7 := fmod7 (i : Int)))))
  k_with "m_idx" => omega
  k_steps
  case' done =>
    refine Stop.mk fun hle => ?_
    refine' k _ _ _ _ _ _ hle kI1 kI7 (fr_names ?ha ?hF) kNews
    case hF => assumption
    case ha => kst_all
  · rename News _ _ _ _ => nE
    rename IntsAre _ _ => hI9
    refine Stop.mk (yend_ (σ := CdS) ⟨_, cn1, _⟩ (by assumption) nE ?hn ?ho ?hd ⟨hI9, by rw [List.length_set]; exact kI7⟩ (by kst_all) trivial fun _ => Nat.zero_le _)
    case hn => exact fun p hp => by rw [List.mem_singleton.mp hp]; exact .head _
    case ho => exact fun p hp => .tail _ hp
    case hd => exact List.forall_mem_cons.mpr ⟨ko1, fun _ h => nomatch h⟩
end
set_option maxRecDepth 100000
set_option maxHeartbeats 8000000
local macro_rules | `(tactic| walk_at "binaryOp Add str str") => `(tactic| (k_extra "g49"; k_dflt (refine' add_str ?_ ?hsz; k_extra "a49"); k_extra "b49"))
section
variable {w : World} {p : Program} {loose : List Str} {mean : ExcName → Option Value} {mg mb : Str → Option Value} {dp un : Nat} {gd : Option (List Code)} {outer : List Env} {A₀ : Around} {base g : Heap} {L fa : Addr} {cd : Value} {s : Shared} {Q : Flow → Shared → Prop} {u : Str → Option Value}
variable {SL C LA : Addr} {cv lv : List Value} {cn ln : Nat}
theorem sl_leads {codes : List Int} (iC : IntsAre cv codes) (hc7 : codes.length = 7) (nLC : @Ne Nat LA C) (iL : StrsAre lv [⟨#[]⟩]) (B : Below A₀ base outer g) (X : (hd.heap_1 w.params).In g) (TP : Top p loose mean mg mb g) (hdp : dp + 30 < recursionLimit) (hun : un + 400 < cLine) (F : Fr g L s.heap (kstB u [(Str.ofString "script", .ref SL), (Str.ofString "codes", .ref C), (Str.ofString "leads", .ref LA)])) (N : News g L s.heap [(LA, listOf (List.toArray lv) ln), (C, listOf (List.toArray cv) cn)])
    (k : ∀ u' h' tk' lv' ln' leads', s.toks ≤ tk' → StrsAre lv' leads' → LdP 7 ⟨lv', ln', leads'⟩ → Fr g L h' (kstB u' [(Str.ofString "script", .ref SL), (Str.ofString "codes", .ref C), (Str.ofString "leads", .ref LA)]) → News g L h' [(LA, listOf (List.toArray lv') ln')] → Q .next { s with heap := h', toks := tk' }) :
    wpAny (model PR w) (lwA w.params dp un gd L fa cd outer) (exec (nth (lwBody w.params) 3) (lwEnv w.params L fa cd)) Q (fun _ _ => False) s := by
  k_with_none
  w_top off
  k_with "m_enter" => ((case kA => exact rfl); (case kF => exact rfl); (case kK => assumption); (case k1 => k_asm); (case k2 => k_asm); (case k3 => k_asm); (case k5 => k_asm); (case k6 => k_is); (case k7 => k_is); (case k8 => walk_at "lt_room"); (case k9 => exact BindsTo.of_eq rfl); (case c5 => decide); (case kB => exact locs rfl); (case c2 => exact rfl); (case c3 => exact rfl); (case c4 => exact rfl); k_whole; intro g' L' h' F' N' B' X' T'; (try dsimp only [List.reverse, List.reverseAux, List.length]))
  k_with "m_pure" => ((case k1 => k_asm); (case k2 => k_asm); (case k3 => k_asm); (case k4 => k_asm); (case kK => first | exact rfl | assumption); (case kd => walk_at "lt_room"); (case ku => walk_at "lt_units"))
  k_with "m_useI" => (walk_at "m_pure"; (case k5 => k_asm); intro t9 h9 tk9 F9 N9; (try dsimp only); (try k_sweep))
  k_with "m_same" => (intro z h2 h3; (try simp only [List.forall_mem_cons, List.not_mem_nil, false_implies, implies_true, and_true, ne_eq, List.contains_cons, List.contains_nil, Bool.or_false, Bool.or_eq_false_iff, beq_eq_false_iff_ne] at h2 h3); simp [kstB, h2, h3])
  k_with "m_useB" => (walk_at "m_pure"; (case k5 => k_asm); intro h9 tk9 F9 N9; (try dsimp only); (try k_sweep))
  k_with "l_idx" => (k_dflt (k_extra "m_idx"))
  k_with "g9" => (k_here; (with_reducible show wpAny _ _ (subscriptTail _ _ (Value.ref _) (Value.int _ _)) _ _ _))
  k_with "a9" => ((case k1 => is_list); (case k3 => omega); (case k5 => omega); (case k6 => with_unfolding_all rfl); k_whole)
  k_with "m_sameN" => (intro z h1 h2 h3; (try simp only [List.forall_mem_cons, List.not_mem_nil, false_implies, implies_true, and_true, ne_eq, List.contains_cons, List.contains_nil, Bool.or_false, Bool.or_eq_false_iff, beq_eq_false_iff_ne] at h2 h3); first | rfl | ((show (if z = _ then _ else _) = _); rw [if_neg h1]; rfl) | (simp [kstB, h1, h2, h3]; done))
  k_with "mul_fits" => (k_extra "m_mul")
  k_with "InvEndN" => (refine stop_ ?_)
  k_with "KswEnd" => (refine stop_ ?_)
  k_with "m_new" => (first | exact List.forall_mem_nil _ | (refine List.forall_mem_cons.mpr ⟨⟨by k_mem, by k_all⟩, ?_⟩; walk_at "m_new"))
  k_with "exec For Name Name cons nil" => (k_here; with_unfolding_all refine wpAny_For ?_)
  k_with "exec For Name Call cons nil" => (k_here; with_unfolding_all refine wpAny_For ?_)
  k_with "exec For Tuple Name cons nil" => (k_here; with_unfolding_all refine wpAny_For ?_)
  k_with "exec For Tuple Call cons nil" => (k_here; with_unfolding_all refine wpAny_For ?_)
  k_with "pyIter ref" => (k_dflt (k_extra "m_iter"))
  k_with "pyIter str" => (k_dflt (k_extra "m_siter"))
  k_with "XEnd" => (dsimp only [XEnd])
  k_with "XEndN" => (refine stop_ ?_)
  k_with "k_all" => (first | (with_reducible assumption) | (refine List.forall_mem_append.mpr ⟨?_, ?_⟩ <;> k_all) | fail "m_all")
  k_with "k_room" => (walk_at "lt_room")
  k_with "k_room" => (walk_at "lt_room")
  k_with "k_units" => (walk_at "lt_units")
  k_with "size_fits" => ((simp only [List.size_toArray, Array.size_push, PySem.sizeLine_eq]); omega)
  k_with "m_perm" => (first | exact List.forall_mem_nil _ | (refine List.forall_mem_cons.mpr ⟨?_, ?_⟩; (focus (k_mem; done)); (focus (walk_at "m_perm"; done))) | (refine List.forall_mem_append.mpr ⟨?_, ?_⟩; (focus (walk_at "m_perm"; done)); (focus (walk_at "m_perm"; done))) | (intro q hq; (repeat first | exact hq | exact List.mem_append_left _ hq | exact List.mem_append_right _ hq | exact List.mem_append_left _ (List.mem_append_left _ hq) | exact List.mem_append_left _ (List.mem_append_right _ hq) | refine List.Mem.tail _ ?_); done) | (trace "heavy m_perm"; intro q hq; simp only [List.mem_cons, List.mem_append, List.not_mem_nil, or_false] at hq ⊢; (repeat' (refine Or.elim hq ?_ ?_ <;> (clear hq; intro hq))) <;> simp [hq]))
  k_with "k_mem" => ((repeat (first | with_reducible assumption | with_reducible exact List.mem_cons_self | with_reducible refine List.mem_cons_of_mem _ ?_ | with_reducible refine List.mem_append_left _ ?_)); done)
  k_with "g37" => skip
  k_with "a37" => ((case N => k_asm); (case h1 => k_mem); (case h2 => k_extra "m_dx"))
  k_with "k_all" => (first | (with_reducible assumption) | (with_reducible refine List.forall_mem_append.mpr ⟨?_, ?_⟩ <;> k_all) | fail "m_all")
  k_with "k_room" => (walk_at "lt_room")
  k_with "loadName" => (k_here; (rename Fr _ _ _ _ => lF9); k_dflt (refine ldX lF9 (by rfl) ?_))
  k_with "k_room" => (walk_at "lt_room")
  k_with "k_units" => (walk_at "lt_units")
  k_with "size_fits" => ((simp only [List.size_toArray, Array.size_push, PySem.sizeLine_eq]); omega)
  k_with "YEnd" => (dsimp only [YEnd])
  k_with "YEndN" => (refine stop_ ?_)
  k_with "g49" => (k_here)
  k_with "a49" => ((case hsz => k_extra "m_len"))
  k_with "b49" => (intro nt9 ntk9)
  k_with "exec For Name Name cons nil" => (k_here; with_unfolding_all refine wpAny_For ?_)
  k_with "pyIter ref" => (k_dflt (k_extra "m_iter"))
  k_with "exec While Compare cons nil" => (k_extra "m_while")
  k_with "lt_room" => (first | with_unfolding_all exact room2 (j := 0) hdp rfl rfl | with_unfolding_all exact room0 (j := 0) hdp rfl rfl | with_unfolding_all exact room2 (j := 1) hdp rfl rfl | with_unfolding_all exact room0 (j := 1) hdp rfl rfl | with_unfolding_all exact room2 (j := 2) hdp rfl rfl | with_unfolding_all exact room0 (j := 2) hdp rfl rfl | with_unfolding_all exact room2 (j := 3) hdp rfl rfl | with_unfolding_all exact room0 (j := 3) hdp rfl rfl | with_unfolding_all exact room2 (j := 4) hdp rfl rfl | with_unfolding_all exact room0 (j := 4) hdp rfl rfl | with_unfolding_all exact room2 (j := 5) hdp rfl rfl | with_unfolding_all exact room0 (j := 5) hdp rfl rfl | with_unfolding_all exact room2 (j := 6) hdp rfl rfl | with_unfolding_all exact room0 (j := 6) hdp rfl rfl | with_unfolding_all exact room2 (j := 7) hdp rfl rfl | with_unfolding_all exact room0 (j := 7) hdp rfl rfl | (trace "heavy"; ktr_room))
  k_with "lt_units" => (first | with_unfolding_all exact room2 (j := 0) hun rfl rfl | with_unfolding_all exact room0 (j := 0) hun rfl rfl | with_unfolding_all exact room2 (j := 1) hun rfl rfl | with_unfolding_all exact room0 (j := 1) hun rfl rfl | with_unfolding_all exact room2 (j := 2) hun rfl rfl | with_unfolding_all exact room0 (j := 2) hun rfl rfl | with_unfolding_all exact room2 (j := 3) hun rfl rfl | with_unfolding_all exact room0 (j := 3) hun rfl rfl | with_unfolding_all exact room2 (j := 4) hun rfl rfl | with_unfolding_all exact room0 (j := 4) hun rfl rfl | with_unfolding_all exact room2 (j := 5) hun rfl rfl | with_unfolding_all exact room0 (j := 5) hun rfl rfl | with_unfolding_all exact room2 (j := 6) hun rfl rfl | with_unfolding_all exact room0 (j := 6) hun rfl rfl | with_unfolding_all exact room2 (j := 7) hun rfl rfl | with_unfolding_all exact room0 (j := 7) hun rfl rfl | (trace "heavy"; ktr_units))
  have kMark : KstMark := kstMark
  refine toks_ ?_
  conv in nth _ _ => whnf
  unfold lwA lwEnv
  generalize hsc : (fdAt w.params 258).scope = sc
  conv at hsc => lhs; whnf
  subst hsc
  dsimp only [kstB] at F
  k_with "m_iter" => ((rename Fr _ _ _ _ => lF9); (rename News _ _ _ _ => lN9); (refine' y_list (σ := LdS) (fun c => [(LA, listOf c.lv.toArray c.ln), (C, listOf (List.toArray cv) cn)]) (fun _ => [(Str.ofString "script", .ref SL), (Str.ofString "codes", .ref C), (Str.ofString "leads", .ref LA)]) (fun c => StrsAre c.lv c.leads) (LdP) (fun _ => 0) (⟨lv, ln, [⟨#[]⟩]⟩) ([(C, listOf (List.toArray cv) cn)]) ?hgo ?hl ?hh ?hkl ?hk ?h0 lF9 ?lN9 ?hL ?hf ?hps ?hp ?htb ?hE (fun c i v kU kH kTk kOwn kIt kOff kInts kInv kTB kFr kNews => ?turn) (fun c kU kH kTk kInts kInv kTB kFr kNews => ?done)); (case hh => rfl); (case hE => passes_own); (case hgo => exact .inl ⟨_, _, rfl⟩); (case hl => exact ⟨_, (lN9 _ (.tail _ (.head _))).1, rfl, _, rfl⟩); (case hkl => exact (fun p hp => by rw [List.mem_singleton.mp hp])); (case hk => exact (fun c p hp => by rw [List.mem_singleton.mp hp]; exact .tail _ (.head _))); (case h0 => exact one_obj lN9 (.tail _ (.head _))); (case lN9 => exact lN9); (case hL => exact Ne.symm (lN9 _ (.tail _ (.head _))).2.1); (case hf => exact iL); (case hps => kst_all); (case hp => exact ⟨[], rfl, (fun _ h => nomatch h), rfl⟩); (case htb => exact Nat.zero_le _); (clear lF9 lN9); (all_goals (obtain ⟨lv1, ln1, leads1⟩ := c; (try dsimp only [kstB] at kFr); (try simp only [List.cons_append, List.nil_append] at kNews); dsimp only at kInts)); (case' turn => (obtain ⟨z, tz, rfl, _⟩ := ints_at iC (by simpa using kIt); (have ki7 := (List.getElem?_eq_some_iff.mp (by assumption)).1); (try dsimp only at kOff); (simp only [List.forall_mem_cons] at kOff); (obtain ⟨ko1, ko2, ko3⟩ := kOff); (have kLn := ldP_len kInv kInts))))
  k_with "m_while" => ((rename Fr _ _ _ _ => lF9); (rename News _ _ _ _ => lN9); (refine' ksw_while (σ := (Str × Tok) × (Int × Tok)) (fun _ => _) (fun c => [(Str.ofString "lead", Value.str c.1.1 c.1.2), (Str.ofString "shape", Value.int c.2.1 c.2.2)]) (fun _ => True) [] (ShP (Int.fmod z 30 + 2).toNat) (fun c => c.2.1.toNat) ((_, _), (_, _)) lF9 ?wlN ?whf ?whk ?whp (fun c kU3 kH3 kTk3 kFacts3 kWh kFr kNews => ?wturn)); (case wlN => exact lN9); (case whf => trivial); (case whk => kst_all); (case whp => exact sh_0 _); (clear lF9 lN9); (obtain ⟨⟨x3, tx3⟩, ⟨q, tq⟩⟩ := c); (dsimp only [kstB] at kFr); (obtain ⟨kW1, kW2, kW3⟩ := sh_open kWh); (have hm2 := fmod2 q))
  k_with "m_len" => (rw [sizeLine_eq]; omega)
  k_with "m_idx" => omega
  k_steps
  case' done =>
    refine Stop.mk fun hle => ?_
    have e7 : cv.toArray.size = 7 := by rw [List.size_toArray, iC.length, hc7]
    rw [e7] at kInv
    refine' k _ _ _ _ _ _ hle kInts kInv (fr_names ?ha ?hF) (kst_newsOf kNews ?hS)
    case hF => assumption
    case ha => kst_all
    case hS => walk_at "m_perm"
  · refine Stop.mk (ksw_end (σ := (Str × Tok) × (Int × Tok)) ((_, _), (_, _)) (by assumption) (by assumption) ?hn6 trivial (by kst_all) (by walk_at "m_same") (sh_1 kWh (by omega) rfl rfl).1 (sh_1 (t' := 0) (u' := 0) kWh (by omega) rfl rfl).2)
    case hn6 => first | kst_in | kst_inAny
  · have eL := sh_end kWh (by omega)
    rename News _ _ _ _ => nE
    simp only [List.push_toArray] at nE
    refine Stop.mk (yend_ (σ := LdS) ⟨lv1 ++ [.str x3 tx3], ln1 + 1, leads1 ++ [x3]⟩ (by assumption) nE ?hn ?ho ?hd (strs_snoc kInts) (by kst_all) (by rw [eL]; exact ldP_step kInv) fun _ => Nat.zero_le _)
    case hn => walk_at "m_perm"
    case ho => walk_at "m_perm"
    case hd => exact List.forall_mem_cons.mpr ⟨ko1, List.forall_mem_cons.mpr ⟨ko2, fun _ h => nomatch h⟩⟩
end
set_option maxRecDepth 100000
set_option maxHeartbeats 8000000
section
variable {w : World} {p : Program} {loose : List Str} {mean : ExcName → Option Value} {mg mb : Str → Option Value} {dp un : Nat} {gd : Option (List Code)} {outer : List Env} {A₀ : Around} {base g : Heap} {L fa : Addr} {cd : Value} {s : Shared} {Q : Flow → Shared → Prop} {u : Str → Option Value}
variable {SL C LA : Addr} {cv lv : List Value} {cn ln : Nat}
theorem sl_0  (B : Below A₀ base outer g) (X : (hd.heap_1 w.params).In g) (TP : Top p loose mean mg mb g) (hdp : dp + 30 < recursionLimit) (hun : un + 400 < cLine) (F : Fr g L s.heap (kstB u [(Str.ofString "script", .ref SL)])) (N : News g L s.heap [])
    (k : ∀ u' h' tk' C' cv' cn' codes', s.toks ≤ tk' → IntsAre cv' codes' → codes'.length = 7 → Fr g L h' (kstB u' [(Str.ofString "script", .ref SL), (Str.ofString "codes", .ref C')]) → News g L h' [(C', listOf (List.toArray cv') cn')] → Q .next { s with heap := h', toks := tk' }) :
    wpAny (model PR w) (lwA w.params dp un gd L fa cd outer) (exec (nth (lwBody w.params) 0) (lwEnv w.params L fa cd)) Q (fun _ _ => False) s := by
  k_with_none
  w_top off
  k_with "m_enter" => ((case kA => exact rfl); (case kF => exact rfl); (case kK => assumption); (case k1 => k_asm); (case k2 => k_asm); (case k3 => k_asm); (case k5 => k_asm); (case k6 => k_is); (case k7 => k_is); (case k8 => walk_at "lt_room"); (case k9 => exact BindsTo.of_eq rfl); (case c5 => decide); (case kB => exact locs rfl); (case c2 => exact rfl); (case c3 => exact rfl); (case c4 => exact rfl); k_whole; intro g' L' h' F' N' B' X' T'; (try dsimp only [List.reverse, List.reverseAux, List.length]))
  k_with "m_pure" => ((case k1 => k_asm); (case k2 => k_asm); (case k3 => k_asm); (case k4 => k_asm); (case kK => first | exact rfl | assumption); (case kd => walk_at "lt_room"); (case ku => walk_at "lt_units"))
  k_with "m_useI" => (walk_at "m_pure"; (case k5 => k_asm); intro t9 h9 tk9 F9 N9; (try dsimp only); (try k_sweep))
  k_with "m_same" => (intro z h2 h3; (try simp only [List.forall_mem_cons, List.not_mem_nil, false_implies, implies_true, and_true, ne_eq, List.contains_cons, List.contains_nil, Bool.or_false, Bool.or_eq_false_iff, beq_eq_false_iff_ne] at h2 h3); simp [kstB, h2, h3])
  k_with "m_useB" => (walk_at "m_pure"; (case k5 => k_asm); intro h9 tk9 F9 N9; (try dsimp only); (try k_sweep))
  k_with "l_idx" => (k_dflt (k_extra "m_idx"))
  k_with "g9" => (k_here; (with_reducible show wpAny _ _ (subscriptTail _ _ (Value.ref _) (Value.int _ _)) _ _ _))
  k_with "a9" => ((case k1 => is_list); (case k3 => omega); (case k5 => omega); (case k6 => with_unfolding_all rfl); k_whole)
  k_with "m_sameN" => (intro z h1 h2 h3; (try simp only [List.forall_mem_cons, List.not_mem_nil, false_implies, implies_true, and_true, ne_eq, List.contains_cons, List.contains_nil, Bool.or_false, Bool.or_eq_false_iff, beq_eq_false_iff_ne] at h2 h3); first | rfl | ((show (if z = _ then _ else _) = _); rw [if_neg h1]; rfl) | (simp [kstB, h1, h2, h3]; done))
  k_with "mul_fits" => (k_extra "m_mul")
  k_with "InvEndN" => (refine stop_ ?_)
  k_with "KswEnd" => (refine stop_ ?_)
  k_with "m_new" => (first | exact List.forall_mem_nil _ | (refine List.forall_mem_cons.mpr ⟨⟨by k_mem, by k_all⟩, ?_⟩; walk_at "m_new"))
  k_with "exec For Name Name cons nil" => (k_here; with_unfolding_all refine wpAny_For ?_)
  k_with "exec For Name Call cons nil" => (k_here; with_unfolding_all refine wpAny_For ?_)
  k_with "exec For Tuple Name cons nil" => (k_here; with_unfolding_all refine wpAny_For ?_)
  k_with "exec For Tuple Call cons nil" => (k_here; with_unfolding_all refine wpAny_For ?_)
  k_with "pyIter ref" => (k_dflt (k_extra "m_iter"))
  k_with "pyIter str" => (k_dflt (k_extra "m_siter"))
  k_with "XEnd" => (dsimp only [XEnd])
  k_with "XEndN" => (refine stop_ ?_)
  k_with "k_all" => (first | (with_reducible assumption) | (refine List.forall_mem_append.mpr ⟨?_, ?_⟩ <;> k_all) | fail "m_all")
  k_with "k_room" => (walk_at "lt_room")
  k_with "k_room" => (walk_at "lt_room")
  k_with "k_units" => (walk_at "lt_units")
  k_with "size_fits" => ((simp only [List.size_toArray, Array.size_push, PySem.sizeLine_eq]); omega)
  k_with "m_perm" => (first | exact List.forall_mem_nil _ | (refine List.forall_mem_cons.mpr ⟨?_, ?_⟩; (focus (k_mem; done)); (focus (walk_at "m_perm"; done))) | (refine List.forall_mem_append.mpr ⟨?_, ?_⟩; (focus (walk_at "m_perm"; done)); (focus (walk_at "m_perm"; done))) | (intro q hq; (repeat first | exact hq | exact List.mem_append_left _ hq | exact List.mem_append_right _ hq | exact List.mem_append_left _ (List.mem_append_left _ hq) | exact List.mem_append_left _ (List.mem_append_right _ hq) | refine List.Mem.tail _ ?_); done) | (trace "heavy m_perm"; intro q hq; simp only [List.mem_cons, List.mem_append, List.not_mem_nil, or_false] at hq ⊢; (repeat' (refine Or.elim hq ?_ ?_ <;> (clear hq; intro hq))) <;> simp [hq]))
  k_with "k_mem" => ((repeat (first | with_reducible assumption | with_reducible exact List.mem_cons_self | with_reducible refine List.mem_cons_of_mem _ ?_ | with_reducible refine List.mem_append_left _ ?_)); done)
  k_with "g37" => skip
  k_with "a37" => ((case N => k_asm); (case h1 => k_mem); (case h2 => k_extra "m_dx"))
  k_with "k_all" => (first | (with_reducible assumption) | (with_reducible refine List.forall_mem_append.mpr ⟨?_, ?_⟩ <;> k_all) | fail "m_all")
  k_with "k_room" => (walk_at "lt_room")
  k_with "loadName" => (k_here; (rename Fr _ _ _ _ => lF9); k_dflt (refine ldX lF9 (by rfl) ?_))
  k_with "k_room" => (walk_at "lt_room")
  k_with "k_units" => (walk_at "lt_units")
  k_with "size_fits" => ((simp only [List.size_toArray, Array.size_push, PySem.sizeLine_eq]); omega)
  k_with "YEnd" => (dsimp only [YEnd])
  k_with "YEndN" => (refine stop_ ?_)
  k_with "lt_room" => (first | with_unfolding_all exact room2 (j := 0) hdp rfl rfl | with_unfolding_all exact room0 (j := 0) hdp rfl rfl | with_unfolding_all exact room2 (j := 1) hdp rfl rfl | with_unfolding_all exact room0 (j := 1) hdp rfl rfl | with_unfolding_all exact room2 (j := 2) hdp rfl rfl | with_unfolding_all exact room0 (j := 2) hdp rfl rfl | with_unfolding_all exact room2 (j := 3) hdp rfl rfl | with_unfolding_all exact room0 (j := 3) hdp rfl rfl | with_unfolding_all exact room2 (j := 4) hdp rfl rfl | with_unfolding_all exact room0 (j := 4) hdp rfl rfl | with_unfolding_all exact room2 (j := 5) hdp rfl rfl | with_unfolding_all exact room0 (j := 5) hdp rfl rfl | with_unfolding_all exact room2 (j := 6) hdp rfl rfl | with_unfolding_all exact room0 (j := 6) hdp rfl rfl | with_unfolding_all exact room2 (j := 7) hdp rfl rfl | with_unfolding_all exact room0 (j := 7) hdp rfl rfl | (trace "heavy"; ktr_room))
  k_with "lt_units" => (first | with_unfolding_all exact room2 (j := 0) hun rfl rfl | with_unfolding_all exact room0 (j := 0) hun rfl rfl | with_unfolding_all exact room2 (j := 1) hun rfl rfl | with_unfolding_all exact room0 (j := 1) hun rfl rfl | with_unfolding_all exact room2 (j := 2) hun rfl rfl | with_unfolding_all exact room0 (j := 2) hun rfl rfl | with_unfolding_all exact room2 (j := 3) hun rfl rfl | with_unfolding_all exact room0 (j := 3) hun rfl rfl | with_unfolding_all exact room2 (j := 4) hun rfl rfl | with_unfolding_all exact room0 (j := 4) hun rfl rfl | with_unfolding_all exact room2 (j := 5) hun rfl rfl | with_unfolding_all exact room0 (j := 5) hun rfl rfl | with_unfolding_all exact room2 (j := 6) hun rfl rfl | with_unfolding_all exact room0 (j := 6) hun rfl rfl | with_unfolding_all exact room2 (j := 7) hun rfl rfl | with_unfolding_all exact room0 (j := 7) hun rfl rfl | (trace "heavy"; ktr_units))
  have kMark : KstMark := kstMark
  refine toks_ ?_
  conv in nth _ _ => whnf
  unfold lwA lwEnv
  generalize hsc : (fdAt w.params 258).scope = sc
  conv at hsc => lhs; whnf
  subst hsc
  dsimp only [kstB] at F
  k_steps
  refine Stop.mk fun hle => ?_
  rename News _ _ _ _ => nE
  obtain ⟨cv', ec⟩ := codes_cap nE
  rw [← ec] at nE
  refine' k _ _ _ _ cv' _ [0, 2, 2, 0, 2, 4, 5] hle ?hi rfl (fr_names ?ha ?hF) nE
  case hi => (rw [ec]; exact .cons _ _ (.cons _ _ (.cons _ _ (.cons _ _ (.cons _ _ (.cons _ _ (.cons _ _ .nil)))))))
  case hF => assumption
  case ha => kst_all
theorem sl_2  (B : Below A₀ base outer g) (X : (hd.heap_1 w.params).In g) (TP : Top p loose mean mg mb g) (hdp : dp + 30 < recursionLimit) (hun : un + 400 < cLine) (F : Fr g L s.heap (kstB u [(Str.ofString "script", .ref SL), (Str.ofString "codes", .ref C)])) (N : News g L s.heap [(C, listOf (List.toArray cv) cn)])
    (k : ∀ u' h' tk' LA' lv' ln', s.toks ≤ tk' → @Ne Nat LA' C → StrsAre lv' [⟨#[]⟩] → Fr g L h' (kstB u' [(Str.ofString "script", .ref SL), (Str.ofString "codes", .ref C), (Str.ofString "leads", .ref LA')]) → News g L h' [(LA', listOf (List.toArray lv') ln'), (C, listOf (List.toArray cv) cn)] → Q .next { s with heap := h', toks := tk' }) :
    wpAny (model PR w) (lwA w.params dp un gd L fa cd outer) (exec (nth (lwBody w.params) 2) (lwEnv w.params L fa cd)) Q (fun _ _ => False) s := by
  k_with_none
  w_top off
  k_with "m_enter" => ((case kA => exact rfl); (case kF => exact rfl); (case kK => assumption); (case k1 => k_asm); (case k2 => k_asm); (case k3 => k_asm); (case k5 => k_asm); (case k6 => k_is); (case k7 => k_is); (case k8 => walk_at "lt_room"); (case k9 => exact BindsTo.of_eq rfl); (case c5 => decide); (case kB => exact locs rfl); (case c2 => exact rfl); (case c3 => exact rfl); (case c4 => exact rfl); k_whole; intro g' L' h' F' N' B' X' T'; (try dsimp only [List.reverse, List.reverseAux, List.length]))
  k_with "m_pure" => ((case k1 => k_asm); (case k2 => k_asm); (case k3 => k_asm); (case k4 => k_asm); (case kK => first | exact rfl | assumption); (case kd => walk_at "lt_room"); (case ku => walk_at "lt_units"))
  k_with "m_useI" => (walk_at "m_pure"; (case k5 => k_asm); intro t9 h9 tk9 F9 N9; (try dsimp only); (try k_sweep))
  k_with "m_same" => (intro z h2 h3; (try simp only [List.forall_mem_cons, List.not_mem_nil, false_implies, implies_true, and_true, ne_eq, List.contains_cons, List.contains_nil, Bool.or_false, Bool.or_eq_false_iff, beq_eq_false_iff_ne] at h2 h3); simp [kstB, h2, h3])
  k_with "m_useB" => (walk_at "m_pure"; (case k5 => k_asm); intro h9 tk9 F9 N9; (try dsimp only); (try k_sweep))
  k_with "l_idx" => (k_dflt (k_extra "m_idx"))
  k_with "g9" => (k_here; (with_reducible show wpAny _ _ (subscriptTail _ _ (Value.ref _) (Value.int _ _)) _ _ _))
  k_with "a9" => ((case k1 => is_list); (case k3 => omega); (case k5 => omega); (case k6 => with_unfolding_all rfl); k_whole)
  k_with "m_sameN" => (intro z h1 h2 h3; (try simp only [List.forall_mem_cons, List.not_mem_nil, false_implies, implies_true, and_true, ne_eq, List.contains_cons, List.contains_nil, Bool.or_false, Bool.or_eq_false_iff, beq_eq_false_iff_ne] at h2 h3); first | rfl | ((show (if z = _ then _ else _) = _); rw [if_neg h1]; rfl) | (simp [kstB, h1, h2, h3]; done))
  k_with "mul_fits" => (k_extra "m_mul")
  k_with "InvEndN" => (refine stop_ ?_)
  k_with "KswEnd" => (refine stop_ ?_)
  k_with "m_new" => (first | exact List.forall_mem_nil _ | (refine List.forall_mem_cons.mpr ⟨⟨by k_mem, by k_all⟩, ?_⟩; walk_at "m_new"))
  k_with "exec For Name Name cons nil" => (k_here; with_unfolding_all refine wpAny_For ?_)
  k_with "exec For Name Call cons nil" => (k_here; with_unfolding_all refine wpAny_For ?_)
  k_with "exec For Tuple Name cons nil" => (k_here; with_unfolding_all refine wpAny_For ?_)
  k_with "exec For Tuple Call cons nil" => (k_here; with_unfolding_all refine wpAny_For ?_)
  k_with "pyIter ref" => (k_dflt (k_extra "m_iter"))
  k_with "pyIter str" => (k_dflt (k_extra "m_siter"))
  k_with "XEnd" => (dsimp only [XEnd])
  k_with "XEndN" => (refine stop_ ?_)
  k_with "k_all" => (first | (with_reducible assumption) | (refine List.forall_mem_append.mpr ⟨?_, ?_⟩ <;> k_all) | fail "m_all")
  k_with "k_room" => (walk_at "lt_room")
  k_with "k_room" => (walk_at "lt_room")
  k_with "k_units" => (walk_at "lt_units")
  k_with "size_fits" => ((simp only [List.size_toArray, Array.size_push, PySem.sizeLine_eq]); omega)
  k_with "m_perm" => (first | exact List.forall_mem_nil _ | (refine List.forall_mem_cons.mpr ⟨?_, ?_⟩; (focus (k_mem; done)); (focus (walk_at "m_perm"; done))) | (refine List.forall_mem_append.mpr ⟨?_, ?_⟩; (focus (walk_at "m_perm"; done)); (focus (walk_at "m_perm"; done))) | (intro q hq; (repeat first | exact hq | exact List.mem_append_left _ hq | exact List.mem_append_right _ hq | exact List.mem_append_left _ (List.mem_append_left _ hq) | exact List.mem_append_left _ (List.mem_append_right _ hq) | refine List.Mem.tail _ ?_); done) | (trace "heavy m_perm"; intro q hq; simp only [List.mem_cons, List.mem_append, List.not_mem_nil, or_false] at hq ⊢; (repeat' (refine Or.elim hq ?_ ?_ <;> (clear hq; intro hq))) <;> simp [hq]))
  k_with "k_mem" => ((repeat (first | with_reducible assumption | with_reducible exact List.mem_cons_self | with_reducible refine List.mem_cons_of_mem _ ?_ | with_reducible refine List.mem_append_left _ ?_)); done)
  k_with "g37" => skip
  k_with "a37" => ((case N => k_asm); (case h1 => k_mem); (case h2 => k_extra "m_dx"))
  k_with "k_all" => (first | (with_reducible assumption) | (with_reducible refine List.forall_mem_append.mpr ⟨?_, ?_⟩ <;> k_all) | fail "m_all")
  k_with "k_room" => (walk_at "lt_room")
  k_with "loadName" => (k_here; (rename Fr _ _ _ _ => lF9); k_dflt (refine ldX lF9 (by rfl) ?_))
  k_with "k_room" => (walk_at "lt_room")
  k_with "k_units" => (walk_at "lt_units")
  k_with "size_fits" => ((simp only [List.size_toArray, Array.size_push, PySem.sizeLine_eq]); omega)
  k_with "YEnd" => (dsimp only [YEnd])
  k_with "YEndN" => (refine stop_ ?_)
  k_with "lt_room" => (first | with_unfolding_all exact room2 (j := 0) hdp rfl rfl | with_unfolding_all exact room0 (j := 0) hdp rfl rfl | with_unfolding_all exact room2 (j := 1) hdp rfl rfl | with_unfolding_all exact room0 (j := 1) hdp rfl rfl | with_unfolding_all exact room2 (j := 2) hdp rfl rfl | with_unfolding_all exact room0 (j := 2) hdp rfl rfl | with_unfolding_all exact room2 (j := 3) hdp rfl rfl | with_unfolding_all exact room0 (j := 3) hdp rfl rfl | with_unfolding_all exact room2 (j := 4) hdp rfl rfl | with_unfolding_all exact room0 (j := 4) hdp rfl rfl | with_unfolding_all exact room2 (j := 5) hdp rfl rfl | with_unfolding_all exact room0 (j := 5) hdp rfl rfl | with_unfolding_all exact room2 (j := 6) hdp rfl rfl | with_unfolding_all exact room0 (j := 6) hdp rfl rfl | with_unfolding_all exact room2 (j := 7) hdp rfl rfl | with_unfolding_all exact room0 (j := 7) hdp rfl rfl | (trace "heavy"; ktr_room))
  k_with "lt_units" => (first | with_unfolding_all exact room2 (j := 0) hun rfl rfl | with_unfolding_all exact room0 (j := 0) hun rfl rfl | with_unfolding_all exact room2 (j := 1) hun rfl rfl | with_unfolding_all exact room0 (j := 1) hun rfl rfl | with_unfolding_all exact room2 (j := 2) hun rfl rfl | with_unfolding_all exact room0 (j := 2) hun rfl rfl | with_unfolding_all exact room2 (j := 3) hun rfl rfl | with_unfolding_all exact room0 (j := 3) hun rfl rfl | with_unfolding_all exact room2 (j := 4) hun rfl rfl | with_unfolding_all exact room0 (j := 4) hun rfl rfl | with_unfolding_all exact room2 (j := 5) hun rfl rfl | with_unfolding_all exact room0 (j := 5) hun rfl rfl | with_unfolding_all exact room2 (j := 6) hun rfl rfl | with_unfolding_all exact room0 (j := 6) hun rfl rfl | with_unfolding_all exact room2 (j := 7) hun rfl rfl | with_unfolding_all exact room0 (j := 7) hun rfl rfl | (trace "heavy"; ktr_units))
  have kMark : KstMark := kstMark
  refine toks_ ?_
  conv in nth _ _ => whnf
  unfold lwA lwEnv
  generalize hsc : (fdAt w.params 258).scope = sc
  conv at hsc => lhs; whnf
  subst hsc
  dsimp only [kstB] at F
  k_steps
  refine Stop.mk fun hle => ?_
  rename News _ _ _ _ => nE
  refine' k _ _ _ _ _ _ hle ?hne ?hi (fr_names ?ha ?hF) nE
  case hi => exact .cons _ _ .nil
  case hne => k_ne
  case hF => assumption
  case ha => kst_all
theorem sl_4 {leads : List Str} (hi : StrsAre lv leads) (hn : leads.length = 8) (hC : ∀ x ∈ leads, ∀ (i ch : Nat), x.cps[i]? = some ch → ch = 32 ∨ ch = 9) (hA : ∀ x ∈ leads, x.cps.all (· < 128) = true) (hL : ∀ x ∈ leads, x.cps.size ≤ 4) (h0 : ∀ r, 0 < r → r < 8 → rowLt (leads.map rowF) 0 r = true) (B : Below A₀ base outer g) (X : (hd.heap_1 w.params).In g) (TP : Top p loose mean mg mb g) (hdp : dp + 30 < recursionLimit) (hun : un + 400 < cLine) (F : Fr g L s.heap (kstB u [(Str.ofString "script", .ref SL), (Str.ofString "codes", .ref C), (Str.ofString "leads", .ref LA)])) (N : News g L s.heap [(LA, listOf (List.toArray lv) ln)])
    (k : ∀ u' h' tk' G gv gn hs, s.toks ≤ tk' → IntsAre gv hs → hs.length = 8 → HungIs (rowLt (leads.map rowF)) hs → Fr g L h' (kstB u' [(Str.ofString "script", .ref SL), (Str.ofString "codes", .ref C), (Str.ofString "leads", .ref LA), (Str.ofString "hung", .ref G)]) → News g L h' [(G, listOf (List.toArray gv) gn), (LA, listOf (List.toArray lv) ln)] → Q .next { s with heap := h', toks := tk' }) :
    wpAny (model PR w) (lwA w.params dp un gd L fa cd outer) (exec (nth (lwBody w.params) 4) (lwEnv w.params L fa cd)) Q (fun _ _ => False) s := by
  k_with_none
  w_top off
  k_with "m_enter" => ((case kA => exact rfl); (case kF => exact rfl); (case kK => assumption); (case k1 => k_asm); (case k2 => k_asm); (case k3 => k_asm); (case k5 => k_asm); (case k6 => k_is); (case k7 => k_is); (case k8 => walk_at "lt_room"); (case k9 => exact BindsTo.of_eq rfl); (case c5 => decide); (case kB => exact locs rfl); (case c2 => exact rfl); (case c3 => exact rfl); (case c4 => exact rfl); k_whole; intro g' L' h' F' N' B' X' T'; (try dsimp only [List.reverse, List.reverseAux, List.length]))
  k_with "m_pure" => ((case k1 => k_asm); (case k2 => k_asm); (case k3 => k_asm); (case k4 => k_asm); (case kK => first | exact rfl | assumption); (case kd => walk_at "lt_room"); (case ku => walk_at "lt_units"))
  k_with "m_useI" => (walk_at "m_pure"; (case k5 => k_asm); intro t9 h9 tk9 F9 N9; (try dsimp only); (try k_sweep))
  k_with "m_same" => (intro z h2 h3; (try simp only [List.forall_mem_cons, List.not_mem_nil, false_implies, implies_true, and_true, ne_eq, List.contains_cons, List.contains_nil, Bool.or_false, Bool.or_eq_false_iff, beq_eq_false_iff_ne] at h2 h3); simp [kstB, h2, h3])
  k_with "m_useB" => (walk_at "m_pure"; (case k5 => k_asm); intro h9 tk9 F9 N9; (try dsimp only); (try k_sweep))
  k_with "l_idx" => (k_dflt (k_extra "m_idx"))
  k_with "g9" => (k_here; (with_reducible show wpAny _ _ (subscriptTail _ _ (Value.ref _) (Value.int _ _)) _ _ _))
  k_with "a9" => ((case k1 => is_list); (case k3 => omega); (case k5 => omega); (case k6 => with_unfolding_all rfl); k_whole)
  k_with "m_sameN" => (intro z h1 h2 h3; (try simp only [List.forall_mem_cons, List.not_mem_nil, false_implies, implies_true, and_true, ne_eq, List.contains_cons, List.contains_nil, Bool.or_false, Bool.or_eq_false_iff, beq_eq_false_iff_ne] at h2 h3); first | rfl | ((show (if z = _ then _ else _) = _); rw [if_neg h1]; rfl) | (simp [kstB, h1, h2, h3]; done))
  k_with "mul_fits" => (k_extra "m_mul")
  k_with "InvEndN" => (refine stop_ ?_)
  k_with "KswEnd" => (refine stop_ ?_)
  k_with "m_new" => (first | exact List.forall_mem_nil _ | (refine List.forall_mem_cons.mpr ⟨⟨by k_mem, by k_all⟩, ?_⟩; walk_at "m_new"))
  k_with "exec For Name Name cons nil" => (k_here; with_unfolding_all refine wpAny_For ?_)
  k_with "exec For Name Call cons nil" => (k_here; with_unfolding_all refine wpAny_For ?_)
  k_with "exec For Tuple Name cons nil" => (k_here; with_unfolding_all refine wpAny_For ?_)
  k_with "exec For Tuple Call cons nil" => (k_here; with_unfolding_all refine wpAny_For ?_)
  k_with "pyIter ref" => (k_dflt (k_extra "m_iter"))
  k_with "pyIter str" => (k_dflt (k_extra "m_siter"))
  k_with "XEnd" => (dsimp only [XEnd])
  k_with "XEndN" => (refine stop_ ?_)
  k_with "k_all" => (first | (with_reducible assumption) | (refine List.forall_mem_append.mpr ⟨?_, ?_⟩ <;> k_all) | fail "m_all")
  k_with "k_room" => (walk_at "lt_room")
  k_with "k_room" => (walk_at "lt_room")
  k_with "k_units" => (walk_at "lt_units")
  k_with "size_fits" => ((simp only [List.size_toArray, Array.size_push, PySem.sizeLine_eq]); omega)
  k_with "m_perm" => (first | exact List.forall_mem_nil _ | (refine List.forall_mem_cons.mpr ⟨?_, ?_⟩; (focus (k_mem; done)); (focus (walk_at "m_perm"; done))) | (refine List.forall_mem_append.mpr ⟨?_, ?_⟩; (focus (walk_at "m_perm"; done)); (focus (walk_at "m_perm"; done))) | (intro q hq; (repeat first | exact hq | exact List.mem_append_left _ hq | exact List.mem_append_right _ hq | exact List.mem_append_left _ (List.mem_append_left _ hq) | exact List.mem_append_left _ (List.mem_append_right _ hq) | refine List.Mem.tail _ ?_); done) | (trace "heavy m_perm"; intro q hq; simp only [List.mem_cons, List.mem_append, List.not_mem_nil, or_false] at hq ⊢; (repeat' (refine Or.elim hq ?_ ?_ <;> (clear hq; intro hq))) <;> simp [hq]))
  k_with "k_mem" => ((repeat (first | with_reducible assumption | with_reducible exact List.mem_cons_self | with_reducible refine List.mem_cons_of_mem _ ?_ | with_reducible refine List.mem_append_left _ ?_)); done)
  k_with "g37" => skip
  k_with "a37" => ((case N => k_asm); (case h1 => k_mem); (case h2 => k_extra "m_dx"))
  k_with "k_all" => (first | (with_reducible assumption) | (with_reducible refine List.forall_mem_append.mpr ⟨?_, ?_⟩ <;> k_all) | fail "m_all")
  k_with "k_room" => (walk_at "lt_room")
  k_with "loadName" => (k_here; (rename Fr _ _ _ _ => lF9); k_dflt (refine ldX lF9 (by rfl) ?_))
  k_with "k_room" => (walk_at "lt_room")
  k_with "k_units" => (walk_at "lt_units")
  k_with "size_fits" => ((simp only [List.size_toArray, Array.size_push, PySem.sizeLine_eq]); omega)
  k_with "YEnd" => (dsimp only [YEnd])
  k_with "YEndN" => (refine stop_ ?_)
  k_with "call ref" => (k_here; (with_reducible show wpAny _ _ (call (Value.ref 218) _) _ _ _); k_dflt (k_extra "m_hung"))
  k_with "call ref" => (k_here; (with_reducible show wpAny _ _ (call (Value.ref 230) _) _ _ _); k_dflt (k_extra "m_read"))
  k_with "call ref" => (k_here; (with_reducible show wpAny _ _ (call (Value.ref 237) _) _ _ _); k_dflt (k_extra "m_tables"))
  k_with "lt_room" => (first | with_unfolding_all exact room2 (j := 0) hdp rfl rfl | with_unfolding_all exact room0 (j := 0) hdp rfl rfl | with_unfolding_all exact room2 (j := 1) hdp rfl rfl | with_unfolding_all exact room0 (j := 1) hdp rfl rfl | with_unfolding_all exact room2 (j := 2) hdp rfl rfl | with_unfolding_all exact room0 (j := 2) hdp rfl rfl | with_unfolding_all exact room2 (j := 3) hdp rfl rfl | with_unfolding_all exact room0 (j := 3) hdp rfl rfl | with_unfolding_all exact room2 (j := 4) hdp rfl rfl | with_unfolding_all exact room0 (j := 4) hdp rfl rfl | with_unfolding_all exact room2 (j := 5) hdp rfl rfl | with_unfolding_all exact room0 (j := 5) hdp rfl rfl | with_unfolding_all exact room2 (j := 6) hdp rfl rfl | with_unfolding_all exact room0 (j := 6) hdp rfl rfl | with_unfolding_all exact room2 (j := 7) hdp rfl rfl | with_unfolding_all exact room0 (j := 7) hdp rfl rfl | (trace "heavy"; ktr_room))
  k_with "lt_units" => (first | with_unfolding_all exact room2 (j := 0) hun rfl rfl | with_unfolding_all exact room0 (j := 0) hun rfl rfl | with_unfolding_all exact room2 (j := 1) hun rfl rfl | with_unfolding_all exact room0 (j := 1) hun rfl rfl | with_unfolding_all exact room2 (j := 2) hun rfl rfl | with_unfolding_all exact room0 (j := 2) hun rfl rfl | with_unfolding_all exact room2 (j := 3) hun rfl rfl | with_unfolding_all exact room0 (j := 3) hun rfl rfl | with_unfolding_all exact room2 (j := 4) hun rfl rfl | with_unfolding_all exact room0 (j := 4) hun rfl rfl | with_unfolding_all exact room2 (j := 5) hun rfl rfl | with_unfolding_all exact room0 (j := 5) hun rfl rfl | with_unfolding_all exact room2 (j := 6) hun rfl rfl | with_unfolding_all exact room0 (j := 6) hun rfl rfl | with_unfolding_all exact room2 (j := 7) hun rfl rfl | with_unfolding_all exact room0 (j := 7) hun rfl rfl | (trace "heavy"; ktr_units))
  have kMark : KstMark := kstMark
  refine toks_ ?_
  conv in nth _ _ => whnf
  unfold lwA lwEnv
  generalize hsc : (fdAt w.params 258).scope = sc
  conv at hsc => lhs; whnf
  subst hsc
  dsimp only [kstB] at F
  k_with "m_hung" => ((rename News _ _ _ _ => lN9); (refine' pure_use (hung_p ⟨_, (lN9 _ (.head _)).1, rfl, _, rfl⟩ hi hn hC hA hL h0 ?w1 ?w2 ?w3 ?w4 ?w5 ?w6 ?w7) ?w8 lN9 ?_); (case w1 => k_asm); (case w2 => k_asm); (case w3 => k_asm); (case w4 => k_asm); (case w5 => first | exact rfl | assumption); (case w6 => walk_at "lt_room"); (case w7 => walk_at "lt_units"); (case w8 => k_asm); (clear lN9); (rintro r9 tl9 h9 tk9 ⟨G, gv, gn, hs, rfl, rfl, iG, hG8, hGI⟩ F9 N9 o9; (try dsimp only); (try simp only [List.cons_append, List.nil_append] at N9)))
  k_steps
  refine Stop.mk fun hle => ?_
  refine' k _ _ _ G gv gn hs hle iG hG8 hGI (fr_names ?ha ?hF) ?hN
  case hN => assumption
  case hF => assumption
  case ha => kst_all
theorem sl_5 {G : Addr} {gv : List Value} {gn : Nat} {leads : List Str} (hpos : 0 < s.toks) (hi : StrsAre lv leads) (hn : leads.length = 8) (hC : ∀ x ∈ leads, ∀ (i ch : Nat), x.cps[i]? = some ch → ch = 32 ∨ ch = 9) (hA : ∀ x ∈ leads, x.cps.all (· < 128) = true) (hL : ∀ x ∈ leads, x.cps.size ≤ 4) (hok : ∀ x ∈ leads, PyData.strOk x = true) (h0 : ∀ r, 0 < r → r < 8 → lsOf leads 0 r = true) (B : Below A₀ base outer g) (X : (hd.heap_1 w.params).In g) (TP : Top p loose mean mg mb g) (hdp : dp + 30 < recursionLimit) (hun : un + 400 < cLine) (F : Fr g L s.heap (kstB u [(Str.ofString "script", .ref SL), (Str.ofString "codes", .ref C), (Str.ofString "leads", .ref LA), (Str.ofString "hung", .ref G)])) (N : News g L s.heap [(G, listOf (List.toArray gv) gn), (LA, listOf (List.toArray lv) ln)])
    (k : ∀ u' h' tk' T K S kv kn sv sn hooks lasts way, s.toks ≤ tk' → IntsAre kv hooks → IntsAre sv lasts → ReadR (lsOf leads) 8 way hooks lasts → Fr g L h' (kstB u' [(Str.ofString "hung", .ref G), (Str.ofString "read", .ref T)]) → News g L h' [(T, tupO [Value.ref K, Value.ref S]), (K, listOf (List.toArray kv) kn), (S, listOf (List.toArray sv) sn), (G, listOf (List.toArray gv) gn)] → Q .next { s with heap := h', toks := tk' }) :
    wpAny (model PR w) (lwA w.params dp un gd L fa cd outer) (exec (nth (lwBody w.params) 5) (lwEnv w.params L fa cd)) Q (fun _ _ => False) s := by
  k_with_none
  w_top off
  k_with "m_enter" => ((case kA => exact rfl); (case kF => exact rfl); (case kK => assumption); (case k1 => k_asm); (case k2 => k_asm); (case k3 => k_asm); (case k5 => k_asm); (case k6 => k_is); (case k7 => k_is); (case k8 => walk_at "lt_room"); (case k9 => exact BindsTo.of_eq rfl); (case c5 => decide); (case kB => exact locs rfl); (case c2 => exact rfl); (case c3 => exact rfl); (case c4 => exact rfl); k_whole; intro g' L' h' F' N' B' X' T'; (try dsimp only [List.reverse, List.reverseAux, List.length]))
  k_with "m_pure" => ((case k1 => k_asm); (case k2 => k_asm); (case k3 => k_asm); (case k4 => k_asm); (case kK => first | exact rfl | assumption); (case kd => walk_at "lt_room"); (case ku => walk_at "lt_units"))
  k_with "m_useI" => (walk_at "m_pure"; (case k5 => k_asm); intro t9 h9 tk9 F9 N9; (try dsimp only); (try k_sweep))
  k_with "m_same" => (intro z h2 h3; (try simp only [List.forall_mem_cons, List.not_mem_nil, false_implies, implies_true, and_true, ne_eq, List.contains_cons, List.contains_nil, Bool.or_false, Bool.or_eq_false_iff, beq_eq_false_iff_ne] at h2 h3); simp [kstB, h2, h3])
  k_with "m_useB" => (walk_at "m_pure"; (case k5 => k_asm); intro h9 tk9 F9 N9; (try dsimp only); (try k_sweep))
  k_with "l_idx" => (k_dflt (k_extra "m_idx"))
  k_with "g9" => (k_here; (with_reducible show wpAny _ _ (subscriptTail _ _ (Value.ref _) (Value.int _ _)) _ _ _))
  k_with "a9" => ((case k1 => is_list); (case k3 => omega); (case k5 => omega); (case k6 => with_unfolding_all rfl); k_whole)
  k_with "m_sameN" => (intro z h1 h2 h3; (try simp only [List.forall_mem_cons, List.not_mem_nil, false_implies, implies_true, and_true, ne_eq, List.contains_cons, List.contains_nil, Bool.or_false, Bool.or_eq_false_iff, beq_eq_false_iff_ne] at h2 h3); first | rfl | ((show (if z = _ then _ else _) = _); rw [if_neg h1]; rfl) | (simp [kstB, h1, h2, h3]; done))
  k_with "mul_fits" => (k_extra "m_mul")
  k_with "InvEndN" => (refine stop_ ?_)
  k_with "KswEnd" => (refine stop_ ?_)
  k_with "m_new" => (first | exact List.forall_mem_nil _ | (refine List.forall_mem_cons.mpr ⟨⟨by k_mem, by k_all⟩, ?_⟩; walk_at "m_new"))
  k_with "exec For Name Name cons nil" => (k_here; with_unfolding_all refine wpAny_For ?_)
  k_with "exec For Name Call cons nil" => (k_here; with_unfolding_all refine wpAny_For ?_)
  k_with "exec For Tuple Name cons nil" => (k_here; with_unfolding_all refine wpAny_For ?_)
  k_with "exec For Tuple Call cons nil" => (k_here; with_unfolding_all refine wpAny_For ?_)
  k_with "pyIter ref" => (k_dflt (k_extra "m_iter"))
  k_with "pyIter str" => (k_dflt (k_extra "m_siter"))
  k_with "XEnd" => (dsimp only [XEnd])
  k_with "XEndN" => (refine stop_ ?_)
  k_with "k_all" => (first | (with_reducible assumption) | (refine List.forall_mem_append.mpr ⟨?_, ?_⟩ <;> k_all) | fail "m_all")
  k_with "k_room" => (walk_at "lt_room")
  k_with "k_room" => (walk_at "lt_room")
  k_with "k_units" => (walk_at "lt_units")
  k_with "size_fits" => ((simp only [List.size_toArray, Array.size_push, PySem.sizeLine_eq]); omega)
  k_with "m_perm" => (first | exact List.forall_mem_nil _ | (refine List.forall_mem_cons.mpr ⟨?_, ?_⟩; (focus (k_mem; done)); (focus (walk_at "m_perm"; done))) | (refine List.forall_mem_append.mpr ⟨?_, ?_⟩; (focus (walk_at "m_perm"; done)); (focus (walk_at "m_perm"; done))) | (intro q hq; (repeat first | exact hq | exact List.mem_append_left _ hq | exact List.mem_append_right _ hq | exact List.mem_append_left _ (List.mem_append_left _ hq) | exact List.mem_append_left _ (List.mem_append_right _ hq) | refine List.Mem.tail _ ?_); done) | (trace "heavy m_perm"; intro q hq; simp only [List.mem_cons, List.mem_append, List.not_mem_nil, or_false] at hq ⊢; (repeat' (refine Or.elim hq ?_ ?_ <;> (clear hq; intro hq))) <;> simp [hq]))
  k_with "k_mem" => ((repeat (first | with_reducible assumption | with_reducible exact List.mem_cons_self | with_reducible refine List.mem_cons_of_mem _ ?_ | with_reducible refine List.mem_append_left _ ?_)); done)
  k_with "g37" => skip
  k_with "a37" => ((case N => k_asm); (case h1 => k_mem); (case h2 => k_extra "m_dx"))
  k_with "k_all" => (first | (with_reducible assumption) | (with_reducible refine List.forall_mem_append.mpr ⟨?_, ?_⟩ <;> k_all) | fail "m_all")
  k_with "k_room" => (walk_at "lt_room")
  k_with "loadName" => (k_here; (rename Fr _ _ _ _ => lF9); k_dflt (refine ldX lF9 (by rfl) ?_))
  k_with "k_room" => (walk_at "lt_room")
  k_with "k_units" => (walk_at "lt_units")
  k_with "size_fits" => ((simp only [List.size_toArray, Array.size_push, PySem.sizeLine_eq]); omega)
  k_with "YEnd" => (dsimp only [YEnd])
  k_with "YEndN" => (refine stop_ ?_)
  k_with "call ref" => (k_here; (with_reducible show wpAny _ _ (call (Value.ref 218) _) _ _ _); k_dflt (k_extra "m_hung"))
  k_with "call ref" => (k_here; (with_reducible show wpAny _ _ (call (Value.ref 230) _) _ _ _); k_dflt (k_extra "m_read"))
  k_with "call ref" => (k_here; (with_reducible show wpAny _ _ (call (Value.ref 237) _) _ _ _); k_dflt (k_extra "m_tables"))
  k_with "lt_room" => (first | with_unfolding_all exact room2 (j := 0) hdp rfl rfl | with_unfolding_all exact room0 (j := 0) hdp rfl rfl | with_unfolding_all exact room2 (j := 1) hdp rfl rfl | with_unfolding_all exact room0 (j := 1) hdp rfl rfl | with_unfolding_all exact room2 (j := 2) hdp rfl rfl | with_unfolding_all exact room0 (j := 2) hdp rfl rfl | with_unfolding_all exact room2 (j := 3) hdp rfl rfl | with_unfolding_all exact room0 (j := 3) hdp rfl rfl | with_unfolding_all exact room2 (j := 4) hdp rfl rfl | with_unfolding_all exact room0 (j := 4) hdp rfl rfl | with_unfolding_all exact room2 (j := 5) hdp rfl rfl | with_unfolding_all exact room0 (j := 5) hdp rfl rfl | with_unfolding_all exact room2 (j := 6) hdp rfl rfl | with_unfolding_all exact room0 (j := 6) hdp rfl rfl | with_unfolding_all exact room2 (j := 7) hdp rfl rfl | with_unfolding_all exact room0 (j := 7) hdp rfl rfl | (trace "heavy"; ktr_room))
  k_with "lt_units" => (first | with_unfolding_all exact room2 (j := 0) hun rfl rfl | with_unfolding_all exact room0 (j := 0) hun rfl rfl | with_unfolding_all exact room2 (j := 1) hun rfl rfl | with_unfolding_all exact room0 (j := 1) hun rfl rfl | with_unfolding_all exact room2 (j := 2) hun rfl rfl | with_unfolding_all exact room0 (j := 2) hun rfl rfl | with_unfolding_all exact room2 (j := 3) hun rfl rfl | with_unfolding_all exact room0 (j := 3) hun rfl rfl | with_unfolding_all exact room2 (j := 4) hun rfl rfl | with_unfolding_all exact room0 (j := 4) hun rfl rfl | with_unfolding_all exact room2 (j := 5) hun rfl rfl | with_unfolding_all exact room0 (j := 5) hun rfl rfl | with_unfolding_all exact room2 (j := 6) hun rfl rfl | with_unfolding_all exact room0 (j := 6) hun rfl rfl | with_unfolding_all exact room2 (j := 7) hun rfl rfl | with_unfolding_all exact room0 (j := 7) hun rfl rfl | (trace "heavy"; ktr_units))
  have kMark : KstMark := kstMark
  refine toks_ ?_
  conv in nth _ _ => whnf
  unfold lwA lwEnv
  generalize hsc : (fdAt w.params 258).scope = sc
  conv at hsc => lhs; whnf
  subst hsc
  dsimp only [kstB] at F
  k_with "m_read" => ((rename News _ _ _ _ => lN9); (refine' pure_use (read_p hpos ⟨_, (lN9 _ (.tail _ (.head _))).1, rfl, _, rfl⟩ hi hn hC hA hL hok h0 ?w1 ?w2 ?w3 ?w4 ?w5 ?w6 ?w7) ?w8 lN9 ?_); (case w1 => k_asm); (case w2 => k_asm); (case w3 => k_asm); (case w4 => k_asm); (case w5 => first | exact rfl | assumption); (case w6 => walk_at "lt_room"); (case w7 => walk_at "lt_units"); (case w8 => k_asm); (clear lN9); (rintro r9 tl9 h9 tk9 ⟨T, K, S, kv, kn, sv, sn, hooks, lasts, way, rfl, rfl, iK, iS, hR⟩ F9 N9 o9; (try dsimp only); (try simp only [List.cons_append, List.nil_append] at N9)))
  k_steps
  refine Stop.mk fun hle => ?_
  refine' k _ _ _ T K S kv kn sv sn hooks lasts way hle iK iS hR (fr_names ?ha ?hF) (kst_newsOf ?hN ?hS)
  case hN => assumption
  case hS => walk_at "m_perm"
  case hF => assumption
  case ha => kst_all
theorem sl_6 {G T : Addr} {led : List (Addr × Obj)} (B : Below A₀ base outer g) (X : (hd.heap_1 w.params).In g) (TP : Top p loose mean mg mb g) (hdp : dp + 30 < recursionLimit) (hun : un + 400 < cLine) (F : Fr g L s.heap (kstB u [(Str.ofString "hung", .ref G), (Str.ofString "read", .ref T)])) (N : News g L s.heap led)
    (k : ∀ u' h' tk', s.toks ≤ tk' → Fr g L h' (kstB u' [(Str.ofString "hung", .ref G), (Str.ofString "read", .ref T)]) → News g L h' led → Q .next { s with heap := h', toks := tk' }) :
    wpAny (model PR w) (lwA w.params dp un gd L fa cd outer) (exec (nth (lwBody w.params) 6) (lwEnv w.params L fa cd)) Q (fun _ _ => False) s := by
  k_with_none
  w_top off
  k_with "m_enter" => ((case kA => exact rfl); (case kF => exact rfl); (case kK => assumption); (case k1 => k_asm); (case k2 => k_asm); (case k3 => k_asm); (case k5 => k_asm); (case k6 => k_is); (case k7 => k_is); (case k8 => walk_at "lt_room"); (case k9 => exact BindsTo.of_eq rfl); (case c5 => decide); (case kB => exact locs rfl); (case c2 => exact rfl); (case c3 => exact rfl); (case c4 => exact rfl); k_whole; intro g' L' h' F' N' B' X' T'; (try dsimp only [List.reverse, List.reverseAux, List.length]))
  k_with "m_pure" => ((case k1 => k_asm); (case k2 => k_asm); (case k3 => k_asm); (case k4 => k_asm); (case kK => first | exact rfl | assumption); (case kd => walk_at "lt_room"); (case ku => walk_at "lt_units"))
  k_with "m_useI" => (walk_at "m_pure"; (case k5 => k_asm); intro t9 h9 tk9 F9 N9; (try dsimp only); (try k_sweep))
  k_with "m_same" => (intro z h2 h3; (try simp only [List.forall_mem_cons, List.not_mem_nil, false_implies, implies_true, and_true, ne_eq, List.contains_cons, List.contains_nil, Bool.or_false, Bool.or_eq_false_iff, beq_eq_false_iff_ne] at h2 h3); simp [kstB, h2, h3])
  k_with "m_useB" => (walk_at "m_pure"; (case k5 => k_asm); intro h9 tk9 F9 N9; (try dsimp only); (try k_sweep))
  k_with "l_idx" => (k_dflt (k_extra "m_idx"))
  k_with "g9" => (k_here; (with_reducible show wpAny _ _ (subscriptTail _ _ (Value.ref _) (Value.int _ _)) _ _ _))
  k_with "a9" => ((case k1 => is_list); (case k3 => omega); (case k5 => omega); (case k6 => with_unfolding_all rfl); k_whole)
  k_with "m_sameN" => (intro z h1 h2 h3; (try simp only [List.forall_mem_cons, List.not_mem_nil, false_implies, implies_true, and_true, ne_eq, List.contains_cons, List.contains_nil, Bool.or_false, Bool.or_eq_false_iff, beq_eq_false_iff_ne] at h2 h3); first | rfl | ((show (if z = _ then _ else _) = _); rw [if_neg h1]; rfl) | (simp [kstB, h1, h2, h3]; done))
  k_with "mul_fits" => (k_extra "m_mul")
  k_with "InvEndN" => (refine stop_ ?_)
  k_with "KswEnd" => (refine stop_ ?_)
  k_with "m_new" => (first | exact List.forall_mem_nil _ | (refine List.forall_mem_cons.mpr ⟨⟨by k_mem, by k_all⟩, ?_⟩; walk_at "m_new"))
  k_with "exec For Name Name cons nil" => (k_here; with_unfolding_all refine wpAny_For ?_)
  k_with "exec For Name Call cons nil" => (k_here; with_unfolding_all refine wpAny_For ?_)
  k_with "exec For Tuple Name cons nil" => (k_here; with_unfolding_all refine wpAny_For ?_)
  k_with "exec For Tuple Call cons nil" => (k_here; with_unfolding_all refine wpAny_For ?_)
  k_with "pyIter ref" => (k_dflt (k_extra "m_iter"))
  k_with "pyIter str" => (k_dflt (k_extra "m_siter"))
  k_with "XEnd" => (dsimp only [XEnd])
  k_with "XEndN" => (refine stop_ ?_)
  k_with "k_all" => (first | (with_reducible assumption) | (refine List.forall_mem_append.mpr ⟨?_, ?_⟩ <;> k_all) | fail "m_all")
  k_with "k_room" => (walk_at "lt_room")
  k_with "k_room" => (walk_at "lt_room")
  k_with "k_units" => (walk_at "lt_units")
  k_with "size_fits" => ((simp only [List.size_toArray, Array.size_push, PySem.sizeLine_eq]); omega)
  k_with "m_perm" => (first | exact List.forall_mem_nil _ | (refine List.forall_mem_cons.mpr ⟨?_, ?_⟩; (focus (k_mem; done)); (focus (walk_at "m_perm"; done))) | (refine List.forall_mem_append.mpr ⟨?_, ?_⟩; (focus (walk_at "m_perm"; done)); (focus (walk_at "m_perm"; done))) | (intro q hq; (repeat first | exact hq | exact List.mem_append_left _ hq | exact List.mem_append_right _ hq | exact List.mem_append_left _ (List.mem_append_left _ hq) | exact List.mem_append_left _ (List.mem_append_right _ hq) | refine List.Mem.tail _ ?_); done) | (trace "heavy m_perm"; intro q hq; simp only [List.mem_cons, List.mem_append, List.not_mem_nil, or_false] at hq ⊢; (repeat' (refine Or.elim hq ?_ ?_ <;> (clear hq; intro hq))) <;> simp [hq]))
  k_with "k_mem" => ((repeat (first | with_reducible assumption | with_reducible exact List.mem_cons_self | with_reducible refine List.mem_cons_of_mem _ ?_ | with_reducible refine List.mem_append_left _ ?_)); done)
  k_with "g37" => skip
  k_with "a37" => ((case N => k_asm); (case h1 => k_mem); (case h2 => k_extra "m_dx"))
  k_with "k_all" => (first | (with_reducible assumption) | (with_reducible refine List.forall_mem_append.mpr ⟨?_, ?_⟩ <;> k_all) | fail "m_all")
  k_with "k_room" => (walk_at "lt_room")
  k_with "loadName" => (k_here; (rename Fr _ _ _ _ => lF9); k_dflt (refine ldX lF9 (by rfl) ?_))
  k_with "k_room" => (walk_at "lt_room")
  k_with "k_units" => (walk_at "lt_units")
  k_with "size_fits" => ((simp only [List.size_toArray, Array.size_push, PySem.sizeLine_eq]); omega)
  k_with "YEnd" => (dsimp only [YEnd])
  k_with "YEndN" => (refine stop_ ?_)
  k_with "call ref" => (k_here; (with_reducible show wpAny _ _ (call (Value.ref 218) _) _ _ _); k_dflt (k_extra "m_hung"))
  k_with "call ref" => (k_here; (with_reducible show wpAny _ _ (call (Value.ref 230) _) _ _ _); k_dflt (k_extra "m_read"))
  k_with "call ref" => (k_here; (with_reducible show wpAny _ _ (call (Value.ref 237) _) _ _ _); k_dflt (k_extra "m_tables"))
  k_with "lt_room" => (first | with_unfolding_all exact room2 (j := 0) hdp rfl rfl | with_unfolding_all exact room0 (j := 0) hdp rfl rfl | with_unfolding_all exact room2 (j := 1) hdp rfl rfl | with_unfolding_all exact room0 (j := 1) hdp rfl rfl | with_unfolding_all exact room2 (j := 2) hdp rfl rfl | with_unfolding_all exact room0 (j := 2) hdp rfl rfl | with_unfolding_all exact room2 (j := 3) hdp rfl rfl | with_unfolding_all exact room0 (j := 3) hdp rfl rfl | with_unfolding_all exact room2 (j := 4) hdp rfl rfl | with_unfolding_all exact room0 (j := 4) hdp rfl rfl | with_unfolding_all exact room2 (j := 5) hdp rfl rfl | with_unfolding_all exact room0 (j := 5) hdp rfl rfl | with_unfolding_all exact room2 (j := 6) hdp rfl rfl | with_unfolding_all exact room0 (j := 6) hdp rfl rfl | with_unfolding_all exact room2 (j := 7) hdp rfl rfl | with_unfolding_all exact room0 (j := 7) hdp rfl rfl | (trace "heavy"; ktr_room))
  k_with "lt_units" => (first | with_unfolding_all exact room2 (j := 0) hun rfl rfl | with_unfolding_all exact room0 (j := 0) hun rfl rfl | with_unfolding_all exact room2 (j := 1) hun rfl rfl | with_unfolding_all exact room0 (j := 1) hun rfl rfl | with_unfolding_all exact room2 (j := 2) hun rfl rfl | with_unfolding_all exact room0 (j := 2) hun rfl rfl | with_unfolding_all exact room2 (j := 3) hun rfl rfl | with_unfolding_all exact room0 (j := 3) hun rfl rfl | with_unfolding_all exact room2 (j := 4) hun rfl rfl | with_unfolding_all exact room0 (j := 4) hun rfl rfl | with_unfolding_all exact room2 (j := 5) hun rfl rfl | with_unfolding_all exact room0 (j := 5) hun rfl rfl | with_unfolding_all exact room2 (j := 6) hun rfl rfl | with_unfolding_all exact room0 (j := 6) hun rfl rfl | with_unfolding_all exact room2 (j := 7) hun rfl rfl | with_unfolding_all exact room0 (j := 7) hun rfl rfl | (trace "heavy"; ktr_units))
  have kMark : KstMark := kstMark
  refine toks_ ?_
  conv in nth _ _ => whnf
  unfold lwA lwEnv
  generalize hsc : (fdAt w.params 258).scope = sc
  conv at hsc => lhs; whnf
  subst hsc
  dsimp only [kstB] at F
  k_steps
  refine Stop.mk fun hle => ?_
  refine' k _ _ _ hle (fr_names ?ha ?hF) ?hN
  case hN => assumption
  case hF => assumption
  case ha => kst_all
theorem sl_7 {G T K S : Addr} {gv kv sv : List Value} {gn kn sn : Nat} {hooks lasts : List Int} (iK : IntsAre kv hooks) (iS : IntsAre sv lasts) (ok : TabOk hooks lasts) (B : Below A₀ base outer g) (X : (hd.heap_1 w.params).In g) (TP : Top p loose mean mg mb g) (hdp : dp + 30 < recursionLimit) (hun : un + 400 < cLine) (F : Fr g L s.heap (kstB u [(Str.ofString "hung", .ref G), (Str.ofString "read", .ref T)])) (N : News g L s.heap [(T, tupO [Value.ref K, Value.ref S]), (K, listOf (List.toArray kv) kn), (S, listOf (List.toArray sv) sn), (G, listOf (List.toArray gv) gn)])
    (k : ∀ u' h' tk' D l1 l2 l3 v1 v2 v3 n1 n2 n3, s.toks ≤ tk' → IntsAre v1 (tabN hooks lasts 8).lb → IntsAre v2 (tabN hooks lasts 8).fl → IntsAre v3 (tabN hooks lasts 8).he → Fr g L h' (kstB u' [(Str.ofString "hung", .ref G), (Str.ofString "tables", .ref D)]) → News g L h' [(D, tupO [Value.ref l1, Value.ref l2, Value.ref l3, Value.ref K]), (l1, listOf (List.toArray v1) n1), (l2, listOf (List.toArray v2) n2), (l3, listOf (List.toArray v3) n3), (K, listOf (List.toArray kv) kn), (G, listOf (List.toArray gv) gn)] → Q .next { s with heap := h', toks := tk' }) :
    wpAny (model PR w) (lwA w.params dp un gd L fa cd outer) (exec (nth (lwBody w.params) 7) (lwEnv w.params L fa cd)) Q (fun _ _ => False) s := by
  k_with_none
  w_top off
  k_with "m_enter" => ((case kA => exact rfl); (case kF => exact rfl); (case kK => assumption); (case k1 => k_asm); (case k2 => k_asm); (case k3 => k_asm); (case k5 => k_asm); (case k6 => k_is); (case k7 => k_is); (case k8 => walk_at "lt_room"); (case k9 => exact BindsTo.of_eq rfl); (case c5 => decide); (case kB => exact locs rfl); (case c2 => exact rfl); (case c3 => exact rfl); (case c4 => exact rfl); k_whole; intro g' L' h' F' N' B' X' T'; (try dsimp only [List.reverse, List.reverseAux, List.length]))
  k_with "m_pure" => ((case k1 => k_asm); (case k2 => k_asm); (case k3 => k_asm); (case k4 => k_asm); (case kK => first | exact rfl | assumption); (case kd => walk_at "lt_room"); (case ku => walk_at "lt_units"))
  k_with "m_useI" => (walk_at "m_pure"; (case k5 => k_asm); intro t9 h9 tk9 F9 N9; (try dsimp only); (try k_sweep))
  k_with "m_same" => (intro z h2 h3; (try simp only [List.forall_mem_cons, List.not_mem_nil, false_implies, implies_true, and_true, ne_eq, List.contains_cons, List.contains_nil, Bool.or_false, Bool.or_eq_false_iff, beq_eq_false_iff_ne] at h2 h3); simp [kstB, h2, h3])
  k_with "m_useB" => (walk_at "m_pure"; (case k5 => k_asm); intro h9 tk9 F9 N9; (try dsimp only); (try k_sweep))
  k_with "l_idx" => (k_dflt (k_extra "m_idx"))
  k_with "g9" => (k_here; (with_reducible show wpAny _ _ (subscriptTail _ _ (Value.ref _) (Value.int _ _)) _ _ _))
  k_with "a9" => ((case k1 => is_list); (case k3 => omega); (case k5 => omega); (case k6 => with_unfolding_all rfl); k_whole)
  k_with "m_sameN" => (intro z h1 h2 h3; (try simp only [List.forall_mem_cons, List.not_mem_nil, false_implies, implies_true, and_true, ne_eq, List.contains_cons, List.contains_nil, Bool.or_false, Bool.or_eq_false_iff, beq_eq_false_iff_ne] at h2 h3); first | rfl | ((show (if z = _ then _ else _) = _); rw [if_neg h1]; rfl) | (simp [kstB, h1, h2, h3]; done))
  k_with "mul_fits" => (k_extra "m_mul")
  k_with "InvEndN" => (refine stop_ ?_)
  k_with "KswEnd" => (refine stop_ ?_)
  k_with "m_new" => (first | exact List.forall_mem_nil _ | (refine List.forall_mem_cons.mpr ⟨⟨by k_mem, by k_all⟩, ?_⟩; walk_at "m_new"))
  k_with "exec For Name Name cons nil" => (k_here; with_unfolding_all refine wpAny_For ?_)
  k_with "exec For Name Call cons nil" => (k_here; with_unfolding_all refine wpAny_For ?_)
  k_with "exec For Tuple Name cons nil" => (k_here; with_unfolding_all refine wpAny_For ?_)
  k_with "exec For Tuple Call cons nil" => (k_here; with_unfolding_all refine wpAny_For ?_)
  k_with "pyIter ref" => (k_dflt (k_extra "m_iter"))
  k_with "pyIter str" => (k_dflt (k_extra "m_siter"))
  k_with "XEnd" => (dsimp only [XEnd])
  k_with "XEndN" => (refine stop_ ?_)
  k_with "k_all" => (first | (with_reducible assumption) | (refine List.forall_mem_append.mpr ⟨?_, ?_⟩ <;> k_all) | fail "m_all")
  k_with "k_room" => (walk_at "lt_room")
  k_with "k_room" => (walk_at "lt_room")
  k_with "k_units" => (walk_at "lt_units")
  k_with "size_fits" => ((simp only [List.size_toArray, Array.size_push, PySem.sizeLine_eq]); omega)
  k_with "m_perm" => (first | exact List.forall_mem_nil _ | (refine List.forall_mem_cons.mpr ⟨?_, ?_⟩; (focus (k_mem; done)); (focus (walk_at "m_perm"; done))) | (refine List.forall_mem_append.mpr ⟨?_, ?_⟩; (focus (walk_at "m_perm"; done)); (focus (walk_at "m_perm"; done))) | (intro q hq; (repeat first | exact hq | exact List.mem_append_left _ hq | exact List.mem_append_right _ hq | exact List.mem_append_left _ (List.mem_append_left _ hq) | exact List.mem_append_left _ (List.mem_append_right _ hq) | refine List.Mem.tail _ ?_); done) | (trace "heavy m_perm"; intro q hq; simp only [List.mem_cons, List.mem_append, List.not_mem_nil, or_false] at hq ⊢; (repeat' (refine Or.elim hq ?_ ?_ <;> (clear hq; intro hq))) <;> simp [hq]))
  k_with "k_mem" => ((repeat (first | with_reducible assumption | with_reducible exact List.mem_cons_self | with_reducible refine List.mem_cons_of_mem _ ?_ | with_reducible refine List.mem_append_left _ ?_)); done)
  k_with "g37" => skip
  k_with "a37" => ((case N => k_asm); (case h1 => k_mem); (case h2 => k_extra "m_dx"))
  k_with "k_all" => (first | (with_reducible assumption) | (with_reducible refine List.forall_mem_append.mpr ⟨?_, ?_⟩ <;> k_all) | fail "m_all")
  k_with "k_room" => (walk_at "lt_room")
  k_with "loadName" => (k_here; (rename Fr _ _ _ _ => lF9); k_dflt (refine ldX lF9 (by rfl) ?_))
  k_with "k_room" => (walk_at "lt_room")
  k_with "k_units" => (walk_at "lt_units")
  k_with "size_fits" => ((simp only [List.size_toArray, Array.size_push, PySem.sizeLine_eq]); omega)
  k_with "YEnd" => (dsimp only [YEnd])
  k_with "YEndN" => (refine stop_ ?_)
  k_with "call ref" => (k_here; (with_reducible show wpAny _ _ (call (Value.ref 218) _) _ _ _); k_dflt (k_extra "m_hung"))
  k_with "call ref" => (k_here; (with_reducible show wpAny _ _ (call (Value.ref 230) _) _ _ _); k_dflt (k_extra "m_read"))
  k_with "call ref" => (k_here; (with_reducible show wpAny _ _ (call (Value.ref 237) _) _ _ _); k_dflt (k_extra "m_tables"))
  k_with "lt_room" => (first | with_unfolding_all exact room2 (j := 0) hdp rfl rfl | with_unfolding_all exact room0 (j := 0) hdp rfl rfl | with_unfolding_all exact room2 (j := 1) hdp rfl rfl | with_unfolding_all exact room0 (j := 1) hdp rfl rfl | with_unfolding_all exact room2 (j := 2) hdp rfl rfl | with_unfolding_all exact room0 (j := 2) hdp rfl rfl | with_unfolding_all exact room2 (j := 3) hdp rfl rfl | with_unfolding_all exact room0 (j := 3) hdp rfl rfl | with_unfolding_all exact room2 (j := 4) hdp rfl rfl | with_unfolding_all exact room0 (j := 4) hdp rfl rfl | with_unfolding_all exact room2 (j := 5) hdp rfl rfl | with_unfolding_all exact room0 (j := 5) hdp rfl rfl | with_unfolding_all exact room2 (j := 6) hdp rfl rfl | with_unfolding_all exact room0 (j := 6) hdp rfl rfl | with_unfolding_all exact room2 (j := 7) hdp rfl rfl | with_unfolding_all exact room0 (j := 7) hdp rfl rfl | (trace "heavy"; ktr_room))
  k_with "lt_units" => (first | with_unfolding_all exact room2 (j := 0) hun rfl rfl | with_unfolding_all exact room0 (j := 0) hun rfl rfl | with_unfolding_all exact room2 (j := 1) hun rfl rfl | with_unfolding_all exact room0 (j := 1) hun rfl rfl | with_unfolding_all exact room2 (j := 2) hun rfl rfl | with_unfolding_all exact room0 (j := 2) hun rfl rfl | with_unfolding_all exact room2 (j := 3) hun rfl rfl | with_unfolding_all exact room0 (j := 3) hun rfl rfl | with_unfolding_all exact room2 (j := 4) hun rfl rfl | with_unfolding_all exact room0 (j := 4) hun rfl rfl | with_unfolding_all exact room2 (j := 5) hun rfl rfl | with_unfolding_all exact room0 (j := 5) hun rfl rfl | with_unfolding_all exact room2 (j := 6) hun rfl rfl | with_unfolding_all exact room0 (j := 6) hun rfl rfl | with_unfolding_all exact room2 (j := 7) hun rfl rfl | with_unfolding_all exact room0 (j := 7) hun rfl rfl | (trace "heavy"; ktr_units))
  have kMark : KstMark := kstMark
  refine toks_ ?_
  conv in nth _ _ => whnf
  unfold lwA lwEnv
  generalize hsc : (fdAt w.params 258).scope = sc
  conv at hsc => lhs; whnf
  subst hsc
  dsimp only [kstB] at F
  k_with "m_tables" => ((rename News _ _ _ _ => lN9); (refine' pure_use (tables_p (hn := kn) (sn := sn) iK iS ok ?w1 ?w2 ?w3 ?w4 ?w5 ?w6 ?w7 (kst_newsOf lN9 ?w9)) ?w8 lN9 ?_); (case w1 => k_asm); (case w2 => k_asm); (case w3 => k_asm); (case w4 => k_asm); (case w5 => first | exact rfl | assumption); (case w6 => walk_at "lt_room"); (case w7 => walk_at "lt_units"); (case w8 => k_asm); (case w9 => walk_at "m_perm"); (clear lN9); (rintro r9 tl9 h9 tk9 ⟨D, l1, l2, l3, v1, v2, v3, n1, n2, n3, rfl, rfl, i1, i2, i3⟩ F9 N9 o9; (try dsimp only); (try simp only [List.cons_append, List.nil_append] at N9)))
  k_steps
  refine Stop.mk fun hle => ?_
  refine' k _ _ _ D l1 l2 l3 v1 v2 v3 n1 n2 n3 hle i1 i2 i3 (fr_names ?ha ?hF) (kst_newsOf ?hN ?hS)
  case hN => assumption
  case hS => walk_at "m_perm"
  case hF => assumption
  case ha => kst_all
end
set_option maxRecDepth 100000
set_option maxHeartbeats 8000000
section
variable {w : World} {p : Program} {loose : List Str} {mean : ExcName → Option Value} {mg mb : Str → Option Value} {dp un : Nat} {gd : Option (List Code)} {outer : List Env} {A₀ : Around} {base g : Heap} {L fa : Addr} {cd : Value} {s : Shared} {Q : Flow → Shared → Prop} {u : Str → Option Value}
variable {SL C LA : Addr} {cv lv : List Value} {cn ln : Nat}
theorem sl_8 {D G l1 l2 l3 K : Addr} {gv v1 v2 v3 kv : List Value} {gn n1 n2 n3 kn : Nat} {lb fl he ho : List Int} (iG : IntsAre gv ho) (i1 : IntsAre v1 lb) (i2 : IntsAre v2 fl) (i3 : IntsAre v3 he) (iK : IntsAre kv ho) (ho8 : ho.length = 8) (hoB : ∀ r : Nat, r < 8 → 0 < r → 0 ≤ gI ho r ∧ gI ho r < r) (hM : ∀ r k : Nat, r < 8 → k < r → MeetOk lb fl he ho r k ∧ meetF lb fl he ho r k = lcaF ho 16 r k) (B : Below A₀ base outer g) (X : (hd.heap_1 w.params).In g) (TP : Top p loose mean mg mb g) (hdp : dp + 30 < recursionLimit) (hun : un + 400 < cLine) (F : Fr g L s.heap (kstB u [(Str.ofString "hung", .ref G), (Str.ofString "tables", .ref D)])) (N : News g L s.heap [(D, tupO [Value.ref l1, Value.ref l2, Value.ref l3, Value.ref K]), (l1, listOf (List.toArray v1) n1), (l2, listOf (List.toArray v2) n2), (l3, listOf (List.toArray v3) n3), (K, listOf (List.toArray kv) kn), (G, listOf (List.toArray gv) gn)])
    (k : ∀ u' h' tk', s.toks ≤ tk' → Fr g L h' (kstB u' [(Str.ofString "hung", .ref G), (Str.ofString "tables", .ref D)]) → News g L h' [(D, tupO [Value.ref l1, Value.ref l2, Value.ref l3, Value.ref K]), (l1, listOf (List.toArray v1) n1), (l2, listOf (List.toArray v2) n2), (l3, listOf (List.toArray v3) n3), (K, listOf (List.toArray kv) kn), (G, listOf (List.toArray gv) gn)] → Q .next { s with heap := h', toks := tk' }) :
    wpAny (model PR w) (lwA w.params dp un gd L fa cd outer) (exec (nth (lwBody w.params) 8) (lwEnv w.params L fa cd)) Q (fun _ _ => False) s := by
  k_with_none
  w_top off
  k_with "m_enter" => ((case kA => exact rfl); (case kF => exact rfl); (case kK => assumption); (case k1 => k_asm); (case k2 => k_asm); (case k3 => k_asm); (case k5 => k_asm); (case k6 => k_is); (case k7 => k_is); (case k8 => walk_at "lt_room"); (case k9 => exact BindsTo.of_eq rfl); (case c5 => decide); (case kB => exact locs rfl); (case c2 => exact rfl); (case c3 => exact rfl); (case c4 => exact rfl); k_whole; intro g' L' h' F' N' B' X' T'; (try dsimp only [List.reverse, List.reverseAux, List.length]))
  k_with "m_pure" => ((case k1 => k_asm); (case k2 => k_asm); (case k3 => k_asm); (case k4 => k_asm); (case kK => first | exact rfl | assumption); (case kd => walk_at "lt_room"); (case ku => walk_at "lt_units"))
  k_with "m_useI" => (walk_at "m_pure"; (case k5 => k_asm); intro t9 h9 tk9 F9 N9; (try dsimp only); (try k_sweep))
  k_with "m_same" => (intro z h2 h3; (try simp only [List.forall_mem_cons, List.not_mem_nil, false_implies, implies_true, and_true, ne_eq, List.contains_cons, List.contains_nil, Bool.or_false, Bool.or_eq_false_iff, beq_eq_false_iff_ne] at h2 h3); simp [kstB, h2, h3])
  k_with "m_useB" => (walk_at "m_pure"; (case k5 => k_asm); intro h9 tk9 F9 N9; (try dsimp only); (try k_sweep))
  k_with "l_idx" => (k_dflt (k_extra "m_idx"))
  k_with "g9" => (k_here; (with_reducible show wpAny _ _ (subscriptTail _ _ (Value.ref _) (Value.int _ _)) _ _ _))
  k_with "a9" => ((case k1 => is_list); (case k3 => omega); (case k5 => omega); (case k6 => with_unfolding_all rfl); k_whole)
  k_with "m_sameN" => (intro z h1 h2 h3; (try simp only [List.forall_mem_cons, List.not_mem_nil, false_implies, implies_true, and_true, ne_eq, List.contains_cons, List.contains_nil, Bool.or_false, Bool.or_eq_false_iff, beq_eq_false_iff_ne] at h2 h3); first | rfl | ((show (if z = _ then _ else _) = _); rw [if_neg h1]; rfl) | (simp [kstB, h1, h2, h3]; done))
  k_with "mul_fits" => (k_extra "m_mul")
  k_with "InvEndN" => (refine stop_ ?_)
  k_with "KswEnd" => (refine stop_ ?_)
  k_with "m_new" => (first | exact List.forall_mem_nil _ | (refine List.forall_mem_cons.mpr ⟨⟨by k_mem, by k_all⟩, ?_⟩; walk_at "m_new"))
  k_with "exec For Name Name cons nil" => (k_here; with_unfolding_all refine wpAny_For ?_)
  k_with "exec For Name Call cons nil" => (k_here; with_unfolding_all refine wpAny_For ?_)
  k_with "exec For Tuple Name cons nil" => (k_here; with_unfolding_all refine wpAny_For ?_)
  k_with "exec For Tuple Call cons nil" => (k_here; with_unfolding_all refine wpAny_For ?_)
  k_with "pyIter ref" => (k_dflt (k_extra "m_iter"))
  k_with "pyIter str" => (k_dflt (k_extra "m_siter"))
  k_with "XEnd" => (dsimp only [XEnd])
  k_with "XEndN" => (refine stop_ ?_)
  k_with "k_all" => (first | (with_reducible assumption) | (refine List.forall_mem_append.mpr ⟨?_, ?_⟩ <;> k_all) | fail "m_all")
  k_with "k_room" => (walk_at "lt_room")
  k_with "k_room" => (walk_at "lt_room")
  k_with "k_units" => (walk_at "lt_units")
  k_with "size_fits" => ((simp only [List.size_toArray, Array.size_push, PySem.sizeLine_eq]); omega)
  k_with "m_perm" => (first | exact List.forall_mem_nil _ | (refine List.forall_mem_cons.mpr ⟨?_, ?_⟩; (focus (k_mem; done)); (focus (walk_at "m_perm"; done))) | (refine List.forall_mem_append.mpr ⟨?_, ?_⟩; (focus (walk_at "m_perm"; done)); (focus (walk_at "m_perm"; done))) | (intro q hq; (repeat first | exact hq | exact List.mem_append_left _ hq | exact List.mem_append_right _ hq | exact List.mem_append_left _ (List.mem_append_left _ hq) | exact List.mem_append_left _ (List.mem_append_right _ hq) | refine List.Mem.tail _ ?_); done) | (trace "heavy m_perm"; intro q hq; simp only [List.mem_cons, List.mem_append, List.not_mem_nil, or_false] at hq ⊢; (repeat' (refine Or.elim hq ?_ ?_ <;> (clear hq; intro hq))) <;> simp [hq]))
  k_with "k_mem" => ((repeat (first | with_reducible assumption | with_reducible exact List.mem_cons_self | with_reducible refine List.mem_cons_of_mem _ ?_ | with_reducible refine List.mem_append_left _ ?_)); done)
  k_with "g37" => skip
  k_with "a37" => ((case N => k_asm); (case h1 => k_mem); (case h2 => k_extra "m_dx"))
  k_with "k_all" => (first | (with_reducible assumption) | (with_reducible refine List.forall_mem_append.mpr ⟨?_, ?_⟩ <;> k_all) | fail "m_all")
  k_with "k_room" => (walk_at "lt_room")
  k_with "loadName" => (k_here; (rename Fr _ _ _ _ => lF9); k_dflt (refine ldX lF9 (by rfl) ?_))
  k_with "k_room" => (walk_at "lt_room")
  k_with "k_units" => (walk_at "lt_units")
  k_with "size_fits" => ((simp only [List.size_toArray, Array.size_push, PySem.sizeLine_eq]); omega)
  k_with "YEnd" => (dsimp only [YEnd])
  k_with "YEndN" => (refine stop_ ?_)
  k_with "exec For Name Call cons nil" => (k_here; with_unfolding_all refine wpAny_For ?_)
  k_with "pyIter ref" => (k_dflt (k_extra "m_iter"))
  k_with "exec While Compare cons nil" => (k_extra "m_while")
  k_with "call ref" => (k_here; (with_reducible show wpAny _ _ (call (Value.ref 251) _) _ _ _); k_dflt (k_extra "m_meet"))
  k_with "ite" => (k_here; k_dflt (refine ite_neg (by k_extra "m_same8") ?_))
  k_with "lt_room" => (first | with_unfolding_all exact room2 (j := 0) hdp rfl rfl | with_unfolding_all exact room0 (j := 0) hdp rfl rfl | with_unfolding_all exact room2 (j := 1) hdp rfl rfl | with_unfolding_all exact room0 (j := 1) hdp rfl rfl | with_unfolding_all exact room2 (j := 2) hdp rfl rfl | with_unfolding_all exact room0 (j := 2) hdp rfl rfl | with_unfolding_all exact room2 (j := 3) hdp rfl rfl | with_unfolding_all exact room0 (j := 3) hdp rfl rfl | with_unfolding_all exact room2 (j := 4) hdp rfl rfl | with_unfolding_all exact room0 (j := 4) hdp rfl rfl | with_unfolding_all exact room2 (j := 5) hdp rfl rfl | with_unfolding_all exact room0 (j := 5) hdp rfl rfl | with_unfolding_all exact room2 (j := 6) hdp rfl rfl | with_unfolding_all exact room0 (j := 6) hdp rfl rfl | with_unfolding_all exact room2 (j := 7) hdp rfl rfl | with_unfolding_all exact room0 (j := 7) hdp rfl rfl | (trace "heavy"; ktr_room))
  k_with "lt_units" => (first | with_unfolding_all exact room2 (j := 0) hun rfl rfl | with_unfolding_all exact room0 (j := 0) hun rfl rfl | with_unfolding_all exact room2 (j := 1) hun rfl rfl | with_unfolding_all exact room0 (j := 1) hun rfl rfl | with_unfolding_all exact room2 (j := 2) hun rfl rfl | with_unfolding_all exact room0 (j := 2) hun rfl rfl | with_unfolding_all exact room2 (j := 3) hun rfl rfl | with_unfolding_all exact room0 (j := 3) hun rfl rfl | with_unfolding_all exact room2 (j := 4) hun rfl rfl | with_unfolding_all exact room0 (j := 4) hun rfl rfl | with_unfolding_all exact room2 (j := 5) hun rfl rfl | with_unfolding_all exact room0 (j := 5) hun rfl rfl | with_unfolding_all exact room2 (j := 6) hun rfl rfl | with_unfolding_all exact room0 (j := 6) hun rfl rfl | with_unfolding_all exact room2 (j := 7) hun rfl rfl | with_unfolding_all exact room0 (j := 7) hun rfl rfl | (trace "heavy"; ktr_units))
  have kMark : KstMark := kstMark
  refine toks_ ?_
  conv in nth _ _ => whnf
  unfold lwA lwEnv
  generalize hsc : (fdAt w.params 258).scope = sc
  conv at hsc => lhs; whnf
  subst hsc
  dsimp only [kstB] at F
  k_with "m_iter" => (first | ((rename Fr _ _ _ _ => lF9); (rename News _ _ _ _ => lN9); (refine' y_range (σ := Unit) (fun _ => _) (fun _ => [(Str.ofString "hung", .ref G), (Str.ofString "tables", .ref D), (Str.ofString "r", .int (0 + (i : Nat)) ti)]) (fun _ => True) (fun _ _ => True) (fun _ => 0) () ?hrx ?hsmx ?hnx ?hhx lF9 ?lN9x ?hfx ?hpsx ?hpx ?htbx ?hEx (fun c j tj kU kH kTk kOwn kLt kOff kFacts kInv kTB kFr kNews => ?turnx) (fun c kU kH kTk kFacts kInv kTB kFr kNews => ?donex)); (case hrx => assumption); (case hsmx => exact small_one (by omega) (by omega) (by omega) (by omega)); (case hnx => exact rangeSize_i); (case hhx => rfl); (case lN9x => exact lN9); (case hfx => trivial); (case hpsx => kst_all); (case hpx => trivial); (case htbx => exact Nat.zero_le _); (case hEx => passes_own); (clear lF9 lN9); (all_goals (try dsimp only [kstB] at kFr))) | ((rename Fr _ _ _ _ => lF9); (rename News _ _ _ _ => lN9); (refine' y_range (σ := Unit) (fun _ => [(D, tupO [Value.ref l1, Value.ref l2, Value.ref l3, Value.ref K]), (l1, listOf (List.toArray v1) n1), (l2, listOf (List.toArray v2) n2), (l3, listOf (List.toArray v3) n3), (K, listOf (List.toArray kv) kn), (G, listOf (List.toArray gv) gn)]) (fun _ => [(Str.ofString "hung", .ref G), (Str.ofString "tables", .ref D)]) (fun _ => True) (fun _ _ => True) (fun _ => 0) () ?hr ?hsm ?hn ?hh lF9 ?lN9 ?hf ?hps ?hp ?htb ?hE (fun c i ti kU kH kTk kOwn kLt kOff kFacts kInv kTB kFr kNews => ?turn) (fun c kU kH kTk kFacts kInv kTB kFr kNews => ?done)); (case hr => assumption); (case hsm => decide); (case hn => exact (show _ = ((8 : Nat) : Int) by decide)); (case hh => rfl); (case lN9 => exact kst_newsOf lN9 (fun p hp => by first | exact hp | exact List.mem_append_left _ hp)); (case hf => trivial); (case hps => kst_all); (case hp => trivial); (case htb => exact Nat.zero_le _); (case hE => passes_own); (clear lF9 lN9); (all_goals (try dsimp only [kstB] at kFr))))
  k_with "m_while" => ((rename Fr _ _ _ _ => lF9); (rename News _ _ _ _ => lN9); (refine' ksw_while (σ := (Int × Tok) × (Int × Tok)) (fun _ => _) (fun c => [(Str.ofString "one", Value.int c.1.1 c.1.2), (Str.ofString "two", Value.int c.2.1 c.2.2)]) (fun _ => True) [] (LcP ho i j) (fun c => c.1.1.toNat + c.2.1.toNat) ((_, _), (_, _)) lF9 ?wlN ?whf ?whk ?whp (fun c kU3 kH3 kTk3 kFacts3 kWh kFr kNews => ?wturn)); (case wlN => exact lN9); (case whf => trivial); (case whk => kst_all); (case whp => exact lc_0 (by omega) (by omega) (by omega) (by omega)); (clear lF9 lN9); (obtain ⟨⟨a1, ta⟩, ⟨b1, tb⟩⟩ := c); (dsimp only [kstB] at kFr); (obtain ⟨kW1, kW2, kW3, kW4⟩ := lc_open kWh))
  k_with "m_idx" => (first | omega | (rw [ho8]; omega))
  k_with "m_meet" => ((rename News _ _ _ _ => lN9); (refine' pure_useI (meet_p (A1 := l1) (A2 := l2) (A3 := l3) (A4 := K) (k1 := n1) (k2 := n2) (k3 := n3) (k4 := kn) i1 i2 i3 iK ?ok ?w1 ?w2 ?w3 ?w4 ?w5 ?w6 ?w7 (kst_newsOf lN9 ?w9)) lN9 ?_); (case ok => exact meet_at (hM i j (by assumption) (by assumption))); (case w1 => k_asm); (case w2 => k_asm); (case w3 => k_asm); (case w4 => k_asm); (case w5 => first | exact rfl | assumption); (case w6 => walk_at "lt_room"); (case w7 => walk_at "lt_units"); (case w9 => walk_at "m_perm"); (clear lN9); intro t9 h9 tk9 F9 N9; dsimp only)
  k_steps
  case' done =>
    refine Stop.mk fun hle => ?_
    refine' k _ _ _ hle (fr_names ?ha ?hF) kNews
    case hF => assumption
    case ha => kst_all
  case' donex =>
    rename News _ _ _ _ => nE
    refine Stop.mk (yend_ (σ := Unit) () (by assumption) nE ?hn ?ho kOff trivial (by kst_all) trivial fun _ => Nat.zero_le _)
    case hn => exact fun p hp => List.mem_append_left _ hp
    case ho => exact fun p hp => List.mem_append_right _ hp
  · refine Stop.mk (ksw_end (σ := (Int × Tok) × (Int × Tok)) ((_, _), (_, _)) (by assumption) (by assumption) ?hn1 trivial (by kst_all) (by walk_at "m_same") (lc_one hoB kWh (by omega) rfl).1 (lc_one (ta2 := 0) (tb2 := 0) hoB kWh (by omega) rfl).2)
    case hn1 => first | kst_in | kst_inAny
  · refine Stop.mk (ksw_end (σ := (Int × Tok) × (Int × Tok)) ((_, _), (_, _)) (by assumption) (by assumption) ?hn2 trivial (by kst_all) (by walk_at "m_same") (lc_two hoB kWh (by assumption) (by omega) rfl).1 (lc_two (ta2 := 0) (tb2 := 0) hoB kWh (by assumption) (by omega) rfl).2)
    case hn2 => first | kst_in | kst_inAny
  · exfalso
    have eL := lc_end kWh (by assumption)
    have eM := (hM i j (by assumption) (by assumption)).2
    have nM : meetF lb fl he ho (0 + (i : Int)) (0 + (j : Int)) ≠ a1 := by assumption
    rw [Int.zero_add, Int.zero_add, eM, eL] at nM
    exact nM rfl
  · rename News _ _ _ _ => nE
    refine Stop.mk (yend_ (σ := Unit) () (by assumption) nE ?hn3 ?ho3 kOff trivial (by kst_all) trivial fun _ => Nat.zero_le _)
    case hn3 => first | kst_in | kst_inAny
    case ho3 => first | kst_anyIn | kst_inAny
end
set_option maxRecDepth 100000
set_option maxHeartbeats 8000000
section
variable {w : World} {p : Program} {loose : List Str} {mean : ExcName → Option Value} {mg mb : Str → Option Value} {dp un : Nat} {gd : Option (List Code)} {outer : List Env} {A₀ : Around} {base g : Heap} {L fa : Addr} {cd : Value} {s : Shared} {Q : Flow → Shared → Prop} {u : Str → Option Value}
variable {SL C LA : Addr} {cv lv : List Value} {cn ln : Nat}
theorem sl_9 {led : List (Addr × Obj)} (B : Below A₀ base outer g) (X : (hd.heap_1 w.params).In g) (TP : Top p loose mean mg mb g) (hdp : dp + 30 < recursionLimit) (hun : un + 400 < cLine) (F : Fr g L s.heap (kstB u [])) (N : News g L s.heap led)
    (k : ∀ u' h' tk', s.toks ≤ tk' → Fr g L h' (kstB u' []) → Q (.ret (.bool true)) { s with heap := h', toks := tk' }) :
    wpAny (model PR w) (lwA w.params dp un gd L fa cd outer) (exec (nth (lwBody w.params) 9) (lwEnv w.params L fa cd)) Q (fun _ _ => False) s := by
  k_with_none
  w_top off
  k_with "m_enter" => ((case kA => exact rfl); (case kF => exact rfl); (case kK => assumption); (case k1 => k_asm); (case k2 => k_asm); (case k3 => k_asm); (case k5 => k_asm); (case k6 => k_is); (case k7 => k_is); (case k8 => walk_at "lt_room"); (case k9 => exact BindsTo.of_eq rfl); (case c5 => decide); (case kB => exact locs rfl); (case c2 => exact rfl); (case c3 => exact rfl); (case c4 => exact rfl); k_whole; intro g' L' h' F' N' B' X' T'; (try dsimp only [List.reverse, List.reverseAux, List.length]))
  k_with "m_pure" => ((case k1 => k_asm); (case k2 => k_asm); (case k3 => k_asm); (case k4 => k_asm); (case kK => first | exact rfl | assumption); (case kd => walk_at "lt_room"); (case ku => walk_at "lt_units"))
  k_with "m_useI" => (walk_at "m_pure"; (case k5 => k_asm); intro t9 h9 tk9 F9 N9; (try dsimp only); (try k_sweep))
  k_with "m_same" => (intro z h2 h3; (try simp only [List.forall_mem_cons, List.not_mem_nil, false_implies, implies_true, and_true, ne_eq, List.contains_cons, List.contains_nil, Bool.or_false, Bool.or_eq_false_iff, beq_eq_false_iff_ne] at h2 h3); simp [kstB, h2, h3])
  k_with "m_useB" => (walk_at "m_pure"; (case k5 => k_asm); intro h9 tk9 F9 N9; (try dsimp only); (try k_sweep))
  k_with "l_idx" => (k_dflt (k_extra "m_idx"))
  k_with "g9" => (k_here; (with_reducible show wpAny _ _ (subscriptTail _ _ (Value.ref _) (Value.int _ _)) _ _ _))
  k_with "a9" => ((case k1 => is_list); (case k3 => omega); (case k5 => omega); (case k6 => with_unfolding_all rfl); k_whole)
  k_with "m_sameN" => (intro z h1 h2 h3; (try simp only [List.forall_mem_cons, List.not_mem_nil, false_implies, implies_true, and_true, ne_eq, List.contains_cons, List.contains_nil, Bool.or_false, Bool.or_eq_false_iff, beq_eq_false_iff_ne] at h2 h3); first | rfl | ((show (if z = _ then _ else _) = _); rw [if_neg h1]; rfl) | (simp [kstB, h1, h2, h3]; done))
  k_with "mul_fits" => (k_extra "m_mul")
  k_with "InvEndN" => (refine stop_ ?_)
  k_with "KswEnd" => (refine stop_ ?_)
  k_with "m_new" => (first | exact List.forall_mem_nil _ | (refine List.forall_mem_cons.mpr ⟨⟨by k_mem, by k_all⟩, ?_⟩; walk_at "m_new"))
  k_with "exec For Name Name cons nil" => (k_here; with_unfolding_all refine wpAny_For ?_)
  k_with "exec For Name Call cons nil" => (k_here; with_unfolding_all refine wpAny_For ?_)
  k_with "exec For Tuple Name cons nil" => (k_here; with_unfolding_all refine wpAny_For ?_)
  k_with "exec For Tuple Call cons nil" => (k_here; with_unfolding_all refine wpAny_For ?_)
  k_with "pyIter ref" => (k_dflt (k_extra "m_iter"))
  k_with "pyIter str" => (k_dflt (k_extra "m_siter"))
  k_with "XEnd" => (dsimp only [XEnd])
  k_with "XEndN" => (refine stop_ ?_)
  k_with "k_all" => (first | (with_reducible assumption) | (refine List.forall_mem_append.mpr ⟨?_, ?_⟩ <;> k_all) | fail "m_all")
  k_with "k_room" => (walk_at "lt_room")
  k_with "k_room" => (walk_at "lt_room")
  k_with "k_units" => (walk_at "lt_units")
  k_with "size_fits" => ((simp only [List.size_toArray, Array.size_push, PySem.sizeLine_eq]); omega)
  k_with "m_perm" => (first | exact List.forall_mem_nil _ | (refine List.forall_mem_cons.mpr ⟨?_, ?_⟩; (focus (k_mem; done)); (focus (walk_at "m_perm"; done))) | (refine List.forall_mem_append.mpr ⟨?_, ?_⟩; (focus (walk_at "m_perm"; done)); (focus (walk_at "m_perm"; done))) | (intro q hq; (repeat first | exact hq | exact List.mem_append_left _ hq | exact List.mem_append_right _ hq | exact List.mem_append_left _ (List.mem_append_left _ hq) | exact List.mem_append_left _ (List.mem_append_right _ hq) | refine List.Mem.tail _ ?_); done) | (trace "heavy m_perm"; intro q hq; simp only [List.mem_cons, List.mem_append, List.not_mem_nil, or_false] at hq ⊢; (repeat' (refine Or.elim hq ?_ ?_ <;> (clear hq; intro hq))) <;> simp [hq]))
  k_with "k_mem" => ((repeat (first | with_reducible assumption | with_reducible exact List.mem_cons_self | with_reducible refine List.mem_cons_of_mem _ ?_ | with_reducible refine List.mem_append_left _ ?_)); done)
  k_with "g37" => skip
  k_with "a37" => ((case N => k_asm); (case h1 => k_mem); (case h2 => k_extra "m_dx"))
  k_with "k_all" => (first | (with_reducible assumption) | (with_reducible refine List.forall_mem_append.mpr ⟨?_, ?_⟩ <;> k_all) | fail "m_all")
  k_with "k_room" => (walk_at "lt_room")
  k_with "loadName" => (k_here; (rename Fr _ _ _ _ => lF9); k_dflt (refine ldX lF9 (by rfl) ?_))
  k_with "k_room" => (walk_at "lt_room")
  k_with "k_units" => (walk_at "lt_units")
  k_with "size_fits" => ((simp only [List.size_toArray, Array.size_push, PySem.sizeLine_eq]); omega)
  k_with "YEnd" => (dsimp only [YEnd])
  k_with "YEndN" => (refine stop_ ?_)
  k_with "lt_room" => (first | with_unfolding_all exact room2 (j := 0) hdp rfl rfl | with_unfolding_all exact room0 (j := 0) hdp rfl rfl | with_unfolding_all exact room2 (j := 1) hdp rfl rfl | with_unfolding_all exact room0 (j := 1) hdp rfl rfl | with_unfolding_all exact room2 (j := 2) hdp rfl rfl | with_unfolding_all exact room0 (j := 2) hdp rfl rfl | with_unfolding_all exact room2 (j := 3) hdp rfl rfl | with_unfolding_all exact room0 (j := 3) hdp rfl rfl | with_unfolding_all exact room2 (j := 4) hdp rfl rfl | with_unfolding_all exact room0 (j := 4) hdp rfl rfl | with_unfolding_all exact room2 (j := 5) hdp rfl rfl | with_unfolding_all exact room0 (j := 5) hdp rfl rfl | with_unfolding_all exact room2 (j := 6) hdp rfl rfl | with_unfolding_all exact room0 (j := 6) hdp rfl rfl | with_unfolding_all exact room2 (j := 7) hdp rfl rfl | with_unfolding_all exact room0 (j := 7) hdp rfl rfl | (trace "heavy"; ktr_room))
  k_with "lt_units" => (first | with_unfolding_all exact room2 (j := 0) hun rfl rfl | with_unfolding_all exact room0 (j := 0) hun rfl rfl | with_unfolding_all exact room2 (j := 1) hun rfl rfl | with_unfolding_all exact room0 (j := 1) hun rfl rfl | with_unfolding_all exact room2 (j := 2) hun rfl rfl | with_unfolding_all exact room0 (j := 2) hun rfl rfl | with_unfolding_all exact room2 (j := 3) hun rfl rfl | with_unfolding_all exact room0 (j := 3) hun rfl rfl | with_unfolding_all exact room2 (j := 4) hun rfl rfl | with_unfolding_all exact room0 (j := 4) hun rfl rfl | with_unfolding_all exact room2 (j := 5) hun rfl rfl | with_unfolding_all exact room0 (j := 5) hun rfl rfl | with_unfolding_all exact room2 (j := 6) hun rfl rfl | with_unfolding_all exact room0 (j := 6) hun rfl rfl | with_unfolding_all exact room2 (j := 7) hun rfl rfl | with_unfolding_all exact room0 (j := 7) hun rfl rfl | (trace "heavy"; ktr_units))
  have kMark : KstMark := kstMark
  refine toks_ ?_
  conv in nth _ _ => whnf
  unfold lwA lwEnv
  generalize hsc : (fdAt w.params 258).scope = sc
  conv at hsc => lhs; whnf
  subst hsc
  dsimp only [kstB] at F
  k_steps
  refine Stop.mk fun hle => ?_
  refine' k _ _ _ hle (fr_names ?ha ?hF)
  case hF => assumption
  case ha => kst_all
theorem lwBody_eq (P : Params) : lwBody P = [nth (lwBody P) 0, nth (lwBody P) 1, nth (lwBody P) 2, nth (lwBody P) 3, nth (lwBody P) 4, nth (lwBody P) 5, nth (lwBody P) 6, nth (lwBody P) 7, nth (lwBody P) 8, nth (lwBody P) 9] := by
  with_unfolding_all rfl
theorem law_body {sv : List Value} {ns : List Int} (hS : g.IsList SL sv.toArray) (hI : IntsAre sv ns) (hpos : 0 < s.toks) (B : Below A₀ base outer g) (X : (hd.heap_1 w.params).In g) (TP : Top p loose mean mg mb g) (hdp : dp + 30 < recursionLimit) (hun : un + 400 < cLine) (F : Fr g L s.heap (kstB u [(Str.ofString "script", .ref SL)]))
    (k : ∀ u' h' tk', s.toks ≤ tk' → Fr g L h' u' → Q (.ret (.bool true)) { s with heap := h', toks := tk' }) :
    wpAny (model PR w) (lwA w.params dp un gd L fa cd outer) (execs (lwBody w.params) (lwEnv w.params L fa cd)) Q (fun _ _ => False) s := by
  rw [lwBody_eq]
  refine wpAny_execs_cons (sl_0 B X TP hdp hun F News.nil ?_)
  intro u0 h0 tk0 C cv0 cn0 codes0 l0 iC0 c7 F0 N0
  refine wpAny_execs_cons (sl_codes hS hI iC0 c7 B X TP hdp hun F0 N0 ?_)
  intro u1 h1 tk1 cv1 cn1 codes1 l1 iC1 c71 F1 N1
  refine wpAny_execs_cons (sl_2 B X TP hdp hun F1 N1 ?_)
  intro u2 h2 tk2 LA lv0 ln0 l2 neL iL0 F2 N2
  refine wpAny_execs_cons (sl_leads iC1 c71 neL iL0 B X TP hdp hun F2 N2 ?_)
  intro u3 h3 tk3 lv ln leads l3 iL hP F3 N3
  have ok := leads_ok hP
  refine wpAny_execs_cons (sl_4 iL ok.len ok.hC ok.hA ok.hL ok.top B X TP hdp hun F3 N3 ?_)
  intro u4 h4 tk4 G gv gn hs l4 iG hG8 hGI F4 N4
  have hp4 : 0 < tk4 := Nat.lt_of_lt_of_le hpos (Nat.le_trans l0 (Nat.le_trans l1 (Nat.le_trans l2 (Nat.le_trans l3 l4))))
  refine wpAny_execs_cons (sl_5 hp4 iL ok.len ok.hC ok.hA ok.hL ok.ok ok.top' B X TP hdp hun F4 N4 ?_)
  intro u5 h5 tk5 T K S kv kn sv5 sn hooks lasts way l5 iK iS hR F5 N5
  have hR' := read_congr ok.eq ok.top' hR (Nat.le_refl _)
  have eH := hung_is hGI hG8 ok.top hR'
  subst eH
  have hV := reach_all walk_all ok.top' hR (by decide) (Nat.le_refl _)
  obtain ⟨hT, hM⟩ := checkV_ok hV
  refine wpAny_execs_cons (sl_6 B X TP hdp hun F5 N5 ?_)
  intro u6 h6 tk6 l6 F6 N6
  refine wpAny_execs_cons (sl_7 iK iS hT B X TP hdp hun F6 N6 ?_)
  intro u7 h7 tk7 D l1' l2' l3' v1 v2 v3 n1 n2 n3 l7 i1 i2 i3 F7 N7
  refine wpAny_execs_cons (sl_8 iG i1 i2 i3 iK hG8 (fun r h1 h2 => (hT.2.2 r h1).2.2.2.2 h2) hM B X TP hdp hun F7 N7 ?_)
  intro u8 h8 tk8 l8 F8 N8
  refine wpAny_execs_cons (sl_9 B X TP hdp hun (fr_names (fun _ h => nomatch h) F8) N8 ?_)
  intro u9 h9 tk9 l9 F9
  exact k _ h9 tk9 (Nat.le_trans l0 (Nat.le_trans l1 (Nat.le_trans l2 (Nat.le_trans l3 (Nat.le_trans l4 (Nat.le_trans l5 (Nat.le_trans l6 (Nat.le_trans l7 (Nat.le_trans l8 l9))))))))) F9
end
end Mine
open Mine PySem.Spec PySem.Calls
local macro_rules | `(tactic| k_qdec) => `(tactic| decide +kernel)
set_option maxRecDepth 100000 in
set_option maxHeartbeats 8000000 in
theorem PySem.Challenge.cw_xg0062_01_holds : PySem.Challenge.rw_xg0062_01.Holds :=
  hd ⟨left, by
  k_with_none
  w_strict (k_go0; (all_goals try k_fold); (rename Below _ _ _ _ => B9); (rename Frag.In _ _ => X9); (rename Top _ _ _ _ _ _ => T9); (rename IntsAre _ _ => I9); (rename Heap.IsList _ _ _ => S9); (rename Fr _ _ _ _ => F9); (refine wpAny_mono (law_body S9 I9 ?zpos B9 X9 T9 ?zdp ?zun (fr_names ?za F9) ?zk) (fun _ _ q => q) (fun _ _ e => e.elim)); (case zpos => exact Nat.succ_pos _); (case zdp => decide +kernel); (case zun => decide +kernel); (case za => kst_all); (case zk => (intro u9 h9 tk9 le9 G9; k_steps)))⟩
