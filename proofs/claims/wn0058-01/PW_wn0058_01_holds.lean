import PyProof.Rows.All
import Wide.All
import OpenK.AllK
import Wide.FinOn
import Lean
import PySem.Challenge.RW_wn0058_01
open PySem PySem.W PyProof.Rows PySem.Calls PySem.Spec
set_option Elab.async false
set_option linter.unusedVariables false
set_option compiler.extract_closed false
set_option maxRecDepth 100000
set_option maxHeartbeats 8000000
namespace Mine
/-- the kept statements of the text -/
noncomputable def vw : Program := view PySem.Challenge.pw_wn0058_01 [1, 2, 7, 9, 10, 11, 12, 13, 14, 15]
theorem law_said : OpenLaw.wellSaid PySem.Challenge.rw_wn0058_01 = true := by kernel_rfl
/-- what the text's run leaves in a world -/
noncomputable def Ran (H : Hook) (w : World) : Prop :=
  (openEnds treeTable (OpenLaw.row PySem.Challenge.rw_wn0058_01).prog w 1800).map (fun s => (openSeen vw [Str.ofString "COMPILER_FLAG_NAMES", Str.ofString "insort_left", Str.ofString "bisect_left"] [] (fun s => xlAt vw [] s && recOk (RowW.records (OpenRow.toRowW (OpenLaw.row PySem.Challenge.rw_wn0058_01))) s) true s, Hook.obs H s)) =
    some (openGood vw [Str.ofString "COMPILER_FLAG_NAMES", Str.ofString "insort_left", Str.ofString "bisect_left"], Hook.val H w)
theorem row_by (H : Hook) {d : DefRec} {kwd : List (Str × Expr)} (k1 : (OpenLaw.row PySem.Challenge.rw_wn0058_01).wellSaid = true)
    (hdef : defOf vw (OpenLaw.row PySem.Challenge.rw_wn0058_01).name = some (d, kwd)) (hp : (OpenLaw.row PySem.Challenge.rw_wn0058_01).prog.theDef (OpenLaw.row PySem.Challenge.rw_wn0058_01).name = some (d.params, d.body, d.scope)) (hk : kwWritten? d.params.kwonlyargs d.params.kw_defaults = some kwd)
    (hw : (OpenLaw.row PySem.Challenge.rw_wn0058_01).toRowW.promised)
    (hc : ((∀ w : World, Ran H (w.withFollow "special-get-raises" false)) ∧ ∀ w : World, Ran H (w.withFollow "special-get-raises" true)) ∧
      WalkO vw [Str.ofString "COMPILER_FLAG_NAMES", Str.ofString "insort_left", Str.ofString "bisect_left"] (XL vw []) (Hook.says H) (OpenLaw.row PySem.Challenge.rw_wn0058_01).toRowW d kwd fun f vs => PySem.call f vs) : (OpenLaw.row PySem.Challenge.rw_wn0058_01).Holds :=
  holds_open (N := 1800) (byRow2 "special-get-raises" (P := Ran H) hc.1.1 hc.1.2) (Hook.of H) (Hook.keeps H) (fun s e => xl_of s (Bool.and_eq_true_iff.mp e).1) XL.keeps hdef hp hk (fun s e => recFacts_of (Bool.and_eq_true_iff.mp e).2) (by rfl) k1 (by decide +kernel) ⟨rfl, rfl, rfl, rfl, rfl, by decide +kernel⟩ hw hc.2
theorem and_on {P Q R : Prop} (h : P ∧ Q → R) (p : P) (q : Q) : R := h ⟨p, q⟩
section
-- the head by hand, in one check of the kernel's each: no twins of the program and of the heap (they took 11 MB of the compiled file)
local macro_rules | `(tactic| o_law) => `(tactic| refine holds_law law_said fun said => ?_)
local macro_rules | `(tactic| o_head $H) => `(tactic| (apply row_by $H (by assumption) (by rfl) (by rfl) (by rfl)))
open_top hd for PySem.Challenge.rw_wn0058_01
end
noncomputable def hk1 : Hook := kmHook hd.heap_1 [2, 3, 6, 15, 16, 18, 19, 21, 22, 23, 24, 25, 27, 28, 30, 31, 32, 33, 34, 36, 37, 39, 40, 48, 50, 51, 53, 54, 55, 57, 58, 60, 61, 62, 64, 65, 67, 68, 69, 71, 72, 74, 75, 76, 77, 78, 79, 80, 83, 85, 86, 88, 89, 90, 92, 93, 95, 96, 97,
  99, 100, 102, 103, 104, 106, 107, 109, 110, 111, 113, 114, 116, 117, 118, 121, 122, 123, 126, 127] (fun _ => by kernel_rfl) [84]
-- what the run of the top leaves: one check of the kernel's for each answer of the world's one row
theorem ran_f : ∀ w : World, Ran hk1 (w.withFollow "special-get-raises" false) := by intro w; unfold Ran; kernel_rfl
theorem ran_t : ∀ w : World, Ran hk1 (w.withFollow "special-get-raises" true) := by intro w; unfold Ran; kernel_rfl

noncomputable abbrev pr : Program := PySem.Challenge.rw_wn0058_01.row.prog
noncomputable def loose : List Str := looseW vw [Str.ofString "COMPILER_FLAG_NAMES", Str.ofString "insort_left", Str.ofString "bisect_left"] ++ (recsOf vw).map (·.name) ++ (litsOf vw).map (·.1) ++
  (clssOf vw (looseW vw [Str.ofString "COMPILER_FLAG_NAMES", Str.ofString "insort_left", Str.ofString "bisect_left"])).map (·.name)


noncomputable def Led (h₀ h : Heap) (led : List (Addr × Obj)) : Prop := ∀ p ∈ led, h.get? p.1 = some p.2 ∧ h₀.get? p.1 = none

structure Cx (w : World) (A : Around) (h₀ h : Heap) (mean : ExcName → Option Value) (mg mb : Str → Option Value) : Prop where
  top : Top topProg loose mean mg mb h₀
  K : (hd.heap_1 w.params).In h₀
  sub : h₀.StaysIn h
  hand : A.handled = none

/-- the contract of a call: what it asks, what it keeps, what it gives -/
noncomputable def Con (w : World) (f : Value) (vs : List Value) (room units : Nat) (led : List (Addr × Obj)) (pre : Heap → Prop) (post : Heap → Value → List (Addr × Obj) → Prop) : Prop :=
  ∀ (A : Around) (h₀ : Heap) (mean : ExcName → Option Value) (mg mb : Str → Option Value) (s : Shared) (R : Result → Shared → Prop),
    Cx w A h₀ s.heap mean mg mb → Led h₀ s.heap led → pre s.heap → A.depth + room < recursionLimit → A.units + 8 * units < cLine →
    (∀ r led' h' tk', post s.heap r led' → (∀ b o, s.heap.get? b = some o → b ∉ led.map (·.1) → h'.get? b = some o) → (∀ p ∈ led', h'.get? p.1 = some p.2 ∧ (p.1 ∈ led.map (·.1) ∨ s.heap.get? p.1 = none)) →
      R (.ok (.ret r)) { s with heap := h', toks := tk' }) →
    codeAny (model PySem.Challenge.rw_wn0058_01.row.prog w) A (.call f ⟨vs, []⟩) R s

theorem con_of {w : World} {led : List (Addr × Obj)} {name qual : Str} {params : Arguments} {body : List Stmt} {scope : Scope}
    {dV kV doc pm cdv ct oc : Value} {an od : Option Addr} {osl : Array (Option Value)} {f : Addr} {vs : List Value} {room units : Nat} {pre : Heap → Prop} {post : Heap → Value → List (Addr × Obj) → Prop} (binds : List (Str × Value))
    (ho : (hd.heap_1 w.params).lookup f = some ⟨oc, od, .func (fnOf name qual params body scope dV kV doc pm an cdv ct), osl⟩) (hcd : codeIn (hd.heap_1 w.params) cdv qual = true)
    (hbind : ∀ S, peek (hd.heap_1 w.params) S (bindArgs (fnOf name qual params body scope dV kV doc pm an cdv ct) ⟨vs, []⟩) = some binds) (hloc : (binds.all fun x => decide (scope.names.lookup x.1 = some .local)) = true)
    (hco : scope.isCoroutine = false) (hgen : scope.isGenerator = false) (hk : scope.kind = .function)
    (hcell : ∀ x ∈ scope.names, x.2 ≠ .cell)
    (h : ∀ (A : Around) (g : Heap) (L' : Addr) (h₁ : Heap) (tk : Nat) (hp0 : Heap) (gs : Array GenState) (dr : Drawn) (os : OsState) (mean : ExcName → Option Value) (mg mb : Str → Option Value) (R : Result → Shared → Prop),
      A.handled = none → A.depth + room < recursionLimit → A.units + 8 * units < cLine → Fr g L' h₁ (fun y => binds.reverse.lookup y) → News g L' h₁ led → (hd.heap_1 w.params).In g → Top topProg loose mean mg mb g →
      pre hp0 → (∀ b o, hp0.get? b = some o → b ∉ led.map (·.1) → g.get? b = some o) → (∀ p ∈ led, p.1 < L') →
      (∀ r led' h' tk' m', post hp0 r led' → Fr g L' h' m' → News g L' h' led' → R (.ok (.ret r)) ⟨h', gs, dr, tk', os⟩) →
      wpAny (model PySem.Challenge.rw_wn0058_01.row.prog w) (A.deeper (envOf qual scope L' f cdv)) (execs body (envOf qual scope L' f cdv))
        (fun fl s' => R (.ok (.ret (match fl with | .ret v => v | _ => .none))) s') (fun _ _ => False)
        ⟨h₁, gs, dr, tk, os⟩) : Con w (.ref f) vs room units led pre post := by
  intro A h₀ mean mg mb s R C D hpre hroom hunits hR
  have X := C.K.keeps C.sub
  have nm : ∀ b o, h₀.get? b = some o → b ∉ led.map (·.1) := fun b o e q => by
    obtain ⟨p, hp, rfl⟩ := List.mem_map.mp q
    rw [(D p hp).2] at e; cases e
  have st : ∀ b o, h₀.get? b = some o → (hideAll s.heap (led.map (·.1))).get? b = some o := fun b o e => hideAll_get _ (C.sub b o e) (nm b o e)
  refine codeAny_call_def (fd := fnOf name qual params body scope dV kV doc pm an cdv ct) (body := body) (binds := binds) (by omega) (X _ _ ho) rfl (C.top.nolimit.keeps C.sub) (codeRec_of X hcd) rfl
    (fun M A E Q hq => (Looks.of_peek (M := M) X (hbind _)).here hq) hcell (locs hloc) (fun h₁ hns hk₁ => ?_) hco hgen hk
  have F : Fr (hideAll s.heap (led.map (·.1))) s.heap.objs.size h₁ (fun y => binds.reverse.lookup y) := ⟨hns, fun b o e => hk₁ b o (of_hideAll _ e), Nat.le_of_eq (hideAll_size _ _)⟩
  have N : News (hideAll s.heap (led.map (·.1))) s.heap.objs.size h₁ led := fun p hp => ⟨hk₁ _ _ (D p hp).1, Nat.ne_of_lt (Heap.lt_size (D p hp).1), hideAll_none _ (List.mem_map_of_mem hp)⟩
  refine wpAny_mono (h A (hideAll s.heap (led.map (·.1))) s.heap.objs.size h₁ _ s.heap s.gens s.drawn s.os mean mg mb R C.hand hroom hunits F N (C.K.keeps st) (C.top.keeps st) hpre (fun b o e q => hideAll_get _ e q) (fun p hp => Heap.lt_size (D p hp).1) ?_) (fun fl s' hl => hl) fun _ _ x => x.elim
  intro r led' h' tk' m' hpost F' N'
  refine hR r led' h' tk' hpost (fun b o e q => F'.keep b o (hideAll_get _ e q)) fun p hp => ⟨(N' p hp).1, ?_⟩
  cases q : s.heap.get? p.1 with
  | none => exact .inr rfl
  | some o =>
    by_cases q2 : p.1 ∈ led.map (·.1)
    · exact .inl q2
    · have e := hideAll_get _ q q2
      rw [(N' p hp).2.2] at e; cases e

/-- the same for a def with cells -/
theorem con_ofC {w : World} {led : List (Addr × Obj)} {name qual : Str} {params : Arguments} {body : List Stmt} {scope : Scope}
    {dV kV doc pm cdv ct oc : Value} {an od : Option Addr} {osl : Array (Option Value)} {f : Addr} {vs : List Value} {room units : Nat} {pre : Heap → Prop} {post : Heap → Value → List (Addr × Obj) → Prop} (binds : List (Str × Value))
    (ho : (hd.heap_1 w.params).lookup f = some ⟨oc, od, .func (fnOf name qual params body scope dV kV doc pm an cdv ct), osl⟩) (hcd : codeIn (hd.heap_1 w.params) cdv qual = true)
    (hbind : ∀ S, peek (hd.heap_1 w.params) S (bindArgs (fnOf name qual params body scope dV kV doc pm an cdv ct) ⟨vs, []⟩) = some binds)
    (hkind : (binds.all fun y => scope.names.lookup y.1 == some .local || scope.names.lookup y.1 == some .cell) = true) (hnd : ((cellsFrom 0 scope.names []).map (·.1)).Nodup)
    (hco : scope.isCoroutine = false) (hgen : scope.isGenerator = false) (hk : scope.kind = .function)
    (h : ∀ (A : Around) (g : Heap) (L' : Addr) (h₁ : Heap) (tk : Nat) (hp0 : Heap) (gs : Array GenState) (dr : Drawn) (os : OsState) (mean : ExcName → Option Value) (mg mb : Str → Option Value) (R : Result → Shared → Prop) (cells : List (Addr × Obj)),
      A.handled = none → A.depth + room < recursionLimit → A.units + 8 * units < cLine → Fr g L' h₁ (bindL (envOfC qual scope L' f cdv).kindOf binds fun _ => none) → News g L' h₁ (cells ++ led) →
      CellsAre (bindC (envOfC qual scope L' f cdv).kindOf binds fun _ => none) (cellsFrom (L' + 1) scope.names []) cells → (hd.heap_1 w.params).In g → Top topProg loose mean mg mb g →
      pre hp0 → (∀ b o, hp0.get? b = some o → b ∉ led.map (·.1) → g.get? b = some o) → (∀ p ∈ led, p.1 < L') →
      (∀ r led' h' tk' m', post hp0 r led' → Fr g L' h' m' → News g L' h' led' → R (.ok (.ret r)) ⟨h', gs, dr, tk', os⟩) →
      wpAny (model PySem.Challenge.rw_wn0058_01.row.prog w) (A.deeper (envOfC qual scope L' f cdv)) (execs body (envOfC qual scope L' f cdv))
        (fun fl s' => R (.ok (.ret (match fl with | .ret v => v | _ => .none))) s') (fun _ _ => False)
        ⟨h₁, gs, dr, tk, os⟩) : Con w (.ref f) vs room units led pre post := by
  intro A h₀ mean mg mb s R C D hpre hroom hunits hR
  have X := C.K.keeps C.sub
  have nm : ∀ b o, h₀.get? b = some o → b ∉ led.map (·.1) := fun b o e q => by
    obtain ⟨p, hp, rfl⟩ := List.mem_map.mp q
    rw [(D p hp).2] at e; cases e
  have st : ∀ b o, h₀.get? b = some o → (hideAll s.heap (led.map (·.1))).get? b = some o := fun b o e => hideAll_get _ (C.sub b o e) (nm b o e)
  refine codeAny_call_function (by omega) (X _ _ ho) rfl hco hgen rfl (codeRec_of X hcd) ((Looks.of_peek X (hbind _)).here ?_)
  refine wpAny_newFunctionEnv_cells hk (kindsX hkind _) fun env' he s' x => ?_
  subst he
  refine ⟨(C.top.nolimit.keeps C.sub).keeps x.toInCall.keep, codeAny_func ?_⟩
  obtain ⟨h₁, tk, rfl, _⟩ := x.done
  have hk₁ := x.toInCall.keep
  obtain ⟨cells, NC, Y⟩ := Cl.news (h₀ := s.heap) (Nat.le_refl _) fun n c hm => ⟨x.cell n c (lookup_of_mem_nodup (cellsFrom_names scope.names 0 (s.heap.objs.size + 1) [] [] rfl ▸ hnd) hm), x.above n c hm⟩
  have N : News (hideAll s.heap (led.map (·.1))) s.heap.objs.size h₁ (cells ++ led) := fun p hp => by
    rcases List.mem_append.mp hp with hp | hp
    · refine ⟨(NC p hp).1, (NC p hp).2.1, ?_⟩
      cases q : (hideAll s.heap (led.map (·.1))).get? p.1 with
      | none => rfl
      | some o => have := of_hideAll _ q; rw [(NC p hp).2.2] at this; cases this
    · exact ⟨hk₁ _ _ (D p hp).1, Nat.ne_of_lt (Heap.lt_size (D p hp).1), hideAll_none _ (List.mem_map_of_mem hp)⟩
  refine wpAny_mono (h A (hideAll s.heap (led.map (·.1))) s.heap.objs.size h₁ _ s.heap s.gens s.drawn s.os mean mg mb R cells C.hand hroom hunits ⟨x.toInCall.ns, fun b o e => hk₁ b o (of_hideAll _ e), Nat.le_of_eq (hideAll_size _ _)⟩ N Y (C.K.keeps st) (C.top.keeps st) hpre
    (fun b o e q => hideAll_get _ e q) (fun p hp => Heap.lt_size (D p hp).1) ?_) (fun fl s' hl => hl) fun _ _ x => x.elim
  intro r led' h' tk' m' hpost F' N'
  refine hR r led' h' tk' hpost (fun b o e q => F'.keep b o (hideAll_get _ e q)) fun p hp => ⟨(N' p hp).1, ?_⟩
  cases q : s.heap.get? p.1 with
  | none => exact .inr rfl
  | some o =>
    by_cases q2 : p.1 ∈ led.map (·.1)
    · exact .inl q2
    · have e := hideAll_get _ q q2
      rw [(N' p hp).2.2] at e; cases e

/-- the use of a contract at a call site of the walk -/
theorem useC {w : World} {f : Value} {vs : List Value} {room units : Nat} {led rest news : List (Addr × Obj)} {pre : Heap → Prop} {post : Heap → Value → List (Addr × Obj) → Prop}
    (C : Con w f vs room units led pre post) {A : Around} {g : Heap} {L : Addr} {m : Str → Option Value} {mean : ExcName → Option Value} {mg mb : Str → Option Value} {s : Shared} {R : Result → Shared → Prop}
    (F : Fr g L s.heap m) (X : (hd.heap_1 w.params).In g) (T : Top topProg loose mean mg mb g) (N : News g L s.heap news) (hA : A.handled = none)
    (hl : ∀ p ∈ led, p ∈ news) (hr : ∀ p ∈ rest, p ∈ news ∧ p.1 ∉ led.map (·.1)) (hp : pre s.heap) (hd : A.depth + room < recursionLimit) (hu : A.units + 8 * units < cLine)
    (h : ∀ r led' h' tk', post s.heap r led' → Fr g L h' m → News g L h' (led' ++ rest) → (∀ p ∈ led', p.1 ∈ led.map (·.1) ∨ (∀ q ∈ news, q.1 ≠ p.1)) → R (.ok (.ret r)) { s with heap := h', toks := tk' }) :
    codeAny (model PySem.Challenge.rw_wn0058_01.row.prog w) A (.call f ⟨vs, []⟩) R s := by
  refine C A g mean mg mb s _ ⟨T, X, F.keep, hA⟩ (fun p hp => ⟨(N p (hl p hp)).1, (N p (hl p hp)).2.2⟩) hp hd hu fun r led' h' tk' hpost hk hl' => ?_
  have nL : L ∉ led.map (·.1) := fun q => by
    obtain ⟨p, hp, e⟩ := List.mem_map.mp q
    exact (N p (hl p hp)).2.1 e
  have ng : ∀ b o, g.get? b = some o → b ∉ led.map (·.1) := fun b o e q => by
    obtain ⟨p, hp, e'⟩ := List.mem_map.mp q
    have := (N p (hl p hp)).2.2
    rw [e', e] at this; cases this
  obtain ⟨oL, es, ep, hL, hLd, hLk, hLf⟩ := F.ns
  refine h r led' h' tk' hpost ⟨⟨oL, es, ep, hk _ _ hL nL, hLd, hLk, hLf⟩, fun b o e => hk _ _ (F.keep b o e) (ng b o e), F.above⟩ (fun p hp => ?_) fun p hp => ?_
  · rcases List.mem_append.mp hp with hp | hp
    · obtain ⟨h1, h2⟩ := hl' p hp
      rcases h2 with h2 | h2
      · obtain ⟨q, hq, e⟩ := List.mem_map.mp h2
        exact ⟨h1, e ▸ (N q (hl q hq)).2.1, e ▸ (N q (hl q hq)).2.2⟩
      · refine ⟨h1, fun e => ?_, ?_⟩
        · rw [e, hL] at h2; cases h2
        · cases q : g.get? p.1 with
          | none => rfl
          | some o => rw [F.keep _ _ q] at h2; cases h2
    · obtain ⟨h1, h2⟩ := hr p hp
      exact ⟨hk _ _ (N p h1).1 h2, (N p h1).2.1, (N p h1).2.2⟩
  · obtain ⟨h1, h2⟩ := hl' p hp
    refine h2.imp id fun h2 q hq e => ?_
    rw [← e, (N q hq).1] at h2; cases h2
theorem use {w : World} {f : Value} {vs : List Value} {room units : Nat} {led rest news : List (Addr × Obj)} {pre : Heap → Prop} {post : Heap → Value → List (Addr × Obj) → Prop}
    (C : Con w f vs room units led pre post) {A : Around} {g : Heap} {L : Addr} {m : Str → Option Value} {mean : ExcName → Option Value} {mg mb : Str → Option Value} {s : Shared} {Q E : Value → Shared → Prop}
    (F : Fr g L s.heap m) (X : (hd.heap_1 w.params).In g) (T : Top topProg loose mean mg mb g) (N : News g L s.heap news) (hA : A.handled = none)
    (hl : ∀ p ∈ led, p ∈ news) (hr : ∀ p ∈ rest, p ∈ news ∧ p.1 ∉ led.map (·.1)) (hp : pre s.heap) (hd : A.depth + room < recursionLimit) (hu : A.units + 8 * units < cLine)
    (h : ∀ r led' h' tk', post s.heap r led' → Fr g L h' m → News g L h' (led' ++ rest) → (∀ p ∈ led', p.1 ∈ led.map (·.1) ∨ (∀ q ∈ news, q.1 ≠ p.1)) → Q r { s with heap := h', toks := tk' }) :
    wpAny (model PySem.Challenge.rw_wn0058_01.row.prog w) A (call f vs) Q E s :=
  wpAny_call (useC C F X T N hA hl hr hp hd hu h)
section
variable {M : Model} {A : Around} {s : Shared} {E E' : Value → Shared → Prop}
/-- the end of a walk as a letter: the steps then do not carry it -/
theorem opq {β : Type} {c : Sem β} {Q : β → Shared → Prop} (h : ∀ K : β → Shared → Prop, (∀ f s', Q f s' → K f s') → wpAny M A c K E s) : wpAny M A c Q E s := h Q fun _ _ q => q
theorem opqF {α β : Type} {c : Sem α} {d : Sem β} {Q : β → Shared → Prop} (h : ∀ K : β → Shared → Prop, (∀ f s', Q f s' → K f s') → wpAny M A c (fun _ s₂ => wpAny M A d K E s₂) E' s) : wpAny M A c (fun _ s₂ => wpAny M A d Q E s₂) E' s := h Q fun _ _ q => q
theorem opqE {β : Type} {c : Sem β} {Q : β → Shared → Prop} (h : ∀ (K : β → Shared → Prop) (E₁ : Value → Shared → Prop), (∀ f s', Q f s' → K f s') → (∀ e s', E e s' → E₁ e s') → wpAny M A c K E₁ s) : wpAny M A c Q E s := h Q E (fun _ _ q => q) fun _ _ q => q
end
/-- the goal behind a letter -/
theorem hid {G : Prop} (h : let K := G; K) : G := h
section
variable {M : Model} {A : Around} {env : Env} {st : Stmt} {rest : List Stmt} {Q : Flow → Shared → Prop} {E : Value → Shared → Prop} {s : Shared}
theorem execs_seq (h : let q := fun f s' => match f with | .next => wpAny M A (execs rest env) Q E s' | f => Q f s'; wpAny M A (exec st env) q E s) : wpAny M A (execs (st :: rest) env) Q E s := wpAny_execs_cons h
theorem execs_end (h : wpAny M A (exec st env) Q E s) : wpAny M A (execs [st] env) Q E s := wpAny_execs_cons (wpAny_mono h (fun f s' q => by
    cases f with
    | next => exact wpAny_execs_nil q
    | _ => exact q) fun _ _ e => e)
end
set_option hygiene false in
local macro_rules | `(tactic| walk_at "execs cons") => `(tactic| (try k_fold); first | (with_reducible refine execs_end ?_) | ((with_reducible refine execs_seq ?_); intro qn))
/-- what a frame holds, behind a letter -/
theorem fold_m {g h : Heap} {L : Addr} {m : Str → Option Value} {G : Prop} (F : Fr g L h m) (k : let m' := m; Fr g L h m' → G) : G := k F
theorem fold_n {g h : Heap} {L : Addr} {l : List (Addr × Obj)} {G : Prop} (N : News g L h l) (k : let l' := l; News g L h l' → G) : G := k N
theorem fold_E {M : Model} {A : Around} {s : Shared} {α : Type} {c : Sem α} {Q : α → Shared → Prop} {E : Value → Shared → Prop} (h : let K := E; wpAny M A c Q K s) : wpAny M A c Q E s := h
theorem fold_F {M : Model} {A : Around} {s : Shared} {E E' : Value → Shared → Prop} {α β : Type} {c : Sem α} {d : Sem β} {Q : β → Shared → Prop} (h : let K := Q; wpAny M A c (fun _ s₂ => wpAny M A d K E s₂) E' s) : wpAny M A c (fun _ s₂ => wpAny M A d Q E s₂) E' s := h
theorem kn_nil {m : Str → Option Value} : ∀ p ∈ ([] : List (Str × Value)), m p.1 = some p.2 := fun _ h => nomatch h
theorem kn_cons {m : Str → Option Value} {k : Str} {v : Value} {l : List (Str × Value)} (h : m k = some v) (t : ∀ p ∈ l, m p.1 = some p.2) : ∀ p ∈ (k, v) :: l, m p.1 = some p.2 := fun p hp => by
  rcases List.mem_cons.mp hp with rfl | hp
  · exact h
  · exact t p hp
theorem len_g {prog : Program} {w : World} {A : Around} {E : Value → Shared → Prop} {s : Shared} {g : Heap} {L : Addr} {m : Str → Option Value} {l : Addr} {items : Array Value} {Q : Value → Shared → Prop} (F : Fr g L s.heap m) (hl : g.IsList l items) (hfit : items.size ≤ 1000000)
  (h : ∀ t tk, Q (.int items.size t) { s with toks := tk }) : wpAny (model prog w) A (call (.builtin "len") [.ref l]) Q E s := by
  refine hid ?_; intro KK
  (obtain ⟨o, h1, h2⟩ := hl) <;> (k_unfold; clear KK)
  refine len_list (items := items) ⟨o, F.keep _ _ h1, h2⟩ (by omega) ?_
  exact h _ _
noncomputable def Hold (P : Prop) : Prop := P
theorem hold_of {P : Prop} (h : Hold P) : P := h
local macro_rules | `(tactic| walk_at "call builtin:len") => `(tactic| (k_here; refine' len_g ?F ?l ?f ?_; (case F => assumption); (case l => assumption); (case f => (simp only [List.size_toArray]; omega)); intro tL tkL))
local macro_rules | `(tactic| walk_at "exec While Compare cons nil") => `(tactic| (refine hold_of ?_))

structure Kd (w : World) (α : Type) where
  enc : α → PyData
  lt : α → α → Bool
  is : Value → α → Prop
  carried : ∀ {v a}, is v a → Carried v (enc a)
  lay : ∀ {v a}, is v a → (enc a).canLay0 = true ∧ (enc a).depth = 0
  eqv : ∀ a b, PyData.eqv (enc a) (enc b) = true ↔ a = b
  ltR : ∀ {A : Around} {s : Shared} {Q : Value → Shared → Prop} {E : Value → Shared → Prop} {v u : Value} {a b : α}, is v a → is u b → Q (.bool (lt a b)) s → wpAny (model PySem.Challenge.rw_wn0058_01.row.prog w) A (compareOp .Lt v u) Q E s
noncomputable def Are {α : Type} (is : Value → α → Prop) : List Value → List α → Prop
  | [], [] => True
  | v :: vs, a :: as => is v a ∧ Are is vs as
  | _, _ => False
theorem Are.length {α : Type} {is : Value → α → Prop} : ∀ {vs : List Value} {xs : List α}, Are is vs xs → vs.length = xs.length
  | [], [], _ => rfl
  | _ :: _, _ :: _, h => congrArg (· + 1) (Are.length h.2)
theorem Are.get {α : Type} {is : Value → α → Prop} : ∀ {vs : List Value} {xs : List α}, Are is vs xs → ∀ {i : Nat}, i < xs.length → ∃ v a, vs[i]? = some v ∧ xs[i]? = some a ∧ is v a
  | [], [], _, _, hi => absurd hi (Nat.not_lt_zero _)
  | v :: _, a :: _, h, 0, _ => ⟨v, a, rfl, rfl, h.1⟩
  | _ :: _, _ :: _, h, i + 1, hi => Are.get h.2 (Nat.lt_of_succ_lt_succ hi)

theorem Fr.know {g h : Heap} {L : Addr} {m : Str → Option Value} (F : Fr g L h m) (l : List (Str × Value)) (hl : ∀ p ∈ l, m p.1 = some p.2) : Fr g L h (fun y => match l.lookup y with | some v => some v | none => m y) := by
  have : (fun y => match l.lookup y with | some v => some v | none => m y) = m := by
    funext y
    cases e : l.lookup y with
    | none => rfl
    | some v =>
      have : (y, v) ∈ l := by
        clear hl
        induction l with
        | nil => cases e
        | cons p r ih =>
          refine hid ?_; intro KK
          (obtain ⟨k, u⟩ := p) <;> (k_unfold; clear KK)
          rw [List.lookup_cons] at e
          split at e
          · rename_i q
            cases e; rw [beq_iff_eq.mp q]; exact .head _
          · exact .tail _ (ih e)
      exact (hl _ this).symm
  rw [this]; exact F
theorem item_g {prog : Program} {w : World} {A : Around} {E : Value → Shared → Prop} {s : Shared} {g : Heap} {L : Addr} {m : Str → Option Value} {value slice : Expr} {l : Addr} {vs : List Value} {k : Int} {u : Tok} {Q : Value → Shared → Prop} (i : Nat) {x : Value}
    (F : Fr g L s.heap m) (hl : g.IsList l vs.toArray) (hk : k = i) (hfit : i ≤ 1000000) (hx : vs[i]? = some x) (h : Q x s)
    (hs : subscripted slice false (.ref l) (.int k u) = operate [.ref l, .int k u] (getItem (.ref l) (.int k u)) := by with_unfolding_all rfl) (hg : ∀ r, letTemporaryGo value (.ref l) r = pure () := by intro _; with_unfolding_all rfl) :
    wpAny (model prog w) A (subscriptTail value slice (.ref l) (.int k u)) Q E s := by
  refine hid ?_; intro KK
  (subst hk) <;> (k_unfold; clear KK)
  refine item_listL (F.lst hl) (by omega) (by omega) (x := x) ?_ h hs hg
  simpa using hx

section
variable {w : World} {α : Type} {K : Kd w α}
theorem Are.carried : ∀ {vs : List Value} {xs : List α}, Are K.is vs xs → CarriedAll vs (xs.map K.enc)
  | [], [], _ => .nil
  | _ :: _, _ :: _, h => .cons (K.carried h.1) (Are.carried h.2)
theorem Are.lays : ∀ {vs : List Value} {xs : List α}, Are K.is vs xs → PyData.canLayAll0 (xs.map K.enc) = true ∧ PyData.depthAll (xs.map K.enc) = 0
  | [], [], _ => ⟨rfl, rfl⟩
  | _ :: _, _ :: _, h => by
    refine hid ?_; intro KK
    (obtain ⟨a, b⟩ := K.lay h.1) <;> (k_unfold; clear KK)
    refine hid ?_; intro KK
    (obtain ⟨c, d⟩ := Are.lays h.2) <;> (k_unfold; clear KK)
    simp only [List.map_cons, PyData.canLayAll0, PyData.depthAll, a, b, c, d, Bool.and_self, true_and]
    rfl
theorem eqvAll_enc : ∀ (xs ys : List α), PyData.eqvAll (xs.map K.enc) (ys.map K.enc) = true ↔ xs = ys
  | [], [] => by simp [PyData.eqvAll]
  | [], _ :: _ => by simp [PyData.eqvAll]
  | _ :: _, [] => by simp [PyData.eqvAll]
  | a :: r, b :: t => by simp only [List.map_cons, PyData.eqvAll, Bool.and_eq_true, K.eqv, eqvAll_enc r t, List.cons.injEq]
theorem Are.shaped {vs : List Value} {xs : List α} (h : Are K.is vs xs) : SeqAt.shaped (.list (xs.map K.enc)) = true := by
  refine hid ?_; intro KK
  (obtain ⟨a, b⟩ := h.lays) <;> (k_unfold; clear KK)
  simp [SeqAt.shaped, PyData.canLay0, PyData.depth, a, b]
theorem ne_lists {A : Around} {E : Value → Shared → Prop} {s : Shared} {a b : Addr} {vs us : List Value} {xs ys : List α} {Q : Value → Shared → Prop} (ha : s.heap.IsList a vs.toArray) (hb : s.heap.IsList b us.toArray) (hx : Are K.is vs xs) (hy : Are K.is us ys) (hu : A.units + 64 < cLine)
    (h : ∀ c : Bool, (c = true ↔ xs ≠ ys) → Q (.bool c) s) : wpAny (model PySem.Challenge.rw_wn0058_01.row.prog w) A (compareOp .NotEq (.ref a) (.ref b)) Q E s := by
  refine ne_dataH (reads_newData ha hx.carried) (reads_newData hb hy.carried) hx.shaped hy.shaped hu (h _ ?_)
  have e := eqvAll_enc (K := K) xs ys
  simp only [PyData.eqv, Bool.not_eq_true', ne_eq, ← e, Bool.not_eq_true]
theorem Are.take {is : Value → α → Prop} : ∀ {vs : List Value} {xs : List α} (n : Nat), Are is vs xs → Are is (vs.take n) (xs.take n)
  | _, _, 0, _ => trivial
  | [], [], _ + 1, _ => trivial
  | _ :: _, _ :: _, n + 1, h => ⟨h.1, Are.take n h.2⟩
theorem Are.drop {is : Value → α → Prop} : ∀ {vs : List Value} {xs : List α} (n : Nat), Are is vs xs → Are is (vs.drop n) (xs.drop n)
  | _, _, 0, h => h
  | [], [], _ + 1, _ => trivial
  | _ :: _, _ :: _, n + 1, h => Are.drop n h.2
theorem Are.append {is : Value → α → Prop} : ∀ {vs us : List Value} {xs ys : List α}, Are is vs xs → Are is us ys → Are is (vs ++ us) (xs ++ ys)
  | [], _, [], _, _, h => h
  | _ :: _, _, _ :: _, _, h, k => ⟨h.1, Are.append h.2 k⟩
end
theorem pick_one (vs : List Value) (c : Nat) (hc : c ≤ vs.length) : slicePick vs.toArray (some (c : Int)) (some ((c : Int) + 1)) none = ((vs.drop c).take 1).toArray := by
  by_cases h : c < vs.length
  · have := slicePick_run vs.toArray c (c + 1) (by simp; omega) (by omega)
    rw [show ((c : Int) + 1) = ((c + 1 : Nat) : Int) by omega, this]
    simp
  · have e : c = vs.length := by omega
    have := slicePick_run vs.toArray c c (by simp [e]) (by omega)
    have e2 : slicePick vs.toArray (some (c : Int)) (some ((c : Int) + 1)) none = slicePick vs.toArray (some (c : Int)) (some (c : Int)) none := by
      simp only [slicePick, sliceBounds, List.size_toArray, Option.getD_none, show (1 : Int) > 0 by decide, if_true]
      have h1 : ¬ ((c : Int) < 0) := by omega
      have h2 : ¬ ((c : Int) + 1 < 0) := by omega
      simp only [if_neg h1, if_neg h2]
      have : min ((c : Int) + 1) (vs.length : Int) = min (c : Int) (vs.length : Int) := by omega
      rw [this]
    rw [e2, this]
    simp [e]
/-- a slice with two bounds, no step -/
theorem slice_g {prog : Program} {w : World} {A : Around} {E : Value → Shared → Prop} {s : Shared} {g : Heap} {L : Addr} {m : Str → Option Value} {news : List (Addr × Obj)} {value slice : Expr} {l : Addr} {vs us : List Value} {vl vu vk : Value} {lo hi st : Option Int} {ops : List Value} {Q : Value → Shared → Prop}
    (F : Fr g L s.heap m) (N : News g L s.heap news) (hl : s.heap.IsList l vs.toArray) (pl : IsPart vl lo) (pu : IsPart vu hi) (pk : IsPart vk st) (h0 : st ≠ some 0) (he : slicePick vs.toArray lo hi st = us.toArray) (hsz : vs.length ≤ 1000000)
    (h : ∀ b h', Fr g L h' m → News g L h' ((b, listOf us.toArray 0) :: news) → (∀ p ∈ news, p.1 < b) → Q (.ref b) { s with heap := h' })
    (hs : subscripted slice false (.ref l) (.ref s.heap.objs.size) = operate ops (getItem (.ref l) (.ref s.heap.objs.size)) := by with_unfolding_all rfl) :
    wpAny (model prog w) A (subscriptTail value slice (.ref l) (.ref s.heap.objs.size)) Q E { s with heap := s.heap.push { cls := .type "slice", data := .fields #[vl, vu, vk] } } := by
  have hsz2 : vs.toArray.size ≤ sizeLine := by simp only [List.size_toArray, sizeLine]; omega
  refine tail_any (Heap.IsList.typeIs (s := { s with heap := s.heap.push { cls := .type "slice", data := .fields #[vl, vu, vk] } }) (hl.push _)) list_getitem_lookup
    (wpAny_getItem_list_slice (hl.push _) (Heap.IsSliceOf.new ..) pl pu pk h0 ?_ hsz2) hs
  have N1 := News.push (F.push { cls := .type "slice", data := .fields #[vl, vu, vk] }) (N.grown fun _ _ e => Heap.get?_push_of_some _ e) { cls := .type "list", data := .seq (slicePick vs.toArray lo hi st) }
  rw [Heap.size_push, he] at N1
  show Q (.ref (s.heap.push _).objs.size) _
  rw [Heap.size_push, he]
  exact h _ _ ((F.push _).push _) N1 fun p hp => Nat.lt_succ_of_lt (Heap.lt_size (N p hp).1)
local macro_rules | `(tactic| walk_at $s:str) => if ["subscriptTail Name Slice ref ref", "subscriptTail Call Slice ref ref"].contains s.getString then `(tactic| (refine hold_of ?_)) else Lean.Macro.throwUnsupported
local macro_rules | `(tactic| walk_at "subscriptTail Call") => `(tactic| ((with_reducible show wpAny _ _ (subscriptTail _ (Expr.Slice _ _ _ _) _ _) _ _ _); refine hold_of ?_))
local macro_rules | `(tactic| walk_at $s:str) => if ["compareOp NotEq ref ref", "compareOp Eq ref ref", "call ref"].contains s.getString then `(tactic| (refine hold_of ?_)) else Lean.Macro.throwUnsupported
/-- an iterator whose objects stand in the ledger: what it gives at turn i, and how it ends -/
structure Iter (w : World) {σ : Type} (target : Expr) (it : Value) (Lk : Nat → σ → List (Addr × Obj)) (Ok : Nat → σ → Prop) (Le : List (Addr × Obj)) (ks : List Addr) (n : Nat) (P : Nat → Value → List (Addr × Obj) → Prop) : Prop where
  item : ∀ {A : Around} {g : Heap} {L : Addr} {m : Str → Option Value} {news : List (Addr × Obj)} {s : Shared} {Q : Value → Shared → Prop} (i : Nat) (c : σ), A.handled = none → i < n → Ok i c → Fr g L s.heap m → News g L s.heap (Lk i c ++ news) → (∀ p ∈ news, p.1 ∉ ks) →
    (∀ v ex c' h' tk, P i v ex → Ok (i + 1) c' → Fr g L h' m → News g L h' (ex ++ (Lk (i + 1) c' ++ news)) → (∀ p ∈ ex, ∀ q ∈ Lk (i + 1) c' ++ news, q.1 ≠ p.1) → Q v { s with heap := h', toks := tk }) →
    wpAny (model PySem.Challenge.rw_wn0058_01.row.prog w) A (pyNext it) (fun r s₁ => match r with
      | none => False
      | some v => wpAny (model PySem.Challenge.rw_wn0058_01.row.prog w) A (letOwnedTupleGo target it v) (fun _ s₂ => Q v s₂) (fun _ _ => False) s₁) (fun _ _ => False) s
  done : ∀ {A : Around} {g : Heap} {L : Addr} {m : Str → Option Value} {news : List (Addr × Obj)} {s : Shared} {Q : Shared → Prop} (c : σ), A.handled = none → Ok n c → Fr g L s.heap m → News g L s.heap (Lk n c ++ news) → (∀ p ∈ news, p.1 ∉ ks) →
    (∀ h' tk, Fr g L h' m → News g L h' (Le ++ news) → Q { s with heap := h', toks := tk }) →
    wpAny (model PySem.Challenge.rw_wn0058_01.row.prog w) A (pyNext it) (fun r s₁ => match r with | none => Q s₁ | some _ => False) (fun _ _ => False) s

inductive LNext (g : Heap) (L : Addr) (gs : Array GenState) (dr : Drawn) (os : OsState) (ks : List Addr) (lk : List (Addr × Obj)) (J : (Str → Option Value) → List (Addr × Obj) → Prop) (s₃ : Shared) : Prop
  | mk (h' : Heap) (tk : Nat) (m₂ : Str → Option Value) (news₂ : List (Addr × Obj)) (e : s₃ = ⟨h', gs, dr, tk, os⟩) (F : Fr g L h' m₂) (N : News g L h' (lk ++ news₂)) (n : ∀ p ∈ news₂, p.1 ∉ ks) (j : J m₂ news₂) : LNext g L gs dr os ks lk J s₃
noncomputable def LStep (g : Heap) (L : Addr) (s : Shared) (ks : List Addr) (lk : List (Addr × Obj)) (J : (Str → Option Value) → List (Addr × Obj) → Prop) (Q : Flow → Shared → Prop) (f : Flow) (s₃ : Shared) : Prop :=
  match f with
  | .next | .cont => LNext g L s.gens s.drawn s.os ks lk J s₃
  | .brk => Q .next s₃
  | .ret v => Q (.ret v) s₃

section
variable {w : World} {σ : Type} {target : Expr} {it : Value} {Lk : Nat → σ → List (Addr × Obj)} {Ok : Nat → σ → Prop} {Le : List (Addr × Obj)} {ks : List Addr} {n : Nat} {P : Nat → Value → List (Addr × Obj) → Prop}
theorem for_it (I : Iter w target it Lk Ok Le ks n P) {A : Around} {s : Shared} {g : Heap} {L : Addr} {m : Str → Option Value} {news : List (Addr × Obj)} {env : Env} {body orelse : List Stmt} {Q : Flow → Shared → Prop} {E : Value → Shared → Prop}
    (c₀ : σ) (J : Nat → (Str → Option Value) → List (Addr × Obj) → Prop) (hh : A.handled = none) (hc : Ok 0 c₀) (F : Fr g L s.heap m) (N : News g L s.heap (Lk 0 c₀ ++ news)) (hn : ∀ p ∈ news, p.1 ∉ ks) (h0 : J 0 m news)
    (step : ∀ i c v ex m₁ news₁ h₁ tk₁, i < n → P i v ex → J i m₁ news₁ → Ok (i + 1) c → Fr g L h₁ m₁ → News g L h₁ (ex ++ (Lk (i + 1) c ++ news₁)) → (∀ p ∈ ex, ∀ q ∈ Lk (i + 1) c ++ news₁, q.1 ≠ p.1) → (∀ p ∈ news₁, p.1 ∉ ks) →
      wpAny (model PySem.Challenge.rw_wn0058_01.row.prog w) A (assign target env v) (fun _ s₂ => wpAny (model PySem.Challenge.rw_wn0058_01.row.prog w) A (execs body env) (LStep g L s ks (Lk (i + 1) c) (J (i + 1)) Q) (fun _ _ => False) s₂) (fun _ _ => False) { s with heap := h₁, toks := tk₁ })
    (done : ∀ m₁ news₁ h₁ tk₁, J n m₁ news₁ → Fr g L h₁ m₁ → News g L h₁ (Le ++ news₁) → (∀ p ∈ news₁, p.1 ∉ ks) → wpAny (model PySem.Challenge.rw_wn0058_01.row.prog w) A (execs orelse env) Q (fun _ _ => False) { s with heap := h₁, toks := tk₁ }) :
    codeAny (model PySem.Challenge.rw_wn0058_01.row.prog w) A (.forLoop target it body orelse env) (fun r s' => match r with | .ok f => Q f s' | .error e => cameBackBy (model PySem.Challenge.rw_wn0058_01.row.prog w) A env E e s') s := by
  refine codeAny_forLoop_any (fun k s' => ∃ i c h' tk m' news', s' = { s with heap := h', toks := tk } ∧ k = n - i ∧ i ≤ n ∧ Ok i c ∧ Fr g L h' m' ∧ News g L h' (Lk i c ++ news') ∧ (∀ p ∈ news', p.1 ∉ ks) ∧ J i m' news') ?_ n ⟨0, c₀, s.heap, s.toks, m, news, rfl, rfl, Nat.zero_le _, hc, F, N, hn, h0⟩
  rintro k s' zz0
  refine hid ?_; intro KK
  (rcases zz0 with ⟨i, c, h', tk, m', news', rfl, rfl, hi, hc', F', N', hn', hJ⟩) <;> (k_unfold; clear KK)
  by_cases hlt : i < n
  · refine wpAny_mono (I.item (Q := fun v s₂ => ∃ c', Ok (i + 1) c' ∧ wpAny (model PySem.Challenge.rw_wn0058_01.row.prog w) A (assign target env v) (fun _ s₂ => wpAny (model PySem.Challenge.rw_wn0058_01.row.prog w) A (execs body env) (LStep g L s ks (Lk (i + 1) c') (J (i + 1)) Q) (fun _ _ => False) s₂) (fun _ _ => False) s₂)
      i c hh hlt hc' F' N' hn' (fun v ex c' h₁ tk₁ hP hc₁ F₁ N₁ hd => ⟨c', hc₁, step i c' v ex m' news' h₁ tk₁ hlt hP hJ hc₁ F₁ N₁ hd hn'⟩)) (fun r s₁ hr => ?_) fun _ _ x => x.elim
    cases r with
    | none => exact hr.elim
    | some v =>
      refine wpAny_mono hr (fun _ s₂ h₂ => ?_) fun _ _ x => x.elim
      refine hid ?_; intro KK
      (obtain ⟨c', hc₁, h₂⟩ := h₂) <;> (k_unfold; clear KK)
      refine wpAny_mono h₂ (fun _ s₃ h₃ => ?_) fun _ _ x => x.elim
      refine wpAny_mono h₃ (fun f s₄ h₄ => ?_) fun _ _ x => x.elim
      cases f with
      | next =>
        refine hid ?_; intro KK
        (obtain ⟨h', tk, m₂, news₂, rfl, F₂, N₂, hn₂, J₂⟩ := h₄) <;> (k_unfold; clear KK)
        exact ⟨n - (i + 1), by omega, i + 1, c', h', tk, m₂, news₂, rfl, rfl, by omega, hc₁, F₂, N₂, hn₂, J₂⟩
      | cont =>
        refine hid ?_; intro KK
        (obtain ⟨h', tk, m₂, news₂, rfl, F₂, N₂, hn₂, J₂⟩ := h₄) <;> (k_unfold; clear KK)
        exact ⟨n - (i + 1), by omega, i + 1, c', h', tk, m₂, news₂, rfl, rfl, by omega, hc₁, F₂, N₂, hn₂, J₂⟩
      | brk => exact h₄
      | ret v => exact h₄
  · have e : i = n := by omega
    refine hid ?_; intro KK
    (subst e) <;> (k_unfold; clear KK)
    refine wpAny_mono (I.done c hh hc' F' N' hn' (fun h₁ tk₁ F₁ N₁ => done m' news' h₁ tk₁ hJ F₁ N₁ hn')) (fun r s₁ hr => ?_) fun _ _ x => x.elim
    cases r with
    | none => exact wpAny_mono hr (fun _ _ x => x) fun _ _ x => x.elim
    | some v => exact hr.elim
end
section
variable {g h h' : Heap} {L I : Addr} {m : Str → Option Value} {o o' : Obj} {news : List (Addr × Obj)}
theorem fr_ext (F : Fr g L h m) (hx : Heap.ExtBut I h h') (h1 : I ≠ L) (h2 : g.get? I = none) : Fr g L h' m := by
  refine hid ?_; intro KK
  (obtain ⟨oL, es, ep, hL, r⟩ := F.ns) <;> (k_unfold; clear KK)
  refine ⟨⟨oL, es, ep, hx _ _ (Ne.symm h1) hL, r⟩, fun b o e => hx _ _ (fun q => ?_) (F.keep b o e), F.above⟩
  rw [q, h2] at e; cases e
theorem news_ext (N : News g L h news) (hx : Heap.ExtBut I h h') (hn : ∀ p ∈ news, p.1 ≠ I) : News g L h' news := fun p hp => ⟨hx _ _ (hn p hp) (N p hp).1, (N p hp).2⟩
theorem news_put (N : News g L h ((I, o) :: news)) (hx : Heap.ExtBut I h h') (hn : ∀ p ∈ news, p.1 ≠ I) (ho : h'.get? I = some o') : News g L h' ((I, o') :: news) := fun p hp => by
  refine hid ?_; intro KK
  (rcases List.mem_cons.mp hp with rfl | hp) <;> (k_unfold; clear KK)
  · exact ⟨ho, (N _ (.head _)).2⟩
  · exact news_ext (fun p hp => N p (.tail _ hp)) hx hn p hp
end
noncomputable abbrev rIter (x left : Int) : Obj := { cls := .type "range_iterator", data := .fields #[rawInt x, rawInt left, rawInt 1] }
theorem iter_range (w : World) (x : Str) (px : Pos) (I : Addr) (n : Nat) : Iter w (.Name x px) (.ref I) (fun i (_ : Unit) => [(I, rIter (i : Int) ((n : Int) - i))]) (fun _ _ => True) [] [I] n (fun i v ex => ex = [] ∧ ∃ t, v = .int i t) where
  item := by
    intro A g L m news s Q i c hh hi _ F N hn h
    have z := N _ (List.mem_append_left _ (.head _))
    refine wpAny_pyNext_range_item (x := (i : Int)) (left := (n : Int) - i) (step := 1) z.1 (by omega) fun h' hit hs => wpAny_pure ?_
    have hn' : ∀ p ∈ news, p.1 ≠ I := fun p hp e => hn p hp (by simp [e])
    refine h _ [] () h' _ ⟨rfl, _, rfl⟩ trivial (fr_ext F hs.extBut z.2.1 z.2.2) ?_ (fun _ h => nomatch h)
    refine news_put N hs.extBut hn' ?_
    have e1 : ((i + 1 : Nat) : Int) = (i : Int) + 1 := by omega
    have e2 : (n : Int) - ((i + 1 : Nat) : Int) = (n : Int) - i - 1 := by omega
    rw [e1]; rw [e1] at e2; rw [e2]; exact hit
  done := by
    intro A g L m news s Q c hh _ F N hn h
    have z := N _ (List.mem_append_left _ (.head _))
    have hn' : ∀ p ∈ news, p.1 ≠ I := fun p hp e => hn p hp (by simp [e])
    refine wpAny_pyNext_range_end (x := (n : Int)) (left := (n : Int) - n) (step := 1) hh z.1 (by omega) fun h' hx => ?_
    exact h h' _ (fr_ext F hx z.2.1 z.2.2) (news_ext (fun p hp => N p (.tail _ hp)) hx hn')
/-- a list of the ledger -/
theorem iter_list (w : World) (x : Str) (px : Pos) (I l : Addr) (hne : l ≠ I) (vs : List Value) (ep : Nat) :
    Iter w (.Name x px) (.ref I) (fun _ (o : Obj) => [(I, o), (l, listOf vs.toArray ep)]) (fun i o => o.cls = .type "list_iterator" ∧ o.data = .fields #[.ref l, .int i 0]) [(l, listOf vs.toArray ep)] [I, l] vs.length (fun i v ex => ex = [] ∧ vs[i]? = some v) where
  item := by
    intro A g L m news s Q i o hh hi ho F N hn h
    have z := N _ (.head _)
    have z2 := N _ (.tail _ (.head _))
    have hn' : ∀ p ∈ (l, listOf vs.toArray ep) :: news, p.1 ≠ I := fun p hp e => by
      refine hid ?_; intro KK
      (rcases List.mem_cons.mp hp with rfl | hp) <;> (k_unfold; clear KK)
      · exact hne e
      · exact hn p hp (by simp [e])
    refine wpAny_pyNext_list_item (x := vs[i]) ⟨o, z.1, ho⟩ (News.isList N (.tail _ (.head _))) (by simp [hi]) fun h' hit hs => wpAny_pure ?_
    refine hid ?_; intro KK
    (obtain ⟨o', ho', hc', hd'⟩ := hit) <;> (k_unfold; clear KK)
    exact h _ [] o' h' _ ⟨rfl, by simp [hi]⟩ ⟨hc', hd'⟩ (fr_ext F hs.extBut z.2.1 z.2.2) (news_put N hs.extBut hn' ho') (fun _ h => nomatch h)
  done := by
    intro A g L m news s Q o hh ho F N hn h
    have z := N _ (.head _)
    have hn' : ∀ p ∈ (l, listOf vs.toArray ep) :: news, p.1 ≠ I := fun p hp e => by
      refine hid ?_; intro KK
      (rcases List.mem_cons.mp hp with rfl | hp) <;> (k_unfold; clear KK)
      · exact hne e
      · exact hn p hp (by simp [e])
    refine wpAny_pyNext_list_end hh ⟨o, z.1, ho⟩ (News.isList N (.tail _ (.head _))) (by simp) fun h' hx => ?_
    exact h h' _ (fr_ext F hx z.2.1 z.2.2) (news_ext (fun p hp => N p (.tail _ hp)) hx hn')
noncomputable abbrev enumObj (it : Addr) (i : Int) (old : Value) : Obj := { cls := .type "enumerate", data := .fields #[.none, .bool false, .ref it, rawInt i, .none, old] }
/-- enumerate over a list of the ledger, its pairs unpacked -/
theorem iter_enum (w : World) (elts : List Expr) (x1 : Nat) (pos : Pos) (e it l : Addr) (h1 : it ≠ e) (h2 : l ≠ e) (h3 : l ≠ it) (vs : List Value) (ep : Nat) :
    Iter w (.Tuple elts x1 pos) (.ref e) (fun i (c : Obj × Value) => [(e, enumObj it (i : Int) c.2), (it, c.1), (l, listOf vs.toArray ep)]) (fun i c => c.1.cls = .type "list_iterator" ∧ c.1.data = .fields #[.ref l, .int i 0])
      [(l, listOf vs.toArray ep)] [e, it, l] vs.length (fun i v ex => ∃ T t x, v = .ref T ∧ vs[i]? = some x ∧ ex = [(T, { cls := .type "tuple", data := .seq #[.int i t, x] })]) where
  item := by
    rintro A g L m news s Q i zz0
    refine hid ?_; intro KK
    (rcases zz0 with ⟨o, old⟩) <;> (k_unfold; clear KK)
    rintro hh hi ho F N hn h
    have z := N _ (.head _)
    have z2 := N _ (.tail _ (.head _))
    have z3 := N _ (.tail _ (.tail _ (.head _)))
    refine wpAny_pyNext_enum_item (x := vs[i]) (i := i) (old := old) (items := vs.toArray) z.1 ⟨o, z2.1, ho⟩ (News.isList N (.tail _ (.tail _ (.head _)))) (by simp [hi]) (Ne.symm h1) fun h' hE hit hT hsz hk => ?_
    refine wpAny_letOwnedTupleGo_enum hE fun h'' hE' hs => ?_
    refine hid ?_; intro KK
    (obtain ⟨o', ho', hc', hd'⟩ := hit) <;> (k_unfold; clear KK)
    have hkk : ∀ b ob, b ≠ e → b ≠ it → s.heap.get? b = some ob → h''.get? b = some ob := fun b ob q1 q2 e1 => (hs.2 b q1).trans (hk b ob q1 q2 e1)
    have hTe : s.heap.objs.size ≠ e := Nat.ne_of_gt (Heap.lt_size z.1)
    have hTi : s.heap.objs.size ≠ it := Nat.ne_of_gt (Heap.lt_size z2.1)
    have gne : ∀ b ob, g.get? b = some ob → b ≠ e ∧ b ≠ it := fun b ob e1 => ⟨fun q => (by rw [q, z.2.2] at e1; cases e1), fun q => (by rw [q, z2.2.2] at e1; cases e1)⟩
    have gT : g.get? s.heap.objs.size = none := by
      cases q : g.get? s.heap.objs.size with
      | none => rfl
      | some ob => exact absurd (Heap.lt_size (F.keep _ _ q)) (Nat.lt_irrefl _)
    refine hid ?_; intro KK
    (obtain ⟨oL, es, ep', hL, r⟩ := F.ns) <;> (k_unfold; clear KK)
    refine h _ [(s.heap.objs.size, { cls := .type "tuple", data := .seq #[.int i s.toks, vs[i]] })] (o', vs[i]) h'' _ ⟨_, _, _, rfl, by simp [hi], rfl⟩ ⟨hc', hd'⟩
      ⟨⟨oL, es, ep', hkk _ _ (Ne.symm z.2.1) (Ne.symm z2.2.1) hL, r⟩, fun b ob e1 => hkk b ob (gne b ob e1).1 (gne b ob e1).2 (F.keep b ob e1), F.above⟩ ?_ ?_
    · intro p hp
      refine hid ?_; intro KK
      (rcases List.mem_cons.mp hp with rfl | hp) <;> (k_unfold; clear KK)
      · exact ⟨(hs.2 _ hTe).trans hT, Nat.ne_of_gt (Heap.lt_size hL), gT⟩
      · refine hid ?_; intro KK
        (rcases List.mem_cons.mp hp with rfl | hp) <;> (k_unfold; clear KK)
        · exact ⟨by simpa using hE', z.2⟩
        · refine hid ?_; intro KK
          (rcases List.mem_cons.mp hp with rfl | hp) <;> (k_unfold; clear KK)
          · exact ⟨(hs.2 _ h1).trans ho', z2.2⟩
          · refine hid ?_; intro KK
            (rcases List.mem_cons.mp hp with rfl | hp) <;> (k_unfold; clear KK)
            · exact ⟨hkk _ _ h2 h3 z3.1, z3.2⟩
            · have zp := N p (.tail _ (.tail _ (.tail _ hp)))
              have np := hn p hp
              simp only [List.mem_cons, List.not_mem_nil, or_false, not_or] at np
              exact ⟨hkk _ _ np.1 np.2.1 zp.1, zp.2⟩
    · intro p hp q hq
      have ep2 : p.1 = s.heap.objs.size := by rw [List.mem_singleton.mp hp]
      rw [ep2]
      refine hid ?_; intro KK
      (rcases List.mem_cons.mp hq with rfl | hq) <;> (k_unfold; clear KK)
      · exact Ne.symm hTe
      · refine hid ?_; intro KK
        (rcases List.mem_cons.mp hq with rfl | hq) <;> (k_unfold; clear KK)
        · exact Ne.symm hTi
        · have := N q (.tail _ (.tail _ hq))
          exact Nat.ne_of_lt (Heap.lt_size this.1)
  done := by
    rintro A g L m news s Q zz0
    refine hid ?_; intro KK
    (rcases zz0 with ⟨o, old⟩) <;> (k_unfold; clear KK)
    rintro hh ho F N hn h
    have z := N _ (.head _)
    have z2 := N _ (.tail _ (.head _))
    refine wpAny_pyNext_enum_end hh (i := vs.length) (items := vs.toArray) z.1 ⟨o, z2.1, ho⟩ (News.isList N (.tail _ (.tail _ (.head _)))) (by simp) fun h' hx => ?_
    have hn' : ∀ p ∈ (l, listOf vs.toArray ep) :: news, p.1 ≠ it := fun p hp e1 => by
      refine hid ?_; intro KK
      (rcases List.mem_cons.mp hp with rfl | hp) <;> (k_unfold; clear KK)
      · exact h3 e1
      · exact hn p hp (by simp [e1])
    exact h h' _ (fr_ext F hx z2.2.1 z2.2.2) (news_ext (fun p hp => N p (.tail _ (.tail _ hp))) hx hn')
theorem range_small (n : Nat) (hn : n ≤ 1000000) : Builtin.Range.small 0 (n : Int) 1 = true ∧ Builtin.Range.rangeSize 0 (n : Int) 1 = n := by
  have e : Builtin.Range.rangeSize 0 (n : Int) 1 = n := by
    unfold Builtin.Range.rangeSize
    (repeat' split) <;> first | omega | (simp; omega) | simp_all
  refine ⟨?_, e⟩
  unfold Builtin.Range.small
  rw [e]
  simp [Builtin.Range.rangeFitsLong]
  omega
theorem for_range {w : World} {A : Around} {s : Shared} {g : Heap} {L r : Addr} {m : Str → Option Value} {news : List (Addr × Obj)} {env : Env} {x : Str} {px : Pos} {body orelse : List Stmt} {Q : Flow → Shared → Prop} {E : Value → Shared → Prop} {tt uu vv : Tok}
    (n : Nat) (J : Nat → (Str → Option Value) → List (Addr × Obj) → Prop) (hr : IsRange s.heap r 0 n 1 tt uu vv) (hsz : n ≤ 1000000) (hh : A.handled = none) (F : Fr g L s.heap m) (N : News g L s.heap news) (h0 : J 0 m news)
    (step : ∀ I i t m₁ news₁ h₁ tk₁, i < n → J i m₁ news₁ → Fr g L h₁ m₁ → News g L h₁ ((I, rIter ((i + 1 : Nat) : Int) ((n : Int) - ((i + 1 : Nat) : Int))) :: news₁) → (∀ p ∈ news₁, p.1 ≠ I) →
      wpAny (model PySem.Challenge.rw_wn0058_01.row.prog w) A (assign (.Name x px) env (.int i t)) (fun _ s₂ => wpAny (model PySem.Challenge.rw_wn0058_01.row.prog w) A (execs body env) (LStep g L s [I] [(I, rIter ((i + 1 : Nat) : Int) ((n : Int) - ((i + 1 : Nat) : Int)))] (J (i + 1)) Q) (fun _ _ => False) s₂) (fun _ _ => False) { s with heap := h₁, toks := tk₁ })
    (done : ∀ m₁ news₁ h₁ tk₁, J n m₁ news₁ → Fr g L h₁ m₁ → News g L h₁ news₁ → wpAny (model PySem.Challenge.rw_wn0058_01.row.prog w) A (execs orelse env) Q (fun _ _ => False) { s with heap := h₁, toks := tk₁ }) :
    wpAny (model PySem.Challenge.rw_wn0058_01.row.prog w) A (pyIter (.ref r)) (fun it s₂ => codeAny (model PySem.Challenge.rw_wn0058_01.row.prog w) A (.forLoop (.Name x px) it body orelse env) (fun r s' => match r with | .ok f => Q f s' | .error e => cameBackBy (model PySem.Challenge.rw_wn0058_01.row.prog w) A env E e s') s₂) (fun _ _ => False) s := by
  refine hid ?_; intro KK
  (obtain ⟨hs, he⟩ := range_small n hsz) <;> (k_unfold; clear KK)
  refine wpAny_pyIter_range hr hs ?_
  rw [he]
  have hI : ∀ p ∈ news, p.1 ≠ s.heap.objs.size := fun p hp => Nat.ne_of_lt (Heap.lt_size (N p hp).1)
  refine for_it (iter_range w x px s.heap.objs.size n) () J hh trivial (F.push _) ?_ (fun p hp => by simpa using hI p hp) h0 ?_ ?_
  · have := News.push F N { cls := .type "range_iterator", data := .fields #[rawInt 0, rawInt (n : Int), rawInt 1] }
    simpa using this
  · rintro i zz0
    refine hid ?_; intro KK
    (rcases zz0 with ⟨⟩) <;> (k_unfold; clear KK)
    rintro v ex m₁ news₁ h₁ tk₁ hi zz1
    refine hid ?_; intro KK
    (rcases zz1 with ⟨rfl, t, rfl⟩) <;> (k_unfold; clear KK)
    rintro hJ _ F₁ N₁ _ hn₁
    exact step _ i t m₁ news₁ h₁ tk₁ hi hJ F₁ N₁ (fun p hp => by simpa using hn₁ p hp)
  · intro m₁ news₁ h₁ tk₁ hJ F₁ N₁ _
    exact done m₁ news₁ h₁ tk₁ hJ F₁ N₁
/-- the tests of a clause -/
noncomputable abbrev tests (ifs : List Expr) (env : Env) : Sem Bool := forIn ifs true fun c r => if r = true then do let ok ← isTrue c env (eval c env); pure (ForInStep.yield ok) else pure (ForInStep.yield r)
noncomputable abbrev lastTurn (e elt target iter : Expr) (ifs : List Expr) (d : Nat) (it acc : Value) (env : Env) : Sem Fin := do
  standAt iter.pos
  match ← pyNext it with
  | none => pure (.done .next)
  | some v =>
    letOwnedTupleGo target it v
    assign target env v
    let mut ok := true
    for c in ifs do
      if ok then ok ← isTrue c env (eval c env)
    if ok then
      (do let _ ← call (.builtin "list.append") [acc, ← eval elt env])
    again (.compLoop e d it acc env)
noncomputable abbrev outTurn (e target iter : Expr) (ifs : List Expr) (iter2 : Expr) (d : Nat) (it acc : Value) (env : Env) : Sem Fin := do
  standAt iter.pos
  match ← pyNext it with
  | none => pure (.done .next)
  | some v =>
    letOwnedTupleGo target it v
    assign target env v
    let mut ok := true
    for c in ifs do
      if ok then ok ← isTrue c env (eval c env)
    if ok then
      let x ← eval iter2 env
      standAt iter2.pos
      let x ← foldedSetIterable iter2 env x
      let _ ← runOwn (.compStart e (d + 1) (← holding [x] (pyIter x)) acc env) env
    again (.compLoop e d it acc env)
noncomputable def CEnd (g : Heap) (L : Addr) (s : Shared) (ks : List Addr) (lk : List (Addr × Obj)) (a : Addr) (J : List Value → (Str → Option Value) → List (Addr × Obj) → Prop) (ys : List Value) (e : Nat) (s₃ : Shared) : Prop :=
  ∃ h' tk m₂ news₂, s₃ = { s with heap := h', toks := tk } ∧ Fr g L h' m₂ ∧ News g L h' (lk ++ ((a, listOf ys.toArray e) :: news₂)) ∧ (∀ p ∈ news₂, p.1 ∉ a :: ks) ∧ J ys m₂ news₂
noncomputable def CNext (g : Heap) (L : Addr) (s : Shared) (ks : List Addr) (lk : List (Addr × Obj)) (a : Addr) (J : List Value → (Str → Option Value) → List (Addr × Obj) → Prop) (ys : List Value) (e : Nat) (y : Value) (s₃ : Shared) : Prop :=
  ∃ h' tk m₂ news₂, s₃ = { s with heap := h', toks := tk } ∧ Fr g L h' m₂ ∧ News g L h' (lk ++ ((a, listOf ys.toArray e) :: news₂)) ∧ (∀ p ∈ news₂, p.1 ∉ a :: ks) ∧ J (ys ++ [y]) m₂ news₂
theorem upd_mid {a : Addr} {o o' : Obj} : ∀ {lk r : List (Addr × Obj)}, (∀ p ∈ lk, p.1 ≠ a) → (∀ p ∈ r, p.1 ≠ a) → Upd a o o' (lk ++ ((a, o) :: r)) (lk ++ ((a, o') :: r))
  | [], _, _, h => .head h
  | p :: lk, _, h1, h => .tail (h1 p (.head _)) (upd_mid (fun q hq => h1 q (.tail _ hq)) h)
section
variable {w : World} {σ : Type} {target : Expr} {it : Value} {Lk : Nat → σ → List (Addr × Obj)} {Ok : Nat → σ → Prop} {Le : List (Addr × Obj)} {ks : List Addr} {n : Nat} {P : Nat → Value → List (Addr × Obj) → Prop}
theorem comp_last (I : Iter w target it Lk Ok Le ks n P) (hLk : ∀ i c, ∀ p ∈ Lk i c, p.1 ∈ ks) {e elt iter elt0 : Expr} {gens : List Comprehension} {scope : Scope} {pos : Pos} {ifs : List Expr} {d : Nat} {cenv : Env} {a : Addr} (he : e = .ListComp elt0 gens scope pos)
    (hturn : compTurn e d it (.ref a) cenv = lastTurn e elt target iter ifs d it (.ref a) cenv)
    {A : Around} {s : Shared} {g : Heap} {L : Addr} {m : Str → Option Value} {news : List (Addr × Obj)} {R : Result → Shared → Prop}
    (c₀ : σ) (ys₀ : List Value) (e₀ : Nat) (J : Nat → List Value → (Str → Option Value) → List (Addr × Obj) → Prop) (hh : A.handled = none) (hc : Ok 0 c₀) (ha : a ∉ ks)
    (F : Fr g L s.heap m) (N : News g L s.heap (Lk 0 c₀ ++ ((a, listOf ys₀.toArray e₀) :: news))) (hn : ∀ p ∈ news, p.1 ∉ a :: ks) (h0 : J 0 ys₀ m news)
    (hsz : ∀ i ys m nw, J i ys m nw → ys.length ≤ 1000000)
    (step : ∀ i c v ex ys e m₁ news₁ h₁ tk₁, i < n → P i v ex → J i ys m₁ news₁ → Ok (i + 1) c → Fr g L h₁ m₁ → News g L h₁ (ex ++ (Lk (i + 1) c ++ ((a, listOf ys.toArray e) :: news₁))) → (∀ p ∈ ex, ∀ q ∈ Lk (i + 1) c ++ ((a, listOf ys.toArray e) :: news₁), q.1 ≠ p.1) → (∀ p ∈ news₁, p.1 ∉ a :: ks) →
      wpAny (model PySem.Challenge.rw_wn0058_01.row.prog w) A (assign target cenv v) (fun _ s₂ => wpAny (model PySem.Challenge.rw_wn0058_01.row.prog w) A (tests ifs cenv) (fun ok s₃ => if ok = true then
        wpAny (model PySem.Challenge.rw_wn0058_01.row.prog w) A (eval elt cenv) (fun y s₄ => CNext g L s ks (Lk (i + 1) c) a (J (i + 1)) ys e y s₄) (fun _ _ => False) s₃
        else CEnd g L s ks (Lk (i + 1) c) a (J (i + 1)) ys e s₃) (fun _ _ => False) s₂) (fun _ _ => False) { s with heap := h₁, toks := tk₁ })
    (done : ∀ ys e m₁ news₁ h₁ tk₁, J n ys m₁ news₁ → Fr g L h₁ m₁ → News g L h₁ (Le ++ ((a, listOf ys.toArray e) :: news₁)) → (∀ p ∈ news₁, p.1 ∉ a :: ks) → R (.ok .next) { s with heap := h₁, toks := tk₁ }) :
    codeAny (model PySem.Challenge.rw_wn0058_01.row.prog w) A (.compLoop e d it (.ref a) cenv) R s := by
  have hL1 : ∀ i c, ∀ p ∈ Lk i c, p.1 ≠ a := fun i c p hp q => ha (q ▸ hLk i c p hp)
  have hN1 : ∀ {nw : List (Addr × Obj)} {ys : List Value} {e : Nat}, (∀ p ∈ nw, p.1 ∉ a :: ks) → ∀ p ∈ (a, listOf ys.toArray e) :: nw, p.1 ∉ ks := fun h p hp q => by
    refine hid ?_; intro KK
    (rcases List.mem_cons.mp hp with rfl | hp) <;> (k_unfold; clear KK)
    · exact ha q
    · exact h p hp (.tail _ q)
  refine codeAny_loop rfl (fun k s' => ∃ i c h' tk m' ys e news', s' = { s with heap := h', toks := tk } ∧ k = n - i ∧ i ≤ n ∧ Ok i c ∧ Fr g L h' m' ∧ News g L h' (Lk i c ++ ((a, listOf ys.toArray e) :: news')) ∧ (∀ p ∈ news', p.1 ∉ a :: ks) ∧ J i ys m' news') ?_ n ⟨0, c₀, s.heap, s.toks, m, ys₀, e₀, news, rfl, rfl, Nat.zero_le _, hc, F, N, hn, h0⟩
  rintro k s' zz0
  refine hid ?_; intro KK
  (rcases zz0 with ⟨i, c, h', tk, m', ys, e1, news', rfl, rfl, hi, hc', F', N', hn', hJ⟩) <;> (k_unfold; clear KK)
  refine (show ∀ {Q E s'}, wpAny (model PySem.Challenge.rw_wn0058_01.row.prog w) A ((compTurn e d it (.ref a) cenv).onRaise (fun x => do noteFrame x cenv; theTreesLotGoes x)) Q E s' → wpAny (model PySem.Challenge.rw_wn0058_01.row.prog w) (A.under (.compLoop e d it (.ref a) cenv)) ((model PySem.Challenge.rw_wn0058_01.row.prog w).den (.compLoop e d it (.ref a) cenv)) Q E s' from by subst he; exact fun h => h) ?_
  refine wpAny_noted ?_
  rw [hturn]
  refine wpAny_bind (wpAny_standAt (wpAny_bind ?_))
  by_cases hlt : i < n
  · refine wpAny_mono (I.item (Q := fun v s₂ => ∃ c', Ok (i + 1) c' ∧ wpAny (model PySem.Challenge.rw_wn0058_01.row.prog w) A (assign target cenv v) (fun _ s₂ => wpAny (model PySem.Challenge.rw_wn0058_01.row.prog w) A (tests ifs cenv) (fun ok s₃ => if ok = true then
        wpAny (model PySem.Challenge.rw_wn0058_01.row.prog w) A (eval elt cenv) (fun y s₄ => CNext g L s ks (Lk (i + 1) c') a (J (i + 1)) ys e1 y s₄) (fun _ _ => False) s₃
        else CEnd g L s ks (Lk (i + 1) c') a (J (i + 1)) ys e1 s₃) (fun _ _ => False) s₂) (fun _ _ => False) s₂)
      i c hh hlt hc' F' N' (hN1 hn') (fun v ex c' h₁ tk₁ hP hc₁ F₁ N₁ hd => ⟨c', hc₁, step i c' v ex ys e1 m' news' h₁ tk₁ hlt hP hJ hc₁ F₁ N₁ hd hn'⟩)) (fun r s₁ hr => ?_) fun _ _ x => x.elim
    cases r with
    | none => exact hr.elim
    | some v =>
      refine wpAny_bind (wpAny_mono hr (fun _ s₂ h₂ => ?_) fun _ _ x => x.elim)
      refine hid ?_; intro KK
      (obtain ⟨c', hc₁, h₂⟩ := h₂) <;> (k_unfold; clear KK)
      refine wpAny_bind (wpAny_mono h₂ (fun _ s₃ h₃ => wpAny_bind (wpAny_mono h₃ (fun ok s₄ h₄ => ?_) fun _ _ x => x.elim)) fun _ _ x => x.elim)
      cases ok with
      | false =>
        refine hid ?_; intro KK
        (obtain ⟨h₅, tk₅, m₂, news₂, rfl, F₂, N₂, hn₂, J₂⟩ := h₄) <;> (k_unfold; clear KK)
        exact wpAny_pure ⟨rfl, n - (i + 1), by omega, i + 1, c', h₅, tk₅, m₂, ys, e1, news₂, rfl, rfl, by omega, hc₁, F₂, N₂, hn₂, J₂⟩
      | true =>
        refine wpAny_bind (wpAny_bind (wpAny_mono h₄ (fun y s₅ h₅ => wpAny_bind ?_) fun _ _ x => x.elim))
        refine hid ?_; intro KK
        (obtain ⟨h₅, tk₅, m₂, news₂, rfl, F₂, N₂, hn₂, J₂⟩ := h₅) <;> (k_unfold; clear KK)
        have hz := hsz _ _ _ _ hJ
        refine append_K F₂ N₂ (upd_mid (hL1 _ _) (fun p hp q => hn₂ p hp (q ▸ .head _))) (fun h₆ F₆ N₆ => ?_) (by simp only [List.size_toArray, sizeLine]; omega)
        rw [List.push_toArray] at N₆
        exact wpAny_pure (wpAny_pure ⟨rfl, n - (i + 1), by omega, i + 1, c', h₆, tk₅, m₂, ys ++ [y], e1 + 1, news₂, rfl, rfl, by omega, hc₁, F₆, N₆, hn₂, J₂⟩)
  · have e : i = n := by omega
    refine hid ?_; intro KK
    (subst e) <;> (k_unfold; clear KK)
    refine wpAny_mono (I.done c hh hc' F' N' (hN1 hn') (fun h₁ tk₁ F₁ N₁ => done ys e1 m' news' h₁ tk₁ hJ F₁ N₁ hn')) (fun r s₁ hr => ?_) fun _ _ x => x.elim
    cases r with
    | none => exact wpAny_pure hr
    | some v => exact hr.elim
theorem comp_out (I : Iter w target it Lk Ok Le ks n P) {e iter iter2 elt0 : Expr} {gens : List Comprehension} {scope : Scope} {pos : Pos} {ifs : List Expr} {d : Nat} {cenv : Env} {acc : Value} (he : e = .ListComp elt0 gens scope pos)
    (hturn : compTurn e d it acc cenv = outTurn e target iter ifs iter2 d it acc cenv) (hfs : ∀ x, foldedSetIterable iter2 cenv x = pure x)
    {A : Around} {s : Shared} {g : Heap} {L : Addr} {m : Str → Option Value} {news : List (Addr × Obj)} {R : Result → Shared → Prop}
    (c₀ : σ) (J : Nat → (Str → Option Value) → List (Addr × Obj) → Prop) (hh : A.handled = none) (hc : Ok 0 c₀)
    (F : Fr g L s.heap m) (N : News g L s.heap (Lk 0 c₀ ++ news)) (hn : ∀ p ∈ news, p.1 ∉ ks) (h0 : J 0 m news)
    (step : ∀ i c v ex m₁ news₁ h₁ tk₁, i < n → P i v ex → J i m₁ news₁ → Ok (i + 1) c → Fr g L h₁ m₁ → News g L h₁ (ex ++ (Lk (i + 1) c ++ news₁)) → (∀ p ∈ ex, ∀ q ∈ Lk (i + 1) c ++ news₁, q.1 ≠ p.1) → (∀ p ∈ news₁, p.1 ∉ ks) →
      wpAny (model PySem.Challenge.rw_wn0058_01.row.prog w) A (assign target cenv v) (fun _ s₂ => wpAny (model PySem.Challenge.rw_wn0058_01.row.prog w) A (tests ifs cenv) (fun ok s₃ => if ok = true then
        wpAny (model PySem.Challenge.rw_wn0058_01.row.prog w) A (eval iter2 cenv) (fun x s₄ => wpAny (model PySem.Challenge.rw_wn0058_01.row.prog w) A (pyIter x) (fun it2 s₅ => codeAny (model PySem.Challenge.rw_wn0058_01.row.prog w) (A.mark none) (.compStart e (d + 1) it2 acc cenv)
          (fun r s₆ => match r with | .ok _ => LStep g L s ks (Lk (i + 1) c) (J (i + 1)) (fun _ _ => False) .next s₆ | .error _ => False) s₅) (fun _ _ => False) s₄) (fun _ _ => False) s₃
        else LStep g L s ks (Lk (i + 1) c) (J (i + 1)) (fun _ _ => False) .next s₃) (fun _ _ => False) s₂) (fun _ _ => False) { s with heap := h₁, toks := tk₁ })
    (done : ∀ m₁ news₁ h₁ tk₁, J n m₁ news₁ → Fr g L h₁ m₁ → News g L h₁ (Le ++ news₁) → (∀ p ∈ news₁, p.1 ∉ ks) → R (.ok .next) { s with heap := h₁, toks := tk₁ }) :
    codeAny (model PySem.Challenge.rw_wn0058_01.row.prog w) A (.compLoop e d it acc cenv) R s := by
  refine codeAny_loop rfl (fun k s' => ∃ i c h' tk m' news', s' = { s with heap := h', toks := tk } ∧ k = n - i ∧ i ≤ n ∧ Ok i c ∧ Fr g L h' m' ∧ News g L h' (Lk i c ++ news') ∧ (∀ p ∈ news', p.1 ∉ ks) ∧ J i m' news') ?_ n ⟨0, c₀, s.heap, s.toks, m, news, rfl, rfl, Nat.zero_le _, hc, F, N, hn, h0⟩
  rintro k s' zz0
  refine hid ?_; intro KK
  (rcases zz0 with ⟨i, c, h', tk, m', news', rfl, rfl, hi, hc', F', N', hn', hJ⟩) <;> (k_unfold; clear KK)
  refine (show ∀ {Q E s'}, wpAny (model PySem.Challenge.rw_wn0058_01.row.prog w) A ((compTurn e d it acc cenv).onRaise (fun x => do noteFrame x cenv; theTreesLotGoes x)) Q E s' → wpAny (model PySem.Challenge.rw_wn0058_01.row.prog w) (A.under (.compLoop e d it acc cenv)) ((model PySem.Challenge.rw_wn0058_01.row.prog w).den (.compLoop e d it acc cenv)) Q E s' from by subst he; exact fun h => h) ?_
  refine wpAny_noted ?_
  rw [hturn]
  refine wpAny_bind (wpAny_standAt (wpAny_bind ?_))
  by_cases hlt : i < n
  · refine wpAny_mono (I.item (Q := fun v s₂ => ∃ c', Ok (i + 1) c' ∧ wpAny (model PySem.Challenge.rw_wn0058_01.row.prog w) A (assign target cenv v) (fun _ s₂ => wpAny (model PySem.Challenge.rw_wn0058_01.row.prog w) A (tests ifs cenv) (fun ok s₃ => if ok = true then
        wpAny (model PySem.Challenge.rw_wn0058_01.row.prog w) A (eval iter2 cenv) (fun x s₄ => wpAny (model PySem.Challenge.rw_wn0058_01.row.prog w) A (pyIter x) (fun it2 s₅ => codeAny (model PySem.Challenge.rw_wn0058_01.row.prog w) (A.mark none) (.compStart e (d + 1) it2 acc cenv)
          (fun r s₆ => match r with | .ok _ => LStep g L s ks (Lk (i + 1) c') (J (i + 1)) (fun _ _ => False) .next s₆ | .error _ => False) s₅) (fun _ _ => False) s₄) (fun _ _ => False) s₃
        else LStep g L s ks (Lk (i + 1) c') (J (i + 1)) (fun _ _ => False) .next s₃) (fun _ _ => False) s₂) (fun _ _ => False) s₂)
      i c hh hlt hc' F' N' hn' (fun v ex c' h₁ tk₁ hP hc₁ F₁ N₁ hd => ⟨c', hc₁, step i c' v ex m' news' h₁ tk₁ hlt hP hJ hc₁ F₁ N₁ hd hn'⟩)) (fun r s₁ hr => ?_) fun _ _ x => x.elim
    cases r with
    | none => exact hr.elim
    | some v =>
      refine wpAny_bind (wpAny_mono hr (fun _ s₂ h₂ => ?_) fun _ _ x => x.elim)
      refine hid ?_; intro KK
      (obtain ⟨c', hc₁, h₂⟩ := h₂) <;> (k_unfold; clear KK)
      refine wpAny_bind (wpAny_mono h₂ (fun _ s₃ h₃ => wpAny_bind (wpAny_mono h₃ (fun ok s₄ h₄ => ?_) fun _ _ x => x.elim)) fun _ _ x => x.elim)
      cases ok with
      | false =>
        refine hid ?_; intro KK
        (obtain ⟨h₅, tk₅, m₂, news₂, rfl, F₂, N₂, hn₂, J₂⟩ := h₄) <;> (k_unfold; clear KK)
        exact wpAny_pure ⟨rfl, n - (i + 1), by omega, i + 1, c', h₅, tk₅, m₂, news₂, rfl, rfl, by omega, hc₁, F₂, N₂, hn₂, J₂⟩
      | true =>
        refine wpAny_bind (wpAny_mono h₄ (fun x s₅ h₅ => ?_) fun _ _ x => x.elim)
        refine wpAny_bind (wpAny_standAt (wpAny_bind (wpAny_of_eq (hfs x) (wpAny_bind (wpAny_holding (wpAny_mono h₅ (fun it2 s₆ h₆ => ?_) fun _ _ x => x.elim))))))
        refine wpAny_bind (wpAny_runOwn (codeAny_mono h₆ fun r s₇ h₇ => ?_))
        cases r with
        | error x => exact h₇.elim
        | ok f =>
          refine hid ?_; intro KK
          (obtain ⟨h₅, tk₅, m₂, news₂, rfl, F₂, N₂, hn₂, J₂⟩ := h₇) <;> (k_unfold; clear KK)
          exact wpAny_pure ⟨rfl, n - (i + 1), by omega, i + 1, c', h₅, tk₅, m₂, news₂, rfl, rfl, by omega, hc₁, F₂, N₂, hn₂, J₂⟩
  · have e : i = n := by omega
    refine hid ?_; intro KK
    (subst e) <;> (k_unfold; clear KK)
    refine wpAny_mono (I.done c hh hc' F' N' hn' (fun h₁ tk₁ F₁ N₁ => done m' news' h₁ tk₁ hJ F₁ N₁ hn')) (fun r s₁ hr => ?_) fun _ _ x => x.elim
    cases r with
    | none => exact wpAny_pure hr
    | some v => exact hr.elim
end
section
variable {w : World} {A : Around} {env : Env} {scope : Scope} {cl : List (Str × Addr)} {elt target iter : Expr} {ifs : List Expr} {rest : List Comprehension} {pos : Pos} {s : Shared} {g : Heap} {L : Addr} {m : Str → Option Value} {news : List (Addr × Obj)}
  {mean : ExcName → Option Value} {mg mb : Str → Option Value}
theorem comp_start {elt0 : Expr} {gens : List Comprehension} {d : Nat} {it acc : Value} {R : Result → Shared → Prop} {cenv : Env} (hg : gens[d]? = some ⟨target, iter, ifs, 0⟩)
    (h0 : codeAny (model PySem.Challenge.rw_wn0058_01.row.prog w) A (.compLoop (.ListComp elt0 gens scope pos) d it acc cenv) R s)
    (h : wpAny (model PySem.Challenge.rw_wn0058_01.row.prog w) A (pyIter it) (fun it' s' => it' = it ∧ s' = s) (fun _ _ => False) s) :
    codeAny (model PySem.Challenge.rw_wn0058_01.row.prog w) A (.compStart (.ListComp elt0 gens scope pos) d it acc cenv) R s := by
  refine codeAny_of_tree ?_
  show wpAny _ _ ((compStart (.ListComp elt0 gens scope pos) d it acc cenv).onRaise (fun x => do noteFrame x cenv; standAt theWindowsPlace)) _ _ s
  refine wpAny_notedAt ?_
  have e : (clausesOf (.ListComp elt0 gens scope pos))[d]? = some ⟨target, iter, ifs, 0⟩ := hg
  unfold compStart
  rw [e]
  show wpAny _ _ (ask >>= _) _ _ s
  refine wpAny_bind (wpAny_askSetting (wpAny_ite ?_))
  split
  · first
      | exact wpAny_bind (wpAny_pure (wpAny_pure (And.intro rfl h0)))
      | exact wpAny_pure (And.intro rfl h0)
  · refine wpAny_bind (wpAny_rule ?_)
    show wpAny _ _ (standAt iter.pos >>= _) _ _ s
    exact wpAny_bind (wpAny_standAt (wpAny_bind (wpAny_mono h (fun it' s' h' => by obtain ⟨rfl, rfl⟩ := h'; exact wpAny_pure (And.intro rfl h0)) fun _ _ x => x.elim)))
theorem comp_block (F : Fr g L s.heap m) (N : News g L s.heap news) (X : (hd.heap_1 w.params).In g) (T : Top topProg loose mean mg mb g) (hkind : scope.kind = .function) (hcell : ∀ y ∈ scope.names, y.2 ≠ .cell) {it : Value}
    {RR : Value → Addr → Result → Shared → Prop} {Post : List Value → Nat → List (Addr × Obj) → Prop} {E : Value → Shared → Prop}
    (body : ∀ g' C D h₁ tk, (hd.heap_1 w.params).In g' → Top topProg loose mean mg mb g' → (∀ b o, s.heap.get? b = some o → b ∉ news.map (·.1) → g'.get? b = some o) → Fr g' C h₁ (fun _ => none) → News g' C h₁ ((D, listOf #[] 0) :: news) → (∀ p ∈ news, p.1 < D) →
      codeAny (model PySem.Challenge.rw_wn0058_01.row.prog w) A (.compStart (.ListComp elt (⟨target, iter, ifs, 0⟩ :: rest) scope pos) 0 it (.ref D) (compEnvC scope cl C env))
        (fun r s' => r = .ok .next ∧ ∃ ys ep m' news' h' tk', s' = { s with heap := h', toks := tk' } ∧ Fr g' C h' m' ∧ News g' C h' ((D, listOf ys ep) :: news') ∧ Post ys.toList ep news') { s with heap := h₁, toks := tk })
    (hRR : ∀ D C ys ep m' news' h' tk', Post ys ep news' → h'.Ns C m' → C ≠ L → g.get? C = none → Fr g L h' m → News g L h' ((D, listOf ys.toArray ep) :: news') → (∀ p ∈ (D, listOf ys.toArray ep) :: news', p.1 ≠ C) → (∀ b o, s.heap.get? b = some o → b ∉ news.map (·.1) → h'.get? b = some o) → s.heap.objs.size ≤ D → s.heap.objs.size ≤ C → RR (.ref D) C (.ok .next) { s with heap := h', toks := tk' }) :
    wpAny (model PySem.Challenge.rw_wn0058_01.row.prog w) A (newList []) (fun acc s₃ => wpAny (model PySem.Challenge.rw_wn0058_01.row.prog w) A (newFunctionEnv scope env.globals cl [] env.qual none .none (some env)) (fun cenv s₄ =>
      codeAny (model PySem.Challenge.rw_wn0058_01.row.prog w) A (.compStart (.ListComp elt (⟨target, iter, ifs, 0⟩ :: rest) scope pos) 0 it acc { cenv with scope := relabel scope env }) (RR acc cenv.locals) s₄) E s₃) E s := by
  refine wpAny_newObj_type (wpAny_newFunctionEnv hcell (by intro y hy; simp at hy) (fun h₁ hns₁ hsb₁ => ?_) hkind)
  dsimp only at hns₁ hsb₁ ⊢
  generalize hH2 : s.heap.push { cls := .type "list", dict := none, data := .seq ([] : List Value).toArray } = H2 at hns₁ hsb₁ ⊢
  have hC : H2.objs.size = s.heap.objs.size + 1 := by rw [← hH2, Heap.size_push]
  have hDC : s.heap.objs.size ≠ H2.objs.size := by rw [hC]; exact Nat.ne_of_lt (Nat.lt_succ_self _)
  have old2 : ∀ b o, s.heap.get? b = some o → H2.get? b = some o := fun b o e => hH2 ▸ Heap.get?_push_of_some _ e
  have old : ∀ b o, s.heap.get? b = some o → h₁.get? b = some o := fun b o e =>
    hsb₁.extBut b o (Nat.ne_of_lt (hC ▸ Nat.lt_succ_of_lt (Heap.lt_size e))) (Heap.get?_push_of_some _ (old2 b o e))
  have hD1 : h₁.get? s.heap.objs.size = some (listOf #[] 0) := hsb₁.extBut _ _ hDC (Heap.get?_push_of_some _ (hH2 ▸ Heap.get?_push_size _ rfl))
  refine hid ?_; intro KK
  (obtain ⟨oL, es, ep, hL, hLd, hLk, hLf⟩ := F.ns) <;> (k_unfold; clear KK)
  have gN : ∀ b, s.heap.objs.size ≤ b → g.get? b = none := fun b hb => Heap.get?_none_of_le (Nat.le_trans F.above (Nat.le_trans (Nat.le_of_lt (Heap.lt_size hL)) hb))
  have hz := hideAll_size (news.map (·.1)) s.heap
  generalize hg' : hideAll s.heap (news.map (·.1)) = g' at hz
  have g'of : ∀ b o, g'.get? b = some o → s.heap.get? b = some o := fun b o e => by rw [← hg'] at e; exact of_hideAll _ e
  have g'N : ∀ b, s.heap.objs.size ≤ b → g'.get? b = none := fun b hb => by
    cases q : g'.get? b with
    | none => rfl
    | some o => exact absurd (Heap.lt_size (g'of _ _ q)) (Nat.not_lt.mpr hb)
  have gsub : ∀ b o, g.get? b = some o → g'.get? b = some o := fun b o e => by
    rw [← hg']
    refine hideAll_get _ (F.keep b o e) fun q => ?_
    refine hid ?_; intro KK
    (obtain ⟨p, hp, rfl⟩ := List.mem_map.mp q) <;> (k_unfold; clear KK)
    rw [(N p hp).2.2] at e; cases e
  have gL : g'.get? L = some oL := by
    rw [← hg']
    refine hideAll_get _ hL fun q => ?_
    refine hid ?_; intro KK
    (obtain ⟨p, hp, e⟩ := List.mem_map.mp q) <;> (k_unfold; clear KK)
    exact (N p hp).2.1 e
  have F1 : Fr g' H2.objs.size h₁ (fun _ => none) := ⟨hns₁, fun b o e => old b o (g'of b o e), by rw [hz, hC]; exact Nat.le_succ _⟩
  have N1 : News g' H2.objs.size h₁ ((s.heap.objs.size, listOf #[] 0) :: news) := fun p hp => by
    refine hid ?_; intro KK
    (rcases List.mem_cons.mp hp with rfl | hp) <;> (k_unfold; clear KK)
    · exact ⟨hD1, hDC, g'N _ (Nat.le_refl _)⟩
    · refine ⟨old _ _ (N p hp).1, Nat.ne_of_lt (hC ▸ Nat.lt_succ_of_lt (Heap.lt_size (N p hp).1)), ?_⟩
      rw [← hg']; exact hideAll_none _ (List.mem_map_of_mem hp)
  refine codeAny_mono (body g' _ _ h₁ _ (X.keeps gsub) (T.keeps gsub) (fun b o e q => hg' ▸ hideAll_get _ e q) F1 N1 fun p hp => Heap.lt_size (N p hp).1) fun r s' hr => ?_
  refine hid ?_; intro KK
  (obtain ⟨rfl, ys, ep', m', news', h', tk', rfl, F2, N2, hP⟩ := hr) <;> (k_unfold; clear KK)
  have hCL : H2.objs.size ≠ L := Nat.ne_of_gt (hC ▸ Nat.lt_succ_of_lt (Heap.lt_size hL))
  refine hRR _ _ ys.toList ep' m' news' h' tk' hP F2.ns hCL (gN _ (by rw [hC]; exact Nat.le_succ _)) ⟨⟨oL, es, ep, F2.keep _ _ gL, hLd, hLk, hLf⟩, fun b o e => F2.keep _ _ (gsub b o e), F.above⟩ ?_ ?_ (fun b o e q => F2.keep _ _ (hg' ▸ hideAll_get _ e q)) (Nat.le_refl _) (by rw [hC]; exact Nat.le_succ _)
  · rw [Array.toArray_toList]
    intro p hp
    refine hid ?_; intro KK
    (obtain ⟨a, b, c⟩ := N2 p hp) <;> (k_unfold; clear KK)
    refine ⟨a, fun e => ?_, ?_⟩
    · rw [e, gL] at c; cases c
    · cases q : g.get? p.1 with
      | none => rfl
      | some o => rw [gsub _ _ q] at c; cases c
  · rw [Array.toArray_toList]
    exact fun p hp => (N2 p hp).2.1
theorem comp_eval {Q : Value → Shared → Prop} {E : Value → Shared → Prop} (hclos : closureFor scope env = pure cl) (hkind : scope.kind = .function) (hnames : ∀ x ∈ scope.names, x.2 = .local → scope.names.lookup x.1 = some .local)
    (h : wpAny (model PySem.Challenge.rw_wn0058_01.row.prog w) A (eval iter env) (fun x s₁ => wpAny (model PySem.Challenge.rw_wn0058_01.row.prog w) A (pyIter x) (fun it s₂ => Hold (wpAny (model PySem.Challenge.rw_wn0058_01.row.prog w) A (newList []) (fun acc s₃ => wpAny (model PySem.Challenge.rw_wn0058_01.row.prog w) A (newFunctionEnv scope env.globals cl [] env.qual none .none (some env)) (fun cenv s₄ =>
      codeAny (model PySem.Challenge.rw_wn0058_01.row.prog w) A (.compStart (.ListComp elt (⟨target, iter, ifs, 0⟩ :: rest) scope pos) 0 it acc { cenv with scope := relabel scope env }) (compPost (model PySem.Challenge.rw_wn0058_01.row.prog w) A E none Q acc cenv.locals) s₄) E s₃) E s₂)) E s₁) E s)
    (hs : ∀ x, foldedSetIterable iter env x = pure x) :
    wpAny (model PySem.Challenge.rw_wn0058_01.row.prog w) A (eval (.ListComp elt (⟨target, iter, ifs, 0⟩ :: rest) scope pos) env) Q E s := by
  rw [eval_ListComp]
  exact wpAny_comprehension_free (use := none) rfl hs hclos hkind hnames h
theorem comp_assign {y : Str} {py spos : Pos} {Q : Flow → Shared → Prop} {E : Value → Shared → Prop} (hsw : swapsWith (.ListComp elt (⟨target, iter, ifs, 0⟩ :: rest) scope pos) (some (.Name y py)) spos.line env = pure true)
    (hclos : closureFor scope env = pure cl) (hkind : scope.kind = .function) (hnames : ∀ x ∈ scope.names, x.2 = .local → scope.names.lookup x.1 = some .local)
    (h : wpAny (model PySem.Challenge.rw_wn0058_01.row.prog w) A (eval iter env) (fun x s₁ => wpAny (model PySem.Challenge.rw_wn0058_01.row.prog w) A (pyIter x) (fun it s₂ => Hold (wpAny (model PySem.Challenge.rw_wn0058_01.row.prog w) A (newList []) (fun acc s₃ => wpAny (model PySem.Challenge.rw_wn0058_01.row.prog w) A (newFunctionEnv scope env.globals cl [] env.qual none .none (some env)) (fun cenv s₄ =>
      codeAny (model PySem.Challenge.rw_wn0058_01.row.prog w) A (.compStart (.ListComp elt (⟨target, iter, ifs, 0⟩ :: rest) scope pos) 0 it acc { cenv with scope := relabel scope env }) (compPost (model PySem.Challenge.rw_wn0058_01.row.prog w) A E (some (assign (.Name y py) env)) (fun _ s' => Q .next s') acc cenv.locals) s₄) E s₃) E s₂)) E s₁) E s)
    (hs : ∀ x, foldedSetIterable iter env x = pure x) :
    wpAny (model PySem.Challenge.rw_wn0058_01.row.prog w) A (exec (.Assign [.Name y py] (.ListComp elt (⟨target, iter, ifs, 0⟩ :: rest) scope pos) spos) env) Q E s := by
  rw [exec_Assign_Name_used _ _ _ _ hsw]
  refine wpAny_bind (wpAny_standAt (wpAny_bind ?_))
  show wpAny _ A (do let _ ← comprehension (.ListComp elt (⟨target, iter, ifs, 0⟩ :: rest) scope pos) scope env _ (newList []) false (eval iter env) (some (assign (.Name y py) env))) _ _ s
  exact wpAny_bind (wpAny_mono (wpAny_comprehension_free (use := some (assign (.Name y py) env)) (Q := fun _ s' => Q .next s') rfl hs hclos hkind hnames h) (fun _ s' hq => wpAny_pure (wpAny_pure hq)) fun _ _ e => e)
theorem comp_blockE (F : Fr g L s.heap m) (N : News g L s.heap news) (X : (hd.heap_1 w.params).In g) (T : Top topProg loose mean mg mb g) (hkind : scope.kind = .function) (hcell : ∀ y ∈ scope.names, y.2 ≠ .cell) {it : Value}
    (Post : List Value → Nat → List (Addr × Obj) → Prop) {E : Value → Shared → Prop} {Q : Value → Shared → Prop}
    (body : ∀ g' C D h₁ tk, (hd.heap_1 w.params).In g' → Top topProg loose mean mg mb g' → (∀ b o, s.heap.get? b = some o → b ∉ news.map (·.1) → g'.get? b = some o) → Fr g' C h₁ (fun _ => none) → News g' C h₁ ((D, listOf #[] 0) :: news) → (∀ p ∈ news, p.1 < D) →
      codeAny (model PySem.Challenge.rw_wn0058_01.row.prog w) A (.compStart (.ListComp elt (⟨target, iter, ifs, 0⟩ :: rest) scope pos) 0 it (.ref D) (compEnvC scope cl C env))
        (fun r s' => r = .ok .next ∧ ∃ ys ep m' news' h' tk', s' = { s with heap := h', toks := tk' } ∧ Fr g' C h' m' ∧ News g' C h' ((D, listOf ys ep) :: news') ∧ Post ys.toList ep news') { s with heap := h₁, toks := tk })
    (done : ∀ D ys ep news' h' tk', Post ys ep news' → Fr g L h' m → News g L h' ((D, listOf ys.toArray ep) :: news') → (∀ b o, s.heap.get? b = some o → b ∉ news.map (·.1) → b ≠ L → h'.get? b = some o) → s.heap.objs.size ≤ D → Q (.ref D) { s with heap := h', toks := tk' }) :
    wpAny (model PySem.Challenge.rw_wn0058_01.row.prog w) A (newList []) (fun acc s₃ => wpAny (model PySem.Challenge.rw_wn0058_01.row.prog w) A (newFunctionEnv scope env.globals cl [] env.qual none .none (some env)) (fun cenv s₄ =>
      codeAny (model PySem.Challenge.rw_wn0058_01.row.prog w) A (.compStart (.ListComp elt (⟨target, iter, ifs, 0⟩ :: rest) scope pos) 0 it acc { cenv with scope := relabel scope env }) (compPost (model PySem.Challenge.rw_wn0058_01.row.prog w) A E none Q acc cenv.locals) s₄) E s₃) E s := by
  refine comp_block (RR := fun acc C => compPost (model PySem.Challenge.rw_wn0058_01.row.prog w) A E none Q acc C) F N X T hkind hcell body ?_
  intro D C ys ep m' news' h' tk' hP hn hCL hgC F2 N2 hne hk hD hC
  refine ⟨m', hn, fun h'' hs => done D ys ep news' h'' tk' hP (fr_ext F2 hs.extBut hCL hgC) (news_ext N2 hs.extBut hne) (fun b o e q _ => hs.extBut b o (Nat.ne_of_lt (Nat.lt_of_lt_of_le (Heap.lt_size e) hC)) (hk b o e q)) hD⟩
theorem comp_blockA (F : Fr g L s.heap m) (N : News g L s.heap news) (X : (hd.heap_1 w.params).In g) (T : Top topProg loose mean mg mb g) (hkind : scope.kind = .function) (hcell : ∀ y ∈ scope.names, y.2 ≠ .cell) {it : Value}
    {y : Str} {py : Pos} (hL : env.locals = L) (hy : env.kindOf y = some .local) (hp : (env.scope.kind == .class || (env.scope.kind == .module && env.locals != env.globals)) = false)
    (Post : List Value → Nat → List (Addr × Obj) → Prop) {E : Value → Shared → Prop} {Q : Shared → Prop}
    (body : ∀ g' C D h₁ tk, (hd.heap_1 w.params).In g' → Top topProg loose mean mg mb g' → (∀ b o, s.heap.get? b = some o → b ∉ news.map (·.1) → g'.get? b = some o) → Fr g' C h₁ (fun _ => none) → News g' C h₁ ((D, listOf #[] 0) :: news) → (∀ p ∈ news, p.1 < D) →
      codeAny (model PySem.Challenge.rw_wn0058_01.row.prog w) A (.compStart (.ListComp elt (⟨target, iter, ifs, 0⟩ :: rest) scope pos) 0 it (.ref D) (compEnvC scope cl C env))
        (fun r s' => r = .ok .next ∧ ∃ ys ep m' news' h' tk', s' = { s with heap := h', toks := tk' } ∧ Fr g' C h' m' ∧ News g' C h' ((D, listOf ys ep) :: news') ∧ Post ys.toList ep news') { s with heap := h₁, toks := tk })
    (done : ∀ D ys ep news' h' tk', Post ys ep news' → Fr g L h' (fun z => if z = y then some (.ref D) else m z) → News g L h' ((D, listOf ys.toArray ep) :: news') → (∀ b o, s.heap.get? b = some o → b ∉ news.map (·.1) → b ≠ L → h'.get? b = some o) → s.heap.objs.size ≤ D → Q { s with heap := h', toks := tk' }) :
    wpAny (model PySem.Challenge.rw_wn0058_01.row.prog w) A (newList []) (fun acc s₃ => wpAny (model PySem.Challenge.rw_wn0058_01.row.prog w) A (newFunctionEnv scope env.globals cl [] env.qual none .none (some env)) (fun cenv s₄ =>
      codeAny (model PySem.Challenge.rw_wn0058_01.row.prog w) A (.compStart (.ListComp elt (⟨target, iter, ifs, 0⟩ :: rest) scope pos) 0 it acc { cenv with scope := relabel scope env }) (compPost (model PySem.Challenge.rw_wn0058_01.row.prog w) A E (some (assign (.Name y py) env)) (fun _ s' => Q s') acc cenv.locals) s₄) E s₃) E s := by
  refine comp_block (RR := fun acc C => compPost (model PySem.Challenge.rw_wn0058_01.row.prog w) A E (some (assign (.Name y py) env)) (fun _ s' => Q s') acc C) F N X T hkind hcell body ?_
  intro D C ys ep m' news' h' tk' hP hn hCL hgC F2 N2 hne hk hD hC
  refine hid ?_; intro KK
  (subst hL) <;> (k_unfold; clear KK)
  show wpAny _ A (assign (.Name y py) env (.ref D)) _ _ _
  refine wpAny_assign_Name (wpAny_storeName_local hy F2.ns (fun h₂ hn₂ hs₂ => ?_) hp)
  refine ⟨m', hn.sameBut hs₂ hCL, fun h₃ hs₃ => ?_⟩
  have F3 := F2.set hn₂ hs₂
  exact done D ys ep news' h₃ _ hP (fr_ext F3 hs₃.extBut hCL hgC) (news_ext (news_ext N2 hs₂.extBut fun p hp => (N2 p hp).2.1) hs₃.extBut hne) (fun b o e q hL => hs₃.extBut b o (Nat.ne_of_lt (Nat.lt_of_lt_of_le (Heap.lt_size e) hC)) (hs₂.extBut b o hL (hk b o e q))) hD
end
theorem news_back {g h h' : Heap} {L : Addr} {news small : List (Addr × Obj)} (N : News g L h news) (hk : ∀ b o, h.get? b = some o → b ∉ small.map (·.1) → b ≠ L → h'.get? b = some o) (N' : News g L h' small) (hs : ∀ p ∈ small, h.get? p.1 = some p.2) : News g L h' news := fun p hp => by
  refine ⟨?_, (N p hp).2⟩
  by_cases q : p.1 ∈ small.map (·.1)
  · refine hid ?_; intro KK
    (obtain ⟨p', hp', e⟩ := List.mem_map.mp q) <;> (k_unfold; clear KK)
    have e1 := hs p' hp'
    have e2 := (N' p' hp').1
    rw [e, (N p hp).1] at e1
    rw [e, ← Option.some.inj e1] at e2
    exact e2
  · exact hk _ _ (N p hp).1 q (N p hp).2.1
theorem News.uniq {g h : Heap} {L : Addr} {n1 n2 : List (Addr × Obj)} (N1 : News g L h n1) (N2 : News g L h n2) {p q : Addr × Obj} (hp : p ∈ n1) (hq : q ∈ n2) (e : p.1 = q.1) : p = q := by
  have e1 := (N1 p hp).1
  have e2 := (N2 q hq).1
  refine hid ?_; intro KK
  (obtain ⟨a, o⟩ := p) <;> (k_unfold; clear KK)
  refine hid ?_; intro KK
  (obtain ⟨b, o'⟩ := q) <;> (k_unfold; clear KK)
  dsimp only at e e1 e2
  refine hid ?_; intro KK
  (subst e) <;> (k_unfold; clear KK)
  rw [e1] at e2
  rw [Option.some.inj e2]
section
variable {w : World} {σ : Type} {A : Around} {env : Env} {scope : Scope} {cl : List (Str × Addr)} {elt target iter : Expr} {ifs : List Expr} {pos : Pos} {s : Shared} {g : Heap} {L : Addr} {m : Str → Option Value} {news0 keepL : List (Addr × Obj)}
  {mean : ExcName → Option Value} {mg mb : Str → Option Value} {it : Value} {Lk : Nat → σ → List (Addr × Obj)} {Ok : Nat → σ → Prop} {Le : List (Addr × Obj)} {ks : List Addr} {n : Nat} {P : Nat → Value → List (Addr × Obj) → Prop}
noncomputable def CDone (s : Shared) (g' : Heap) (C : Addr) (nw : List (Addr × Obj)) (Jy : Prop) (s₄ : Shared) : Prop := ∃ h' tk m₂, s₄ = { s with heap := h', toks := tk } ∧ Fr g' C h' m₂ ∧ News g' C h' nw ∧ Jy
/-- what a turn of a comprehension has to show -/
noncomputable def CTurn (w : World) (A : Around) (env : Env) (scope : Scope) (cl : List (Str × Addr)) (elt target : Expr) (s : Shared) (Lk : Nat → σ → List (Addr × Obj)) (Ok : Nat → σ → Prop) (c₀ : σ) (keepL : List (Addr × Obj)) (mean : ExcName → Option Value) (mg mb : Str → Option Value)
    (n : Nat) (P : Nat → Value → List (Addr × Obj) → Prop) (J : Nat → List Value → Prop) : Prop :=
  ∀ g' C D i c v ex ys e m₁ h₁ tk₁, (hd.heap_1 w.params).In g' → Top topProg loose mean mg mb g' → (∀ b o, s.heap.get? b = some o → b ∉ (Lk 0 c₀ ++ keepL).map (·.1) → g'.get? b = some o) → i < n → P i v ex → J i ys → Ok (i + 1) c → Fr g' C h₁ m₁ →
    News g' C h₁ (ex ++ (Lk (i + 1) c ++ ((D, listOf ys.toArray e) :: keepL))) →
    wpAny (model PySem.Challenge.rw_wn0058_01.row.prog w) A (assign target (compEnvC scope cl C env) v) (fun _ s₂ => wpAny (model PySem.Challenge.rw_wn0058_01.row.prog w) A (eval elt (compEnvC scope cl C env)) (fun y s₄ => CDone s g' C (Lk (i + 1) c ++ ((D, listOf ys.toArray e) :: keepL)) (J (i + 1) (ys ++ [y])) s₄) (fun _ _ => False) s₂) (fun _ _ => False) { s with heap := h₁, toks := tk₁ }
theorem comp_body (I : Iter w target it Lk Ok Le ks n P) (hLk : ∀ i c, ∀ p ∈ Lk i c, p.1 ∈ ks) {c₀ : σ}
    (hkn : ∀ p ∈ keepL, p.1 ∉ ks) (hh : A.handled = none) (hc : Ok 0 c₀)
    (hself : ∀ g' C s', News g' C s'.heap (Lk 0 c₀) → wpAny (model PySem.Challenge.rw_wn0058_01.row.prog w) A (pyIter it) (fun it' s'' => it' = it ∧ s'' = s') (fun _ _ => False) s') (hks : ∀ a ∈ ks, a ∈ (Lk 0 c₀).map (·.1))
    (J : Nat → List Value → Prop) (hsz : ∀ i ys, J i ys → ys.length ≤ 1000000) (h0 : J 0 [])
    (step : CTurn w A env scope cl elt target s Lk Ok c₀ keepL mean mg mb n P J) {g' : Heap} {C D : Addr} {h₁ : Heap} {tk : Nat} (X : (hd.heap_1 w.params).In g') (T : Top topProg loose mean mg mb g') (hg : ∀ b o, s.heap.get? b = some o → b ∉ (Lk 0 c₀ ++ keepL).map (·.1) → g'.get? b = some o)
    (F : Fr g' C h₁ (fun _ => none)) (N : News g' C h₁ ((D, listOf #[] 0) :: (Lk 0 c₀ ++ keepL))) (hD : ∀ p ∈ Lk 0 c₀ ++ keepL, p.1 < D) :
    codeAny (model PySem.Challenge.rw_wn0058_01.row.prog w) A (.compStart (.ListComp elt [⟨target, iter, [], 0⟩] scope pos) 0 it (.ref D) (compEnvC scope cl C env))
        (fun r s' => r = .ok .next ∧ ∃ ys ep m' news' h' tk', s' = { s with heap := h', toks := tk' } ∧ Fr g' C h' m' ∧ News g' C h' ((D, listOf ys ep) :: news') ∧ (J n ys.toList ∧ news' = Le ++ keepL)) { s with heap := h₁, toks := tk } := by
  have hDk : D ∉ ks := fun q => by
    refine hid ?_; intro KK
    (obtain ⟨p, hp, e⟩ := List.mem_map.mp (hks D q)) <;> (k_unfold; clear KK)
    have := hD p (List.mem_append_left _ hp)
    rw [e] at this; exact Nat.lt_irrefl _ this
  refine comp_start (target := target) (iter := iter) (ifs := []) rfl ?_ (hself g' C _ fun p hp => N p (.tail _ (List.mem_append_left _ hp)))
  refine comp_last (iter := iter) (ifs := []) (elt := elt) I hLk rfl (by rfl) c₀ [] 0 (fun i ys _ nw => J i ys ∧ nw = keepL) hh hc hDk F (news := keepL) ?_ ?_ ⟨h0, rfl⟩ (fun i ys _ _ h => hsz i ys h.1) ?_ ?_
  · intro p hp
    refine N p ?_
    refine hid ?_; intro KK
    (rcases List.mem_append.mp hp with hp | hp) <;> (k_unfold; clear KK)
    · exact .tail _ (List.mem_append_left _ hp)
    · refine hid ?_; intro KK
      (rcases List.mem_cons.mp hp with rfl | hp) <;> (k_unfold; clear KK)
      · exact .head _
      · exact .tail _ (List.mem_append_right _ hp)
  · intro p hp q
    refine hid ?_; intro KK
    (rcases List.mem_cons.mp q with q | q) <;> (k_unfold; clear KK)
    · exact Nat.ne_of_lt (hD p (List.mem_append_right _ hp)) q
    · exact hkn p hp q
  · rintro i c v ex ys e m₁ news₁ h₂ tk₂ hi hP zz0
    refine hid ?_; intro KK
    (rcases zz0 with ⟨hJ, rfl⟩) <;> (k_unfold; clear KK)
    rintro hc₁ F₁ N₁ - hn₁
    refine wpAny_mono (step g' C D i c v ex ys e m₁ h₂ tk₂ X T hg hi hP hJ hc₁ F₁ N₁) (fun _ s₂ h₂ => ?_) fun _ _ x => x
    refine wpAny_tests_nil ?_
    rw [if_pos rfl]
    refine wpAny_mono h₂ (fun y s₄ h₄ => ?_) fun _ _ x => x
    refine hid ?_; intro KK
    (obtain ⟨h', tk, m₂, rfl, F₂, N₂, hJ₂⟩ := h₄) <;> (k_unfold; clear KK)
    exact ⟨h', tk, m₂, _, rfl, F₂, N₂, hn₁, hJ₂, rfl⟩
  · rintro ys e m₁ news₁ h₂ tk₂ zz0
    refine hid ?_; intro KK
    (rcases zz0 with ⟨hJ, rfl⟩) <;> (k_unfold; clear KK)
    rintro F₁ N₁ -
    refine ⟨rfl, ys.toArray, e, m₁, Le ++ news₁, h₂, tk₂, rfl, F₁, fun p hp => N₁ p ?_, hJ, rfl⟩
    refine hid ?_; intro KK
    (rcases List.mem_cons.mp hp with rfl | hp) <;> (k_unfold; clear KK)
    · exact List.mem_append_right _ (.head _)
    · refine hid ?_; intro KK
      (rcases List.mem_append.mp hp with hp | hp) <;> (k_unfold; clear KK)
      · exact List.mem_append_left _ hp
      · exact List.mem_append_right _ (.tail _ hp)
theorem comp_backN {h' : Heap} {lk0 : List (Addr × Obj)} {D : Addr} {ys : List Value} {e : Nat} (N0 : News g L s.heap news0) (NL : News g L s.heap (lk0 ++ keepL)) (hb : ∀ p ∈ news0, p.1 ∈ lk0.map (·.1) → p ∈ Le)
    (N' : News g L h' ((D, listOf ys.toArray e) :: (Le ++ keepL))) (hk : ∀ b o, s.heap.get? b = some o → b ∉ (lk0 ++ keepL).map (·.1) → b ≠ L → h'.get? b = some o) : News g L h' ((D, listOf ys.toArray e) :: news0) := by
  intro p hp
  refine hid ?_; intro KK
  (rcases List.mem_cons.mp hp with rfl | hp) <;> (k_unfold; clear KK)
  · exact N' _ (.head _)
  · by_cases q : p.1 ∈ (lk0 ++ keepL).map (·.1)
    · rw [List.map_append, List.mem_append] at q
      refine hid ?_; intro KK
      (rcases q with q | q) <;> (k_unfold; clear KK)
      · exact N' p (.tail _ (List.mem_append_left _ (hb p hp q)))
      · refine hid ?_; intro KK
        (obtain ⟨p', hp', e'⟩ := List.mem_map.mp q) <;> (k_unfold; clear KK)
        rw [News.uniq N0 NL hp (List.mem_append_right _ hp') e'.symm]
        exact N' _ (.tail _ (List.mem_append_right _ hp'))
    · exact ⟨hk _ _ (N0 p hp).1 q (N0 p hp).2.1, (N0 p hp).2⟩
theorem comp_coreE (I : Iter w target it Lk Ok Le ks n P) (hLk : ∀ i c, ∀ p ∈ Lk i c, p.1 ∈ ks) {c₀ : σ} (keepL : List (Addr × Obj)) (F : Fr g L s.heap m) (NL : News g L s.heap (Lk 0 c₀ ++ keepL)) (N0 : News g L s.heap news0) (hb : ∀ p ∈ news0, p.1 ∈ (Lk 0 c₀).map (·.1) → p ∈ Le)
    (X : (hd.heap_1 w.params).In g) (T : Top topProg loose mean mg mb g) (hkind : scope.kind = .function) (hcell : ∀ y ∈ scope.names, y.2 ≠ .cell)
    (hkn : ∀ p ∈ keepL, p.1 ∉ ks) (hh : A.handled = none) (hc : Ok 0 c₀)
    (hself : ∀ g' C s', News g' C s'.heap (Lk 0 c₀) → wpAny (model PySem.Challenge.rw_wn0058_01.row.prog w) A (pyIter it) (fun it' s'' => it' = it ∧ s'' = s') (fun _ _ => False) s') (hks : ∀ a ∈ ks, a ∈ (Lk 0 c₀).map (·.1))
    (J : Nat → List Value → Prop) (hsz : ∀ i ys, J i ys → ys.length ≤ 1000000) (h0 : J 0 [])
    {E : Value → Shared → Prop} {Q : Value → Shared → Prop}
    (step : CTurn w A env scope cl elt target s Lk Ok c₀ keepL mean mg mb n P J)
    (done : ∀ D ys e h' tk', J n ys → Fr g L h' m → News g L h' ((D, listOf ys.toArray e) :: news0) → s.heap.objs.size ≤ D → Q (.ref D) { s with heap := h', toks := tk' }) :
    wpAny (model PySem.Challenge.rw_wn0058_01.row.prog w) A (newList []) (fun acc s₃ => wpAny (model PySem.Challenge.rw_wn0058_01.row.prog w) A (newFunctionEnv scope env.globals cl [] env.qual none .none (some env)) (fun cenv s₄ =>
      codeAny (model PySem.Challenge.rw_wn0058_01.row.prog w) A (.compStart (.ListComp elt [⟨target, iter, [], 0⟩] scope pos) 0 it acc { cenv with scope := relabel scope env }) (compPost (model PySem.Challenge.rw_wn0058_01.row.prog w) A E none Q acc cenv.locals) s₄) E s₃) E s := by
  refine comp_blockE F NL X T hkind hcell (fun ys ep nw => J n ys ∧ nw = Le ++ keepL) ?_ ?_
  · intro g' C D h₁ tk X' T' hg F' N' hD
    exact comp_body I hLk hkn hh hc hself hks J hsz h0 step X' T' hg F' N' hD
  · rintro D ys e nw h' tk' zz0
    refine hid ?_; intro KK
    (rcases zz0 with ⟨hJ, rfl⟩) <;> (k_unfold; clear KK)
    rintro F' N' hk hD
    exact done D ys e h' tk' hJ F' (comp_backN N0 NL hb N' hk) hD
theorem comp_coreA (I : Iter w target it Lk Ok Le ks n P) (hLk : ∀ i c, ∀ p ∈ Lk i c, p.1 ∈ ks) {c₀ : σ} (keepL : List (Addr × Obj)) (F : Fr g L s.heap m) (NL : News g L s.heap (Lk 0 c₀ ++ keepL)) (N0 : News g L s.heap news0) (hb : ∀ p ∈ news0, p.1 ∈ (Lk 0 c₀).map (·.1) → p ∈ Le)
    (X : (hd.heap_1 w.params).In g) (T : Top topProg loose mean mg mb g) (hkind : scope.kind = .function) (hcell : ∀ y ∈ scope.names, y.2 ≠ .cell)
    (hkn : ∀ p ∈ keepL, p.1 ∉ ks) (hh : A.handled = none) (hc : Ok 0 c₀)
    (hself : ∀ g' C s', News g' C s'.heap (Lk 0 c₀) → wpAny (model PySem.Challenge.rw_wn0058_01.row.prog w) A (pyIter it) (fun it' s'' => it' = it ∧ s'' = s') (fun _ _ => False) s') (hks : ∀ a ∈ ks, a ∈ (Lk 0 c₀).map (·.1))
    {y : Str} {py : Pos} (hL : env.locals = L) (hy : env.kindOf y = some .local) (hp : (env.scope.kind == .class || (env.scope.kind == .module && env.locals != env.globals)) = false)
    (J : Nat → List Value → Prop) (hsz : ∀ i ys, J i ys → ys.length ≤ 1000000) (h0 : J 0 [])
    {E : Value → Shared → Prop} {Q : Shared → Prop}
    (step : CTurn w A env scope cl elt target s Lk Ok c₀ keepL mean mg mb n P J)
    (done : ∀ D ys e h' tk', J n ys → Fr g L h' (fun z => if z = y then some (.ref D) else m z) → News g L h' ((D, listOf ys.toArray e) :: news0) → s.heap.objs.size ≤ D → Q { s with heap := h', toks := tk' }) :
    wpAny (model PySem.Challenge.rw_wn0058_01.row.prog w) A (newList []) (fun acc s₃ => wpAny (model PySem.Challenge.rw_wn0058_01.row.prog w) A (newFunctionEnv scope env.globals cl [] env.qual none .none (some env)) (fun cenv s₄ =>
      codeAny (model PySem.Challenge.rw_wn0058_01.row.prog w) A (.compStart (.ListComp elt [⟨target, iter, [], 0⟩] scope pos) 0 it acc { cenv with scope := relabel scope env }) (compPost (model PySem.Challenge.rw_wn0058_01.row.prog w) A E (some (assign (.Name y py) env)) (fun _ s' => Q s') acc cenv.locals) s₄) E s₃) E s := by
  refine comp_blockA F NL X T hkind hcell hL hy hp (fun ys ep nw => J n ys ∧ nw = Le ++ keepL) ?_ ?_
  · intro g' C D h₁ tk X' T' hg F' N' hD
    exact comp_body I hLk hkn hh hc hself hks J hsz h0 step X' T' hg F' N' hD
  · rintro D ys e nw h' tk' zz0
    refine hid ?_; intro KK
    (rcases zz0 with ⟨hJ, rfl⟩) <;> (k_unfold; clear KK)
    rintro F' N' hk hD
    exact done D ys e h' tk' hJ F' (comp_backN N0 NL hb N' hk) hD
end
section
variable {w : World} {A : Around} {env : Env} {scope : Scope} {cl : List (Str × Addr)} {elt iter : Expr} {pos : Pos} {s : Shared} {g : Heap} {L l : Addr} {m : Str → Option Value} {news0 : List (Addr × Obj)} {x : Str} {px : Pos}
  {mean : ExcName → Option Value} {mg mb : Str → Option Value} {vs : List Value} {ep : Nat}
noncomputable abbrev liObj (l : Addr) : Obj := { cls := .type "list_iterator", data := .fields #[.ref l, .int 0 0] }
/-- a comprehension over a list of the ledger -/
theorem comp_listE (keepL : List (Addr × Obj)) (F : Fr g L s.heap m) (N0 : News g L s.heap news0) (hm : (l, listOf vs.toArray ep) ∈ news0) (X : (hd.heap_1 w.params).In g) (T : Top topProg loose mean mg mb g) (hh : A.handled = none)
    (hkind : scope.kind = .function) (hcell : ∀ y ∈ scope.names, y.2 ≠ .cell) (hks : ∀ p ∈ keepL, p ∈ news0 ∧ p.1 ≠ l)
    (J : Nat → List Value → Prop) (hsz : ∀ i ys, J i ys → ys.length ≤ 1000000) (h0 : J 0 []) {E : Value → Shared → Prop} {Q : Value → Shared → Prop}
    (step : ∀ I, CTurn w A env scope cl elt (.Name x px) { s with heap := s.heap.push (liObj l) } (fun _ (o : Obj) => [(I, o), (l, listOf vs.toArray ep)]) (fun i o => o.cls = .type "list_iterator" ∧ o.data = .fields #[.ref l, .int i 0]) (liObj l) keepL mean mg mb vs.length (fun i v ex => ex = [] ∧ vs[i]? = some v) J)
    (done : ∀ D ys e h' tk', J vs.length ys → Fr g L h' m → News g L h' ((D, listOf ys.toArray e) :: news0) → (∀ p ∈ news0, p.1 < D) → Q (.ref D) { s with heap := h', toks := tk' }) :
    wpAny (model PySem.Challenge.rw_wn0058_01.row.prog w) A (pyIter (.ref l)) (fun it s₂ => Hold (wpAny (model PySem.Challenge.rw_wn0058_01.row.prog w) A (newList []) (fun acc s₃ => wpAny (model PySem.Challenge.rw_wn0058_01.row.prog w) A (newFunctionEnv scope env.globals cl [] env.qual none .none (some env)) (fun cenv s₄ =>
      codeAny (model PySem.Challenge.rw_wn0058_01.row.prog w) A (.compStart (.ListComp elt [⟨.Name x px, iter, [], 0⟩] scope pos) 0 it acc { cenv with scope := relabel scope env }) (compPost (model PySem.Challenge.rw_wn0058_01.row.prog w) A E none Q acc cenv.locals) s₄) E s₃) E s₂)) E s := by
  refine wpAny_pyIter_list (News.isList N0 hm) ?_
  have hlt : ∀ p ∈ news0, p.1 < s.heap.objs.size := fun p hp => Heap.lt_size (N0 p hp).1
  have hup : ∀ b o, s.heap.get? b = some o → (s.heap.push (liObj l)).get? b = some o := fun b o e => Heap.get?_push_of_some _ e
  have N1 := News.push F N0 (liObj l)
  refine comp_coreE (iter_list w x px s.heap.objs.size l (Nat.ne_of_lt (hlt _ hm)) vs ep) (fun i o p hp => ?_) (c₀ := liObj l) keepL (F.push _) (fun p hp => ?_) (N0.grown hup) (fun p hp q => ?_) X T hkind hcell (fun p hp q => ?_) hh ⟨rfl, rfl⟩ (fun g' C s' N => wpAny_pyIter_listiter ⟨_, (N _ (.head _)).1, rfl, rfl⟩ ⟨rfl, rfl⟩) (fun a ha => by simpa using ha) J hsz h0 (step _) (fun D ys e h' tk' hJ F' N' hD => done D ys e h' tk' hJ F' N' fun p hp => ?_)
  · refine hid ?_; intro KK
    (rcases List.mem_cons.mp hp with rfl | hp) <;> (k_unfold; clear KK)
    · exact .head _
    · rw [List.mem_singleton.mp hp]; exact .tail _ (.head _)
  · refine N1 p ?_
    refine hid ?_; intro KK
    (rcases List.mem_cons.mp hp with rfl | hp) <;> (k_unfold; clear KK)
    · exact .head _
    · refine hid ?_; intro KK
      (rcases List.mem_cons.mp hp with rfl | hp) <;> (k_unfold; clear KK)
      · exact .tail _ hm
      · exact .tail _ (hks p hp).1
  · simp only [List.map_cons, List.map_nil, List.mem_cons, List.not_mem_nil, or_false] at q
    refine hid ?_; intro KK
    (rcases q with q | q) <;> (k_unfold; clear KK)
    · exact absurd (hlt p hp) (by rw [q]; exact Nat.lt_irrefl _)
    · rw [List.mem_singleton]
      exact News.uniq N0 N0 hp hm q
  · simp only [List.mem_cons, List.not_mem_nil, or_false] at q
    refine hid ?_; intro KK
    (rcases q with q | q) <;> (k_unfold; clear KK)
    · exact absurd (hlt p (hks p hp).1) (by rw [q]; exact Nat.lt_irrefl _)
    · exact (hks p hp).2 q
  · exact Nat.lt_of_lt_of_le (hlt p hp) (Nat.le_trans (by show _ ≤ (s.heap.push _).objs.size; rw [Heap.size_push]; exact Nat.le_succ _) hD)
theorem comp_listA (keepL : List (Addr × Obj)) (F : Fr g L s.heap m) (N0 : News g L s.heap news0) (hm : (l, listOf vs.toArray ep) ∈ news0) (X : (hd.heap_1 w.params).In g) (T : Top topProg loose mean mg mb g) (hh : A.handled = none)
    (hkind : scope.kind = .function) (hcell : ∀ y ∈ scope.names, y.2 ≠ .cell) (hks : ∀ p ∈ keepL, p ∈ news0 ∧ p.1 ≠ l)
    {y : Str} {py : Pos} (hL : env.locals = L) (hy : env.kindOf y = some .local) (hp : (env.scope.kind == .class || (env.scope.kind == .module && env.locals != env.globals)) = false)
    (J : Nat → List Value → Prop) (hsz : ∀ i ys, J i ys → ys.length ≤ 1000000) (h0 : J 0 []) {E : Value → Shared → Prop} {Q : Shared → Prop}
    (step : ∀ I, CTurn w A env scope cl elt (.Name x px) { s with heap := s.heap.push (liObj l) } (fun _ (o : Obj) => [(I, o), (l, listOf vs.toArray ep)]) (fun i o => o.cls = .type "list_iterator" ∧ o.data = .fields #[.ref l, .int i 0]) (liObj l) keepL mean mg mb vs.length (fun i v ex => ex = [] ∧ vs[i]? = some v) J)
    (done : ∀ D ys e h' tk', J vs.length ys → Fr g L h' (fun z => if z = y then some (.ref D) else m z) → News g L h' ((D, listOf ys.toArray e) :: news0) → (∀ p ∈ news0, p.1 < D) → Q { s with heap := h', toks := tk' }) :
    wpAny (model PySem.Challenge.rw_wn0058_01.row.prog w) A (pyIter (.ref l)) (fun it s₂ => Hold (wpAny (model PySem.Challenge.rw_wn0058_01.row.prog w) A (newList []) (fun acc s₃ => wpAny (model PySem.Challenge.rw_wn0058_01.row.prog w) A (newFunctionEnv scope env.globals cl [] env.qual none .none (some env)) (fun cenv s₄ =>
      codeAny (model PySem.Challenge.rw_wn0058_01.row.prog w) A (.compStart (.ListComp elt [⟨.Name x px, iter, [], 0⟩] scope pos) 0 it acc { cenv with scope := relabel scope env }) (compPost (model PySem.Challenge.rw_wn0058_01.row.prog w) A E (some (assign (.Name y py) env)) (fun _ s' => Q s') acc cenv.locals) s₄) E s₃) E s₂)) E s := by
  refine wpAny_pyIter_list (News.isList N0 hm) ?_
  have hlt : ∀ p ∈ news0, p.1 < s.heap.objs.size := fun p hp => Heap.lt_size (N0 p hp).1
  have hup : ∀ b o, s.heap.get? b = some o → (s.heap.push (liObj l)).get? b = some o := fun b o e => Heap.get?_push_of_some _ e
  have N1 := News.push F N0 (liObj l)
  refine comp_coreA (iter_list w x px s.heap.objs.size l (Nat.ne_of_lt (hlt _ hm)) vs ep) (fun i o p hp => ?_) (c₀ := liObj l) keepL (F.push _) (fun p hp => ?_) (N0.grown hup) (fun p hp q => ?_) X T hkind hcell (fun p hp q => ?_) hh ⟨rfl, rfl⟩ (fun g' C s' N => wpAny_pyIter_listiter ⟨_, (N _ (.head _)).1, rfl, rfl⟩ ⟨rfl, rfl⟩) (fun a ha => by simpa using ha) hL hy hp J hsz h0 (step _) (fun D ys e h' tk' hJ F' N' hD => done D ys e h' tk' hJ F' N' fun p hp => ?_)
  · refine hid ?_; intro KK
    (rcases List.mem_cons.mp hp with rfl | hp) <;> (k_unfold; clear KK)
    · exact .head _
    · rw [List.mem_singleton.mp hp]; exact .tail _ (.head _)
  · refine N1 p ?_
    refine hid ?_; intro KK
    (rcases List.mem_cons.mp hp with rfl | hp) <;> (k_unfold; clear KK)
    · exact .head _
    · refine hid ?_; intro KK
      (rcases List.mem_cons.mp hp with rfl | hp) <;> (k_unfold; clear KK)
      · exact .tail _ hm
      · exact .tail _ (hks p hp).1
  · simp only [List.map_cons, List.map_nil, List.mem_cons, List.not_mem_nil, or_false] at q
    refine hid ?_; intro KK
    (rcases q with q | q) <;> (k_unfold; clear KK)
    · exact absurd (hlt p hp) (by rw [q]; exact Nat.lt_irrefl _)
    · rw [List.mem_singleton]
      exact News.uniq N0 N0 hp hm q
  · simp only [List.mem_cons, List.not_mem_nil, or_false] at q
    refine hid ?_; intro KK
    (rcases q with q | q) <;> (k_unfold; clear KK)
    · exact absurd (hlt p (hks p hp).1) (by rw [q]; exact Nat.lt_irrefl _)
    · exact (hks p hp).2 q
  · exact Nat.lt_of_lt_of_le (hlt p hp) (Nat.le_trans (by show _ ≤ (s.heap.push _).objs.size; rw [Heap.size_push]; exact Nat.le_succ _) hD)
end
section
variable {M : Model} {A : Around} {E : Value → Shared → Prop} {s : Shared} {K : Frag} {h₀ : Heap} {L : Addr} {m mg mb : Str → Option Value} {env : Env} {p : Program} {loose : List Str} {mean : ExcName → Option Value}
  {x : Str} {pos : Pos} {v : Value} {Q : Value → Shared → Prop} {news : List (Addr × Obj)} {c : Addr} {o : Obj}
theorem nameZ_K (F : Fr h₀ L s.heap m) (X : K.In h₀) (T : TopRead p loose mg mb h₀) (e : nsIn K mainGlobals x = some (some v)) (h : Q v s)
    (hg : env.globals = mainGlobals) (hk : env.scope.kind = .function) (hx : env.kindOf x = some .globalImplicit) (hd : (x == ("__debug__" : Str)) = false) :
    wpAny M A (eval (.Name x pos) env) Q E s := Name_function_global hk hx (loadGlobal_global (env := env) (by rw [hg]; exact T.g.keeps F.keep) (mg_of X T.g e) h) hd
theorem nameZ_B (F : Fr h₀ L s.heap m) (X : K.In h₀) (T : TopRead p loose mg mb h₀) (e : nsIn K mainGlobals x = some none) (hv : bootBuiltins x = some v) (hn : x ≠ "__name__") (h : Q v s)
    (hg : env.globals = mainGlobals) (hb : env.builtins = builtinsNs) (hk : env.scope.kind = .function) (hx : env.kindOf x = some .globalImplicit) (hd : (x == ("__debug__" : Str)) = false) :
    wpAny M A (eval (.Name x pos) env) Q E s :=
  Name_function_global hk hx (loadGlobal_builtin (env := env) (by rw [hg]; exact T.g.keeps F.keep) (mg_none_of X T.g e) (by rw [hb]; exact T.b.keeps F.keep) ((T.builtins x hn).trans hv) h) hd
theorem nameZ_L (F : Fr h₀ L s.heap m) (hv : m x = some v) (h : Q v s) (hL : env.locals = L)
    (hk : env.scope.kind = .function) (hx : env.kindOf x = some .local) (hd : (x == ("__debug__" : Str)) = false) :
    wpAny M A (eval (.Name x pos) env) Q E s := wpAny_Name (wpAny_loadName_local hk hx (hL ▸ F.ns) hv h) hd
theorem nameZ_C (N : News h₀ L s.heap news) (hc : env.cells.lookup x = some c) (hm : (c, o) ∈ news) (hd : o.data = .cell (some v)) (h : Q v s)
    (hk : env.scope.kind = .function) (hx : env.kindOf x = some .cell) (hb : (x == ("__debug__" : Str)) = false) :
    wpAny M A (eval (.Name x pos) env) Q E s := wpAny_Name (wpAny_loadName_cell hk hx hc ⟨o, N.get hm, hd⟩ h) hb
theorem storeZ_L {Q : Unit → Shared → Prop} (F : Fr h₀ L s.heap m) (N : News h₀ L s.heap news)
    (h : ∀ h', Fr h₀ L h' (fun y => if y = x then some v else m y) → News h₀ L h' news → Q () { s with heap := h', toks := s.toks + 1 })
    (hL : env.locals = L) (hx : env.kindOf x = some .local) (hp : (env.scope.kind == .class || (env.scope.kind == .module && env.locals != env.globals)) = false) : wpAny M A (storeName env x v) Q E s := by
  refine hid ?_; intro KK
  (subst hL) <;> (k_unfold; clear KK)
  exact wpAny_storeName_local hx F.ns (fun h' hn hs => h h' (F.set hn hs) (N.set hs)) hp
end
local macro_rules | `(tactic| walk_at "eval Name") => `(tactic| (k_here; (with_reducible show wpAny _ _ (eval _ (compEnvC _ _ _ _)) _ _ _); k_dflt (first
  | (refine' nameZ_L ?F ?v ?_ ?l ?a ?b ?d; (case F => k_asm); (case l => rfl); (case a => rfl); (case b => rfl); (case v => rfl); (case d => decide))
  | (refine' nameZ_C ?N ?c ?m ?e ?_ ?a ?b ?d; (case a => rfl); (case b => rfl); (case N => k_asm); (case c => rfl); (case m => k_mem); (case e => k_asm); (case d => decide))
  | (refine' nameZ_K ?F ?X ?T ?e ?_ ?g ?a ?b ?d; (case F => k_asm); (case X => k_asm); (case T => k_asm); (case g => rfl); (case a => rfl); (case b => rfl); (case e => k_is); (case d => decide))
  | (refine' nameZ_B ?F ?X ?T ?e ?v ?n ?_ ?g ?h ?a ?b ?d; (case F => k_asm); (case X => k_asm); (case T => k_asm); (case g => rfl); (case h => rfl); (case a => rfl); (case b => rfl); (case e => k_is); (case v => boot_fast); (case n => decide); (case d => decide)))))
local macro_rules | `(tactic| walk_at "storeName") => `(tactic| (k_here; (with_reducible show wpAny _ _ (storeName (compEnvC _ _ _ _) _ _) _ _ _); k_dflt (refine' storeZ_L ?F ?N ?_ ?l ?a ?b; (case F => k_asm); (case N => k_asm); (case l => rfl); (case a => rfl); (case b => rfl)); intro h' F' N'; (try k_sweep)))
example : True := by w_top off; exact trivial
section
theorem bis (w : World) (α : Type) (K : Kd w α) (l n c : Nat) (vs : List Value) (xs : List α) (x : α) (vx : Value) (args : List Value) (hargs : args = [.ref l, vx] ∨ ∃ t, args = [.ref l, vx, .int 0 t, .none]) (hv : Are K.is vs xs) (hx : K.is vx x) (hs : xs.length ≤ 1000)
   (hc : ∀ i a, xs[i]? = some a → (K.lt a x = true ↔ i < c)) (hcl : c ≤ xs.length) :
   Con w (.ref 40) args 1 1 [] (fun h => h.get? l = some (listOf vs.toArray n)) (fun h r led' => led' = [] ∧ ∃ t, r = .int c t) := by
  have hlen := hv.length
  obtain ⟨t0, ht0⟩ : ∃ t0 : Tok, (args = [.ref l, vx] ∧ t0 = 245) ∨ args = [.ref l, vx, .int 0 t0, .none] := by
    refine hid ?_; intro KK
    (rcases hargs with h | ⟨t, h⟩) <;> (k_unfold; clear KK)
    · exact ⟨_, .inl ⟨h, rfl⟩⟩
    · exact ⟨t, .inr h⟩
  refine' con_of [("a", .ref l), ("x", vx), ("lo", .int 0 t0), ("hi", .none), ("key", .none)] ?o ?c ?b ?lo ?c2 ?c3 ?c4 ?c5 ?_
  case o => k_is
  case c => k_is
  case b => rcases ht0 with ⟨rfl, rfl⟩ | rfl <;> (intro S; exact rfl)
  case lo => exact rfl
  case c2 => exact rfl
  case c3 => exact rfl
  case c4 => exact rfl
  case c5 => decide
  intro A g L' h₁ tk hp0 gs dr os mean mg mb R hA hd hu F N X T hpre hk hlt hret
  have hg := hk _ _ hpre (by simp)
  have hL : g.IsList l vs.toArray := ⟨_, hg, rfl, _, rfl⟩
  first | (refine fold_F ?_; intro qk) | k_fold | skip
  k_steps
  unfold Hold
  rename Fr _ _ _ _ => F1
  rename News _ _ _ _ => N1
  simp only [List.size_toArray, hlen] at F1
  refine While_inv2 (fun n m news => news = [] ∧ ∃ (lo hi : Nat) (t1 t2 : Tok), m "a" = some (.ref l) ∧ m "x" = some vx ∧ m "lo" = some (.int lo t1) ∧ m "hi" = some (.int hi t2) ∧ lo ≤ c ∧ c ≤ hi ∧ hi ≤ xs.length ∧ n = hi - lo) F1 N1 ⟨rfl, 0, xs.length, _, _, rfl, rfl, rfl, rfl, by omega, hcl, by omega, rfl⟩ ?_ PassesOwn.never
  clear F1 N1
  rintro n m₁ news₁ h₁ tk₁ F2 N2 zz0
  refine hid ?_; intro KK
  (rcases zz0 with ⟨rfl, lo, hi, t1, t2, ma, mx, mlo, mhi, h1, h2, h3, rfl⟩) <;> (k_unfold; clear KK)
  have F3 := Fr.know F2 [("a", .ref l), ("x", vx), ("lo", .int lo t1), ("hi", .int hi t2)] (by first | exact kn_cons ma (kn_cons mx (kn_cons mlo (kn_cons mhi (kn_nil)))) | simp [ma, mx, mlo, mhi])
  clear F2
  first | (refine fold_F ?_; intro qk) | k_fold | skip
  k_steps
  · rename (lo : Int) < hi => hlt
    rename Fr _ _ _ _ => F4
    have hmid : ((lo : Int) + hi).fdiv 2 = ((lo + hi) / 2 : Nat) := by
      rw [Int.fdiv_eq_ediv_of_nonneg _ (by omega)]; omega
    have hm1 : (lo + hi) / 2 < xs.length := by omega
    refine hid ?_; intro KK
    (obtain ⟨v, a, hv1, hv2, hv3⟩ := hv.get hm1) <;> (k_unfold; clear KK)
    refine item_g ((lo + hi) / 2) F4 hL hmid (by omega) hv1 ?_
    rw [hmid] at F4
    k_steps
    refine K.ltR hv3 hx ?_
    have hb := hc _ _ hv2
    cases hb' : K.lt a x
    · k_steps
      rename Fr _ _ _ _ => F5
      rename News _ _ _ _ => N5
      rw [hb'] at hb
      have hb2 : ¬ (lo + hi) / 2 < c := fun q => nomatch hb.mpr q
      exact ⟨_, _, _, _, _, rfl, F5, N5, (by omega : (lo + hi) / 2 - lo < hi - lo), rfl, lo, (lo + hi) / 2, _, _, rfl, rfl, rfl, rfl, h1, by omega, by omega, rfl⟩
    · k_steps
      rename Fr _ _ _ _ => F5
      rename News _ _ _ _ => N5
      have hb2 := hb.mp hb'
      exact ⟨_, _, _, _, _, rfl, F5, N5, (by omega : hi - ((lo + hi) / 2 + 1) < hi - lo), rfl, (lo + hi) / 2 + 1, hi, _, _, rfl, rfl, rfl, rfl, hb2, by omega, by omega, rfl⟩
  · rename ¬ (lo : Int) < hi => hlt
    have e : lo = c := by omega
    refine hid ?_; intro KK
    (subst e) <;> (k_unfold; clear KK)
    exact hret _ _ _ _ _ ⟨rfl, _, rfl⟩ F3 N2

theorem kl_ins_nat (l : List Value) (c : Nat) (y : Value) (hc : c ≤ l.length) : kl_ins l (c : Int) y = l.take c ++ y :: l.drop c := by
  unfold kl_ins
  have h1 : ¬ ((c : Int) < 0) := by omega
  have h2 : min (c : Int).toNat l.length = c := by omega
  rw [if_neg h1, h2]
theorem insort (w : World) (α : Type) (K : Kd w α) (l n c : Nat) (vs : List Value) (xs : List α) (x : α) (vx : Value) (hv : Are K.is vs xs) (hx : K.is vx x) (hs : xs.length ≤ 1000)
   (hc : ∀ i a, xs[i]? = some a → (K.lt a x = true ↔ i < c)) (hcl : c ≤ xs.length) :
   Con w (.ref 31) [.ref l, vx] 3 3 [(l, listOf vs.toArray n)] (fun h => True) (fun h r led' => led' = [(l, listOf (vs.take c ++ vx :: vs.drop c).toArray (n + 1))]) := by
  have hlen := hv.length
  refine' con_of [("a", .ref l), ("x", vx), ("lo", .int 0 _), ("hi", .none), ("key", .none)] ?o ?c ?b ?lo ?c2 ?c3 ?c4 ?c5 ?_
  case o => k_is
  case c => k_is
  case b => intro S; exact rfl
  case lo => exact rfl
  case c2 => exact rfl
  case c3 => exact rfl
  case c4 => exact rfl
  case c5 => decide
  intro A g L' h₁ tk hp0 gs dr os mean mg mb R hA hd hu F N X T hpre hk hlt hret
  first | (refine fold_F ?_; intro qk) | k_fold | skip
  k_steps
  unfold Hold
  rename Fr _ _ _ _ => F1
  rename News _ _ _ _ => N1
  refine use (rest := [(l, listOf vs.toArray n)]) (bis w α K l n c vs xs x vx _ (.inr ⟨_, rfl⟩) hv hx hs hc hcl) F1 X T N1 hA (fun _ h => nomatch h) (fun p hp => ⟨hp, fun h => nomatch h⟩) (N1 _ (.head _)).1 (by simp only [Around.deeper]; omega) (by simp only [Around.deeper]; omega) ?_
  rintro r led' h2 tk2 zz0
  refine hid ?_; intro KK
  (rcases zz0 with ⟨rfl, t, rfl⟩) <;> (k_unfold; clear KK)
  rintro F2 N2 -
  clear F1 N1
  simp only [List.nil_append] at N2
  first | (refine fold_F ?_; intro qk) | k_fold | skip
  k_steps
  rename Fr _ _ _ _ => F3
  rename News _ _ _ _ => N3
  refine kl_insert (l := vs.take c ++ vx :: vs.drop c) F3 N3 (by simp [Builtin.List.listFitsIndex]; omega) (kl_ins_nat vs c vx (by omega)) (Upd.head (fun _ h => nomatch h)) (by simp only [sizeLine]; omega) ?_
  intro h3 F4 N4
  k_steps
  exact hret _ _ _ _ _ rfl F4 N4
end
example : True := by w_top off; exact trivial
section
theorem kept (w : World) (α : Type) (K : Kd w α) (l n c : Nat) (vs : List Value) (xs : List α) (x : α) (vx : Value) (hv : Are K.is vs xs) (hx : K.is vx x) (hs : xs.length ≤ 1000)
   (hc : ∀ i a, xs[i]? = some a → (K.lt a x = true ↔ i < c)) (hcl : c ≤ xs.length) :
   Con w (.ref 103) [.ref l, vx] 5 20 [(l, listOf vs.toArray n)] (fun h => True) (fun h r led' => r = .none ∧ ∃ vs' n' ys, led' = [(l, listOf vs'.toArray n')] ∧ Are K.is vs' ys ∧ ((xs.drop c).take 1 = [x] ∧ ys = xs ∨ (xs.drop c).take 1 ≠ [x] ∧ ys = xs.take c ++ x :: xs.drop c)) := by
  have hlen := hv.length
  refine' con_of [("kept", .ref l), ("thing", vx)] ?o ?c ?b ?lo ?c2 ?c3 ?c4 ?c5 ?_
  case o => k_is
  case c => k_is
  case b => intro S; exact rfl
  case lo => exact rfl
  case c2 => exact rfl
  case c3 => exact rfl
  case c4 => exact rfl
  case c5 => decide
  intro A g L' h₁ tk hp0 gs dr os mean mg mb R hA hd hu F N X T hpre hk hlt hret
  first | (refine fold_F ?_; intro qk) | k_fold | skip
  k_steps
  unfold Hold
  rename Fr _ _ _ _ => F1
  rename News _ _ _ _ => N1
  refine use (rest := [(l, listOf vs.toArray n)]) (bis w α K l n c vs xs x vx _ (.inl rfl) hv hx hs hc hcl) F1 X T N1 hA (fun _ h => nomatch h) (fun p hp => ⟨hp, fun h => nomatch h⟩) (N1 _ (.head _)).1 (by simp only [Around.deeper]; omega) (by simp only [Around.deeper]; omega) ?_
  rintro r led' h2 tk2 zz0
  refine hid ?_; intro KK
  (rcases zz0 with ⟨rfl, t, rfl⟩) <;> (k_unfold; clear KK)
  rintro F2 N2 -
  clear F1 N1
  simp only [List.nil_append] at N2
  first | (refine fold_F ?_; intro qk) | k_fold | skip
  k_steps
  unfold Hold
  rename Fr _ _ _ _ => F3
  rename News _ _ _ _ => N3
  refine slice_g (s := ⟨_, _, _, _, _⟩) F3 N3 (News.isList N3 (.head _)) (.int _ _) (.int _ _) .none (by simp) (pick_one vs c (by omega)) (by omega) ?_
  intro b h4 F4 N4 lb
  k_steps
  unfold Hold
  rename Fr _ _ _ _ => F4
  rename News _ _ _ _ => N4
  refine ne_lists (News.isList N4 (.tail _ (.head _))) (News.isList N4 (.head _)) ((hv.drop c).take 1) (ys := [x]) (show Are K.is [vx] [x] from ⟨hx, trivial⟩) (by simp only [Around.deeper]; simp only [cLine] at *; omega) fun c' hc' => ?_
  cases c' with
  | false =>
    have he : (xs.drop c).take 1 = [x] := Classical.byContradiction fun q => nomatch hc'.mpr q
    k_steps
    exact hret _ _ _ _ _ ⟨rfl, vs, n, xs, rfl, hv, .inl ⟨he, rfl⟩⟩ F4 (fun p hp => N4 p (.tail _ (.tail _ hp)))
  | true =>
    have he := hc'.mp rfl
    k_steps
    unfold Hold
    have hlb : l < b := lb _ (.head _)
    refine use (rest := []) (insort w α K l n c vs xs x vx hv hx hs hc hcl) F4 X T N4 hA (by simp) (by simp) trivial (by simp only [Around.deeper]; omega) (by simp only [Around.deeper]; omega) ?_
    rintro r led' h5 tk5 zz0
    refine hid ?_; intro KK
    (rcases zz0 with rfl) <;> (k_unfold; clear KK)
    rintro F5 N5 -
    first | (refine fold_F ?_; intro qk) | k_fold | skip
    k_steps
    exact hret _ _ _ _ _ ⟨rfl, _, _, _, rfl, (hv.take c).append (us := vx :: vs.drop c) (ys := x :: xs.drop c) ⟨hx, hv.drop c⟩, .inr ⟨he, rfl⟩⟩ F5 N5
end
theorem eqv_str (a b : Str) : PyData.eqv (.str a) (.str b) = true ↔ a = b := by
  constructor
  · intro h
    simpa [PyData.eqv] using h
  · rintro rfl; simp [PyData.eqv]
theorem eqv_nat (a b : Nat) : PyData.eqv (.int a) (.int b) = true ↔ a = b := by
  constructor
  · intro h
    have : (a : Int) = b := by simpa [PyData.eqv] using h
    omega
  · rintro rfl; simp [PyData.eqv]
noncomputable def ltStr (a b : Str) : Bool := decide (a.cps.toList < b.cps.toList)
noncomputable def strKd (w : World) : Kd w Str where
  enc := .str
  lt := ltStr
  is := fun v a => PyData.strOk a = true ∧ ∃ t, v = .str a t
  carried := by rintro v a ⟨-, t, rfl⟩; exact .str _ _
  lay := by rintro v a ⟨h, -⟩; exact ⟨h, rfl⟩
  eqv := eqv_str
  ltR := by rintro A s Q E v u a b ⟨-, t, rfl⟩ ⟨-, t', rfl⟩ h; exact PyProof.Rows.lt_str h
noncomputable def natKd (w : World) : Kd w Nat where
  enc := fun n => .int n
  lt := fun a b => decide (a < b)
  is := fun v a => ∃ t, v = .int (a : Int) t
  carried := by rintro v a ⟨t, rfl⟩; exact .int _ _
  lay := by rintro v a ⟨t, rfl⟩; exact ⟨rfl, rfl⟩
  eqv := eqv_nat
  ltR := by
    rintro A s Q E v u a b zz0 zz1
    refine hid ?_; intro KK
    (rcases zz0 with ⟨t, rfl⟩) <;> (rcases zz1 with ⟨t', rfl⟩) <;> (k_unfold; clear KK)
    rintro h
    refine lt_int ?_
    have : decide ((a : Int) < b) = decide (a < b) := by simp
    rw [this]; exact h
structure Lin {α : Type} (lt : α → α → Bool) : Prop where
  irr : ∀ a, lt a a = false
  tr : ∀ {a b c}, lt a b = true → lt b c = true → lt a c = true
  tot : ∀ {a b}, a ≠ b → lt a b = false → lt b a = true
theorem lin_nat : Lin (fun a b : Nat => decide (a < b)) where
  irr := by simp
  tr := by simp only [decide_eq_true_eq]; omega
  tot := by simp only [decide_eq_true_eq, decide_eq_false_iff_not]; omega
theorem lin_str : Lin ltStr where
  irr := fun a => by simp [ltStr, List.lt_irrefl]
  tr := by
    intro a b c h1 h2
    simp only [ltStr, decide_eq_true_eq] at *
    exact List.lt_trans h1 h2
  tot := by
    intro a b hne h
    simp only [ltStr, decide_eq_true_eq, decide_eq_false_iff_not] at *
    have h2 := List.not_lt.mp h
    refine Classical.byContradiction fun q => hne ?_
    have h3 := List.not_lt.mp q
    have : a.cps.toList = b.cps.toList := List.le_antisymm h3 h2
    cases a; cases b
    simp at this
    rw [this]
noncomputable def keep {α : Type} [DecidableEq α] (lt : α → α → Bool) (x : α) : List α → List α
  | [] => [x]
  | y :: r => if lt y x then y :: keep lt x r else if y = x then y :: r else x :: y :: r
section
variable {α : Type} [DecidableEq α] {lt : α → α → Bool}
theorem mem_keep {x y : α} : ∀ {xs : List α}, y ∈ keep lt x xs ↔ y = x ∨ y ∈ xs
  | [] => by simp [keep]
  | z :: r => by
    rw [keep]
    split
    · rw [List.mem_cons, mem_keep (xs := r), List.mem_cons]
      constructor
      · rintro (h | h | h) <;> simp [h]
      · rintro (h | h | h) <;> simp [h]
    · split
      · rename_i _ h; subst h
        simp
      · simp
theorem keep_sorted (l : Lin lt) {x : α} : ∀ {xs : List α}, xs.Pairwise (fun a b => lt a b = true) → (keep lt x xs).Pairwise (fun a b => lt a b = true)
  | [], _ => by simp [keep]
  | z :: r, h => by
    rw [List.pairwise_cons] at h
    rw [keep]
    split
    · rename_i hz
      refine List.pairwise_cons.mpr ⟨fun y hy => ?_, keep_sorted l h.2⟩
      refine hid ?_; intro KK
      (rcases mem_keep.mp hy with rfl | hy) <;> (k_unfold; clear KK)
      · exact hz
      · exact h.1 y hy
    · rename_i hz
      split
      · exact List.pairwise_cons.mpr h
      · rename_i hne
        have hx : lt x z = true := l.tot hne (by simpa using hz)
        refine List.pairwise_cons.mpr ⟨fun y hy => ?_, List.pairwise_cons.mpr h⟩
        refine hid ?_; intro KK
        (rcases List.mem_cons.mp hy with rfl | hy) <;> (k_unfold; clear KK)
        · exact hx
        · exact l.tr hx (h.1 y hy)
theorem keep_length (x : α) : ∀ xs : List α, (keep lt x xs).length ≤ xs.length + 1
  | [] => by simp [keep]
  | z :: r => by
    rw [keep]
    split
    · have := keep_length x r; simp only [List.length_cons]; omega
    · split <;> simp
noncomputable def cut (lt : α → α → Bool) (x : α) (xs : List α) : Nat := (xs.takeWhile fun a => lt a x).length
theorem cut_le (x : α) (xs : List α) : cut lt x xs ≤ xs.length := by
  unfold cut
  exact (List.takeWhile_prefix _).length_le
theorem cut_spec (l : Lin lt) {x : α} : ∀ {xs : List α}, xs.Pairwise (fun a b => lt a b = true) → ∀ i a, xs[i]? = some a → (lt a x = true ↔ i < cut lt x xs)
  | [], _, i, a, h => by cases h
  | z :: r, hp, i, a, h => by
    rw [List.pairwise_cons] at hp
    cases hz : lt z x with
    | true =>
      have e : cut lt x (z :: r) = cut lt x r + 1 := by simp [cut, List.takeWhile_cons, hz]
      rw [e]
      cases i with
      | zero =>
        have : z = a := by simpa using h
        refine hid ?_; intro KK
        (subst this) <;> (k_unfold; clear KK)
        simp [hz]
      | succ i =>
        have h' : r[i]? = some a := by simpa using h
        rw [cut_spec l hp.2 i a h']
        omega
    | false =>
      have e : cut lt x (z :: r) = 0 := by simp [cut, List.takeWhile_cons, hz]
      rw [e]
      have ha : lt a x = false := by
        cases i with
        | zero =>
          have : z = a := by simpa using h
          refine hid ?_; intro KK
          (subst this) <;> (k_unfold; clear KK)
          exact hz
        | succ i =>
          have h' : r[i]? = some a := by simpa using h
          have h2 := hp.1 a (List.mem_of_getElem? h')
          cases q : lt a x with
          | false => rfl
          | true => rw [l.tr h2 q] at hz; cases hz
      simp [ha]
theorem keep_is (l : Lin lt) {x : α} : ∀ (xs : List α), keep lt x xs = if (xs.drop (cut lt x xs)).take 1 = [x] then xs else xs.take (cut lt x xs) ++ x :: xs.drop (cut lt x xs)
  | [] => by simp [keep, cut]
  | z :: r => by
    rw [keep]
    cases hz : lt z x with
    | true =>
      have e : cut lt x (z :: r) = cut lt x r + 1 := by simp [cut, List.takeWhile_cons, hz]
      rw [e, if_pos rfl, keep_is l r]
      simp only [List.drop_succ_cons, List.take_succ_cons]
      split <;> simp
    | false =>
      have e : cut lt x (z :: r) = 0 := by simp [cut, List.takeWhile_cons, hz]
      rw [e]
      simp
end
theorem keptK (w : World) (α : Type) [DecidableEq α] (K : Kd w α) (lin : Lin K.lt) (l n : Nat) (vs : List Value) (xs : List α) (x : α) (vx : Value) (hv : Are K.is vs xs) (hx : K.is vx x) (hs : xs.length ≤ 1000) (hp : xs.Pairwise (fun a b => K.lt a b = true)) :
   Con w (.ref 103) [.ref l, vx] 5 20 [(l, listOf vs.toArray n)] (fun h => True) (fun h r led' => r = .none ∧ ∃ vs' n', led' = [(l, listOf vs'.toArray n')] ∧ Are K.is vs' (keep K.lt x xs)) := by
  intro A h₀ mean mg mb s R C D hpre hroom hunits hR
  refine kept w α K l n (cut K.lt x xs) vs xs x vx hv hx hs (cut_spec lin hp) (cut_le x xs) A h₀ mean mg mb s R C D hpre hroom hunits fun r led' h' tk' hpost => hR r led' h' tk' ?_
  refine hid ?_; intro KK
  (obtain ⟨rfl, vs', n', ys, rfl, hy, h⟩ := hpost) <;> (k_unfold; clear KK)
  refine ⟨rfl, vs', n', rfl, ?_⟩
  rw [keep_is lin]
  refine hid ?_; intro KK
  (rcases h with ⟨h1, rfl⟩ | ⟨h1, rfl⟩) <;> (k_unfold; clear KK)
  · rw [if_pos h1]; exact hy
  · rw [if_neg h1]; exact hy
example : True := by w_top off; exact trivial
section
variable {prog : Program} {w : World} {A : Around} {E : Value → Shared → Prop} {s : Shared} {a b i : Nat} {t u : Tok} {Q : Value → Shared → Prop}
theorem shl_nat (hi : i ≤ 1000) (h : ∀ t tk, Q (.int ((2 ^ i : Nat) : Int) t) { s with toks := tk }) : wpAny (model prog w) A (binaryOp .LShift (.int 1 t) (.int (i : Int) u)) Q E s := by
  refine lshift_int_small (by omega) (by omega) (by decide) ?_
  have e : (1 : Int) * 2 ^ (i : Int).toNat = ((2 ^ i : Nat) : Int) := by simp
  rw [e]
  exact h _ _
theorem bitAnd_nat (a b : Nat) : Builtin.bitAnd (a : Int) (b : Int) = ((a &&& b : Nat) : Int) := by
  simp [Builtin.bitAnd]
theorem bitNot_inv (x : Int) : Builtin.bitNot (Builtin.bitNot x) = x := by simp only [Builtin.bitNot]; omega
theorem bitOr_nat (a b : Nat) : Builtin.bitOr (a : Int) (b : Int) = ((a ||| b : Nat) : Int) := by
  have h1 : ¬ (0 ≤ Builtin.bitNot (a : Int)) := by simp only [Builtin.bitNot]; omega
  have h2 : ¬ (0 ≤ Builtin.bitNot (b : Int)) := by simp only [Builtin.bitNot]; omega
  unfold Builtin.bitOr Builtin.bitAnd
  simp only [h1, h2, decide_false, bitNot_inv, Int.toNat_natCast]
theorem and_nat (h : ∀ t tk, Q (.int ((a &&& b : Nat) : Int) t) { s with toks := tk }) : wpAny (model prog w) A (binaryOp .BitAnd (.int (a : Int) t) (.int (b : Int) u)) Q E s := by
  refine and_int ?_
  rw [bitAnd_nat]; exact h _ _
theorem or_nat (h : ∀ t tk, Q (.int ((a ||| b : Nat) : Int) t) { s with toks := tk }) : wpAny (model prog w) A (binaryOp .BitOr (.int (a : Int) t) (.int (b : Int) u)) Q E s := by
  refine or_int ?_
  rw [bitOr_nat]; exact h _ _
theorem ixor_nat (hab : a &&& b = b) (hle : b ≤ a) (h : ∀ t tk, Q (.int ((a - b : Nat) : Int) t) { s with toks := tk }) : wpAny (model prog w) A (inplaceOp .BitXor (.int (a : Int) t) (.int (b : Int) u)) Q E s := by
  refine ixor_int ?_
  have e : Builtin.bitXor (a : Int) (b : Int) = ((a - b : Nat) : Int) := by rw [bitXor_and, bitAnd_nat, hab]; omega
  rw [e]; exact h _ _
end

noncomputable def flagName : Nat → Str
  | 0 => Str.ofString "OPTIMIZED" | 1 => Str.ofString "NEWLOCALS" | 2 => Str.ofString "VARARGS" | 3 => Str.ofString "VARKEYWORDS" | 4 => Str.ofString "NESTED" | 5 => Str.ofString "GENERATOR" | 6 => Str.ofString "NOFREE"
  | 7 => Str.ofString "COROUTINE" | 8 => Str.ofString "ITERABLE_COROUTINE" | 9 => Str.ofString "ASYNC_GENERATOR" | 10 => Str.ofString "0x400" | 11 => Str.ofString "0x800" | 12 => Str.ofString "0x1000" | 13 => Str.ofString "0x2000"
  | _ => Str.ofString ""
noncomputable abbrev flagTab : List (Int × PyData) := [(1, .str (Str.ofString "OPTIMIZED")), (2, .str (Str.ofString "NEWLOCALS")), (4, .str (Str.ofString "VARARGS")), (8, .str (Str.ofString "VARKEYWORDS")), (16, .str (Str.ofString "NESTED")), (32, .str (Str.ofString "GENERATOR")), (64, .str (Str.ofString "NOFREE")),
  (128, .str (Str.ofString "COROUTINE")), (256, .str (Str.ofString "ITERABLE_COROUTINE")), (512, .str (Str.ofString "ASYNC_GENERATOR"))]
theorem flag_keyed {w : World} {h : Heap} (X : (hd.heap_1 w.params).In h) : KTD.Keyed h 15 flagTab := kt_keyed_in X (by rfl)
theorem upto14 {P : Nat → Prop} (h0 : P 0) (h1 : P 1) (h2 : P 2) (h3 : P 3) (h4 : P 4) (h5 : P 5) (h6 : P 6) (h7 : P 7) (h8 : P 8) (h9 : P 9) (h10 : P 10) (h11 : P 11) (h12 : P 12) (h13 : P 13) : ∀ i, i < 14 → P i
  | 0, _ => h0 | 1, _ => h1 | 2, _ => h2 | 3, _ => h3 | 4, _ => h4 | 5, _ => h5 | 6, _ => h6 | 7, _ => h7 | 8, _ => h8 | 9, _ => h9 | 10, _ => h10 | 11, _ => h11 | 12, _ => h12 | 13, _ => h13
  | n + 14, h => absurd h (Nat.not_lt.mpr (Nat.le_add_left 14 n))
theorem flag_look : ∀ i : Nat, i < 14 → (lookup (PyData.int ((2 ^ i : Nat) : Int)) (flagTab.map fun p => (PyData.int p.1, p.2))).getD (.str (baseText "0x" 16 ((2 ^ i : Nat) : Int))) = .str (flagName i) := by
  exact upto14 rfl rfl rfl rfl rfl rfl rfl rfl rfl rfl rfl rfl rfl rfl
theorem hex_fits : ∀ i : Nat, i < 14 → (baseText "0x" 16 ((2 ^ i : Nat) : Int)).length ≤ sizeLine := by
  refine upto14 ?_ ?_ ?_ ?_ ?_ ?_ ?_ ?_ ?_ ?_ ?_ ?_ ?_ ?_ <;> decide +kernel
theorem hi_bit (f i : Nat) : (f / 2 ^ i * 2 ^ i).testBit i = f.testBit i := by
  rw [Nat.testBit_mul_two_pow, Nat.testBit_eq_decide_div_mod_eq (x := f)]
  simp
theorem hi_and (f i : Nat) : (f / 2 ^ i * 2 ^ i) &&& 2 ^ i = (f.testBit i).toNat * 2 ^ i := by
  have key := hi_bit f i
  generalize f / 2 ^ i * 2 ^ i = q at key
  apply Nat.eq_of_testBit_eq
  intro j
  rw [Nat.testBit_and, Nat.testBit_two_pow]
  cases hb : f.testBit i with
  | true =>
    simp only [Bool.toNat_true, Nat.one_mul, Nat.testBit_two_pow]
    by_cases h : i = j
    · subst h; simp [key, hb]
    · simp [h]
  | false =>
    simp only [Bool.toNat_false, Nat.zero_mul, Nat.zero_testBit]
    by_cases h : i = j
    · subst h; simp [key, hb]
    · simp [h]
theorem hi_step (f i : Nat) : f / 2 ^ i * 2 ^ i = f / 2 ^ (i + 1) * 2 ^ (i + 1) + (f.testBit i).toNat * 2 ^ i := by
  have h1 : (f.testBit i).toNat = f / 2 ^ i % 2 := by
    rw [Nat.testBit_eq_decide_div_mod_eq]
    have := Nat.mod_lt (f / 2 ^ i) (by decide : 2 > 0)
    generalize f / 2 ^ i % 2 = r at *
    have : r = 0 ∨ r = 1 := by omega
    rcases this with rfl | rfl <;> rfl
  rw [h1, Nat.pow_succ, ← Nat.div_div_eq_div_mul, ← Nat.mul_assoc, Nat.mul_right_comm, ← Nat.add_mul]
  congr 1
  omega
noncomputable def flagNames (f : Nat) : List Str := if f = 0 then [Str.ofString "0x0"] else ((List.range 14).filter fun j => f.testBit j).map flagName
/-- what pretty_flags tells -/
noncomputable def pflags (f : Nat) : Str := Txt.join (Str.ofString ", ") (flagNames f)
theorem bits_stop (f n : Nat) (h : f < 2 ^ n) : ∀ k, (List.range (n + k)).filter (fun j => f.testBit j) = (List.range n).filter fun j => f.testBit j
  | 0 => rfl
  | k + 1 => by
    rw [← Nat.add_assoc, List.range_succ, List.filter_append, bits_stop f n h k]
    have : f.testBit (n + k) = false := Nat.testBit_lt_two_pow (Nat.lt_of_lt_of_le h (Nat.pow_le_pow_right (by decide) (Nat.le_add_right _ _)))
    simp [this]
theorem flagName_le : ∀ i, (flagName i).length ≤ 18
  | 0 | 1 | 2 | 3 | 4 | 5 | 6 | 7 | 8 | 9 | 10 | 11 | 12 | 13 => by decide +kernel
  | _ + 14 => Nat.zero_le _
theorem flagNames_sum : ∀ L : List Nat, ((L.map flagName).map (·.length)).sum ≤ 18 * L.length
  | [] => Nat.le_refl _
  | i :: r => by
    have h1 := flagName_le i
    have h2 := flagNames_sum r
    simp only [List.map_cons, List.sum_cons, List.length_cons]
    omega
theorem get_flag {w : World} {A : Around} {E : Value → Shared → Prop} {s : Shared} {g : Heap} {L : Addr} {m : Str → Option Value} {i : Nat} {t u : Tok} {Q : Value → Shared → Prop} (F : Fr g L s.heap m) (X : (hd.heap_1 w.params).In g) (hi : i < 14)
    (h : ∀ t tk, Q (.str (flagName i) t) { s with toks := tk }) : wpAny (model PySem.Challenge.rw_wn0058_01.row.prog w) A (call (.builtin "dict.get") [.ref 15, .int ((2 ^ i : Nat) : Int) t, .str (baseText "0x" 16 ((2 ^ i : Nat) : Int)) u]) Q E s := by
  refine call_get2_intTab (KTD.tab_keep (flag_keyed X _ _) F.keep) (PyProof.V.Flat.str _ _) fun v hv => ?_
  rw [flag_look i hi] at hv
  refine hid ?_; intro KK
  (obtain ⟨t, rfl, _⟩ := reads_str_inv (hv {})) <;> (k_unfold; clear KK)
  exact h _ _
section
local macro_rules | `(tactic| walk_at $s:str) => if ["exec For Name Call cons cons", "pyIter ref"].contains s.getString then `(tactic| (refine hold_of ?_)) else Lean.Macro.throwUnsupported
local macro_rules | `(tactic| walk_at "binaryOp LShift int int") => `(tactic| (refine shl_nat (by omega) ?_; intro tS tkS))
local macro_rules | `(tactic| walk_at "binaryOp BitAnd int int") => `(tactic| (refine and_nat ?_; intro tB tkB))
local macro_rules | `(tactic| walk_at "call builtin:dict.get") => `(tactic| (refine hold_of ?_))
theorem flagsC (w : World) (f : Nat) (tf : Tok) (hf : f < 16384) :
   Con w (.ref 22) [.int f tf] 3 20 [] (fun h => True) (fun h r led' => led' = [] ∧ ∃ t, r = .str (pflags f) t) := by
  refine' con_of [("flags", .int f tf)] ?o ?c ?b ?lo ?c2 ?c3 ?c4 ?c5 ?_
  case o => k_is
  case c => k_is
  case b => intro S; exact rfl
  case lo => exact rfl
  case c2 => exact rfl
  case c3 => exact rfl
  case c4 => exact rfl
  case c5 => decide
  intro A g L' h₁ tk hp0 gs dr os mean mg mb R hA hd hu F N X T hpre hk hlt hret
  first | (refine fold_F ?_; intro qk) | k_fold | skip
  k_steps
  rename News _ _ _ _ => N1
  rename_i l h2 l1 h3 F1
  unfold Hold
  have fin : ∀ (m' : Str → Option Value) (h' : Heap) (tk' : Nat) (vs : List Value) (e : Nat) (rest : List (Addr × Obj)), Fr g L' h' m' → m' "names" = some (.ref l) → News g L' h' ((l, listOf vs.toArray e) :: rest) → StrsAre vs (flagNames f) → qn .next ⟨h', gs, dr, tk', os⟩ := by
    intro m' h' tk' vs e rest F1 mn N1 hvs
    have F2 := Fr.know F1 [("names", .ref l)] (by first | exact kn_cons mn (kn_nil) | simp [mn])
    clear F1
    dsimp only [qn]
    k_steps
    have hsum : ((flagNames f).map (·.length)).sum + (flagNames f).length * 2 ≤ 16777216 := by
      unfold flagNames
      split
      · decide +kernel
      · have h1 := flagNames_sum ((List.range 14).filter fun j => f.testBit j)
        have h2 := List.length_filter_le (fun j => f.testBit j) (List.range 14)
        rw [List.length_range] at h2
        rw [List.length_map]
        omega
    refine join_list (News.isList N1 (.head _)) hvs hsum ?_
    intro t2 tk2
    k_steps
    rename Fr _ _ _ _ => F3
    exact hret _ _ _ _ _ ⟨rfl, _, rfl⟩ F3 (fun _ h => nomatch h)
  clear_value qn
  refine wpAny_For ?_
  k_steps
  unfold Hold

  rename Fr _ _ _ _ => F1
  rename News _ _ _ _ => N1
  rename IsRange _ _ _ _ _ _ _ _ => hr
  refine for_range 32 (fun i m news => ∃ vs e tl, m "names" = some (.ref l) ∧ m "flags" = some (.int ((f / 2 ^ i * 2 ^ i : Nat) : Int) tl) ∧ news = [(l, listOf vs.toArray e)] ∧ StrsAre vs (((List.range i).filter fun j => f.testBit j).map flagName) ∧ (f = 0 ∨ f / 2 ^ i ≠ 0))
    hr (by decide) (by simpa [Around.deeper] using hA) F1 N1 ⟨[], 0, tf, rfl, by rw [Nat.pow_zero, Nat.div_one, Nat.mul_one]; rfl, rfl, .nil, by omega⟩ ?_ ?_
  · rintro I i t m₁ news₁ h₁ tk₁ hi zz0
    refine hid ?_; intro KK
    (rcases zz0 with ⟨vs, e, tl, mn, mf, rfl, hvs, hz⟩) <;> (k_unfold; clear KK)
    rintro F2 N2 hne
    have F3 := Fr.know F2 [("names", .ref l), ("flags", .int ((f / 2 ^ i * 2 ^ i : Nat) : Int) tl)] (by first | exact kn_cons mn (kn_cons mf (kn_nil)) | simp [mn, mf])
    clear F2 F1 N1
    first | (refine fold_F ?_; intro qk) | k_fold | skip
    k_steps
    · rename _ ≠ (0 : Int) => hset
      have hbit : f.testBit i = true := by
        cases hb : f.testBit i with
        | true => rfl
        | false => rw [hi_and, hb] at hset; simp at hset
      have hi14 : i < 14 := by
        refine Nat.lt_of_not_le fun q => ?_
        have : f < 2 ^ i := Nat.lt_of_lt_of_le hf (Nat.pow_le_pow_right (by decide) q : 2 ^ 14 ≤ 2 ^ i)
        rw [Nat.testBit_lt_two_pow this] at hbit; cases hbit
      refine P.hex_of_int (i := ((2 ^ i : Nat) : Int)) ?_ (hex_fits i hi14)
      k_steps
      unfold Hold
      rename Fr _ _ _ _ => F4
      refine get_flag F4 X hi14 ?_
      intro t2 tk2
      k_steps
      rename Fr _ _ _ _ => F5
      rename News _ _ _ _ => N5
      have hIl : l ≠ I := hne _ (.head _)
      have hlen : vs.length ≤ 32 := by
        rw [hvs.len_eq, List.length_map]
        exact Nat.le_trans (List.length_filter_le _ _) (by rw [List.length_range]; omega)
      refine append_K F5 N5 (Upd.tail (Ne.symm hIl : I ≠ l) (Upd.head (fun _ h => nomatch h))) ?_ (by simp only [List.size_toArray, sizeLine]; omega)
      intro h5 F6 N6
      k_steps
      · rename Builtin.bitXor _ _ ≠ 0 => hx
        rename Fr _ _ _ _ => F7
        rename News _ _ _ _ => N7
        have hnx : Builtin.bitXor ((f / 2 ^ i * 2 ^ i : Nat) : Int) ((2 ^ i : Nat) : Int) = ((f / 2 ^ (i + 1) * 2 ^ (i + 1) : Nat) : Int) := by
          rw [bitXor_and, bitAnd_nat, hi_and, hbit]
          have := hi_step f i
          rw [hbit] at this
          simp only [Bool.toNat_true, Nat.one_mul] at this ⊢
          omega
        rw [hnx] at F7 hx
        simp only [List.push_toArray] at N7
        refine ⟨_, _, _, [(l, listOf (vs ++ [Value.str (flagName i) t2]).toArray (e + 1))], rfl, F7, N7, (fun p hp => by simpa [List.mem_singleton.mp hp] using hIl), vs ++ [Value.str (flagName i) t2], e + 1, _, rfl, rfl, rfl, ?_, .inr fun q => hx (by rw [q]; simp)⟩
        rw [List.range_succ, List.filter_append, List.map_append]
        refine StrsAre.append' hvs ?_
        simp only [List.filter_cons, hbit, if_true, List.filter_nil, List.map_cons, List.map_nil]
        exact .cons _ _ .nil
      · rename Fr _ _ _ _ => F7
        rename News _ _ _ _ => N7
        simp only [List.push_toArray] at N7
        rename Builtin.bitXor _ _ = 0 => hx
        refine fin _ _ _ (vs ++ [Value.str (flagName i) t2]) _ [] F7 rfl (fun p hp => N7 p (.tail _ hp)) ?_
        have hq : f / 2 ^ (i + 1) = 0 := by
          rw [bitXor_and, bitAnd_nat, hi_and, hbit] at hx
          have := hi_step f i
          rw [hbit] at this
          simp only [Bool.toNat_true, Nat.one_mul] at this hx
          have h0 : f / 2 ^ (i + 1) * 2 ^ (i + 1) = 0 := by omega
          exact (Nat.mul_eq_zero.mp h0).resolve_right (Nat.ne_of_gt (Nat.two_pow_pos (i + 1)))
        have hlt : f < 2 ^ (i + 1) := by
          refine hid ?_; intro KK
          (rcases (Nat.div_eq_zero_iff).mp hq with h | h) <;> (k_unfold; clear KK)
          · exact absurd h (Nat.ne_of_gt (Nat.two_pow_pos (i + 1)))
          · exact h
        have hf0 : f ≠ 0 := fun q => by rw [q, Nat.zero_testBit] at hbit; cases hbit
        have e14 : 14 = (i + 1) + (13 - i) := by omega
        unfold flagNames
        rw [if_neg hf0, e14, bits_stop f (i + 1) hlt, List.range_succ, List.filter_append, List.map_append]
        refine StrsAre.append' hvs ?_
        simp only [List.filter_cons, hbit, if_true, List.filter_nil, List.map_cons, List.map_nil]
        exact .cons _ _ .nil
    · rename _ = (0 : Int) => hset
      have hbit : f.testBit i = false := by
        cases hb : f.testBit i with
        | false => rfl
        | true =>
          rw [hi_and, hb] at hset
          have h2 := Nat.two_pow_pos i
          simp only [Bool.toNat_true, Nat.one_mul] at hset
          omega
      rename Fr _ _ _ _ => F7
      rename News _ _ _ _ => N7
      have hst := hi_step f i
      rw [hbit] at hst
      simp only [Bool.toNat_false, Nat.zero_mul, Nat.add_zero] at hst
      rw [hst] at F7
      refine ⟨_, _, _, [(l, listOf vs.toArray e)], rfl, F7, N7, (fun p hp => by simpa using hne p hp), vs, e, _, rfl, rfl, rfl, ?_, ?_⟩
      · rw [List.range_succ, List.filter_append, List.map_append]
        simpa [List.filter_cons, hbit] using hvs
      · refine hz.imp id fun q1 q2 => q1 ?_
        rw [q2, Nat.zero_mul] at hst
        exact (Nat.mul_eq_zero.mp hst).resolve_right (Nat.ne_of_gt (Nat.two_pow_pos i))
  · rintro m₁ news₁ h₁ tk₁ zz0
    refine hid ?_; intro KK
    (rcases zz0 with ⟨vs, e, tl, mn, mf, rfl, hvs, hz⟩) <;> (k_unfold; clear KK)
    rintro F2 N2
    have hf0 : f = 0 := hz.resolve_right fun q => q (Nat.div_eq_of_lt (Nat.lt_of_lt_of_le hf (by decide : 16384 ≤ 2 ^ 32)))
    refine hid ?_; intro KK
    (subst hf0) <;> (k_unfold; clear KK)
    have F3 := Fr.know F2 [("names", .ref l), ("flags", .int 0 tl)] (by first | exact kn_cons mn (kn_cons mf (kn_nil)) | simp [mn, mf])
    clear F2
    first | (refine fold_F ?_; intro qk) | k_fold | skip
    k_steps
    rename Fr _ _ _ _ => F7
    rename News _ _ _ _ => N7
    simp only [List.push_toArray] at N7
    have hv0 : vs = [] := by
      have : ((List.range 32).filter fun j => Nat.testBit 0 j) = [] := by simp
      rw [this] at hvs
      exact hvs.nil_inv
    refine hid ?_; intro KK
    (subst hv0) <;> (k_unfold; clear KK)
    exact fin _ _ _ _ _ [] F7 rfl N7 (.cons _ _ .nil)
end
example : True := by w_top off; exact trivial
noncomputable abbrev lexDict (w : World) (k : Int) (fp : Value) (pb : Addr) (t1 t2 t3 t4 t5 t6 : Tok) : Obj := dictOf [⟨PyData.keyHash w.params (Str.ofString "lineno"), .str (Str.ofString "lineno") t1, .int k t2⟩, ⟨PyData.keyHash w.params (Str.ofString "instream"), .str (Str.ofString "instream") t3, fp⟩,
  ⟨PyData.keyHash w.params (Str.ofString "whitespace"), .str (Str.ofString "whitespace") t4, .str (Str.ofString "\n\t\r ") t5⟩, ⟨PyData.keyHash w.params (Str.ofString "pushback"), .str (Str.ofString "pushback") t6, .ref pb⟩] 4
section
theorem lexInit (w : World) (x dx : Addr) (fp : Value) (hne : x ≠ dx) :
   Con w (.ref 54) [.ref x, fp] 3 20 [(x, instObj 78 dx), (dx, dictOf [] 0)] (fun h => True) (fun h r led' => r = .none ∧ ∃ pb t1 t2 t3 t4 t5 t6, led' = [(pb, listOf #[] 0), (x, instObj 78 dx), (dx, lexDict w 1 fp pb t1 t2 t3 t4 t5 t6)] ∧ pb ≠ x ∧ pb ≠ dx) := by
  refine' con_of [("self", .ref x), ("fp", fp)] ?o ?c ?b ?lo ?c2 ?c3 ?c4 ?c5 ?_
  case o => k_is
  case c => k_is
  case b => intro S; exact rfl
  case lo => exact rfl
  case c2 => exact rfl
  case c3 => exact rfl
  case c4 => exact rfl
  case c5 => decide
  intro A g L' h₁ tk hp0 gs dr os mean mg mb R hA hd hu F N X T hpre hk hlt hret
  first | (refine fold_F ?_; intro qk) | k_fold | skip
  k_steps
  rename Fr _ _ _ _ => F2
  rename News _ _ _ _ => N2
  rename _ < _ ∧ _ < _ => hlt2
  exact hret _ _ _ _ _ ⟨rfl, _, _, _, _, _, _, _, rfl, Nat.ne_of_gt hlt2.1, Nat.ne_of_gt hlt2.2⟩ F2 N2
end
theorem newLex {w : World} {A : Around} {g : Heap} {L : Addr} {m : Str → Option Value} {news : List (Addr × Obj)} {mean : ExcName → Option Value} {mg mb : Str → Option Value} {s : Shared} {Q E : Value → Shared → Prop} (fp : Value)
    (F : Fr g L s.heap m) (X : (hd.heap_1 w.params).In g) (T : Top topProg loose mean mg mb g) (N : News g L s.heap news) (hA : A.handled = none) (hd : A.depth + 6 < recursionLimit) (hu : A.units + 8 * 30 < cLine)
    (h : ∀ x dx pb t1 t2 t3 t4 t5 t6 h' tk', Fr g L h' m → News g L h' ((pb, listOf #[] 0) :: (x, instObj 78 dx) :: (dx, lexDict w 1 fp pb t1 t2 t3 t4 t5 t6) :: news) → (∀ p ∈ news, p.1 ≠ pb ∧ p.1 ≠ x ∧ p.1 ≠ dx) → pb ≠ x ∧ pb ≠ dx ∧ x ≠ dx → Q (.ref x) { s with heap := h', toks := tk' }) :
    wpAny (model PySem.Challenge.rw_wn0058_01.row.prog w) A (call (.ref 78) [fp]) Q E s := by
  refine call_cls (fI := 54) F X N (by k_is) (by k_is) (by k_is) fun x dx h' F' N' hlt hlt2 => ?_
  refine useC (rest := news) (lexInit w x dx fp (Nat.ne_of_gt hlt2)) F' X T N' (by simpa [Around.under] using hA) ?_ ?_ trivial ?_ ?_ ?_
  · intro p hp
    refine hid ?_; intro KK
    (rcases List.mem_cons.mp hp with rfl | hp) <;> (k_unfold; clear KK)
    · exact .head _
    · rw [List.mem_singleton.mp hp]; exact .tail _ (.head _)
  · intro p hp
    have h1 : p.1 < dx := hlt p hp
    refine ⟨.tail _ (.tail _ hp), fun hm => ?_⟩
    refine hid ?_; intro KK
    (rcases List.mem_cons.mp hm with e | hm) <;> (k_unfold; clear KK)
    · have e : p.1 = x := e
      rw [e] at h1
      exact absurd h1 (Nat.not_lt.mpr (Nat.le_of_lt hlt2))
    · exact Nat.ne_of_lt h1 (List.mem_singleton.mp hm)
  · simp only [depth_under_make]; omega
  · show (A.units + _) + 8 * 20 < cLine
    have : (Code.builtin "type.__call__" { pos := [Value.ref 78, fp] }).cUnits ≤ 4 := Nat.le_of_ble_eq_true rfl
    omega
  · rintro r led' h2 tk2 zz0
    refine hid ?_; intro KK
    (rcases zz0 with ⟨rfl, pb, t1, t2, t3, t4, t5, t6, rfl, hpx, hpd⟩) <;> (k_unfold; clear KK)
    rintro F2 N2 hdj
    have hpb : ∀ q ∈ (x, instObj 78 dx) :: (dx, dictOf [] 0) :: news, q.1 ≠ pb := by
      refine hid ?_; intro KK
      (rcases hdj _ (.head _) with h1 | h1) <;> (k_unfold; clear KK)
      · refine hid ?_; intro KK
        (rcases List.mem_cons.mp h1 with e | h1) <;> (k_unfold; clear KK)
        · exact absurd e hpx
        · exact absurd (List.mem_singleton.mp h1) hpd
      · exact h1
    refine ⟨rfl, h x dx pb t1 t2 t3 t4 t5 t6 h2 tk2 F2 N2 (fun p hp => ⟨hpb p (.tail _ (.tail _ hp)), Nat.ne_of_lt (Nat.lt_trans (hlt p hp) hlt2), Nat.ne_of_lt (hlt p hp)⟩) ⟨Ne.symm (hpb _ (.head _)), Ne.symm (hpb _ (.tail _ (.head _))), Nat.ne_of_gt hlt2⟩⟩
/-- the contract of a function object of the ledger -/
theorem con_ofF {w : World} {led : List (Addr × Obj)} {name qual : Str} {params : Arguments} {body : List Stmt} {scope : Scope} {cl : List (Str × Addr)}
    {doc pm ctv : Value} {c' : Addr} {oc : Obj} {vs' : Array Value} {t : Tok} {f : Addr} {vs : List Value} {room units : Nat} {pre : Heap → Prop} {post : Heap → Value → List (Addr × Obj) → Prop} (binds : List (Str × Value))
    (ho : (f, fnMade name qual params body scope cl doc pm c' ctv) ∈ led) (hoc : (c', oc) ∈ led) (hdt : oc.data = .fields vs') (hv : vs'[1]? = some (.str qual t))
    (hbind : ∀ s, BindsTo s (fnX name qual params body scope cl .none .none doc pm none (.ref c') ctv) ⟨vs, []⟩ binds) (hloc : (binds.all fun x => decide (scope.names.lookup x.1 = some .local)) = true)
    (hco : scope.isCoroutine = false) (hgen : scope.isGenerator = false) (hk : scope.kind = .function)
    (hcell : ∀ x ∈ scope.names, x.2 ≠ .cell)
    (h : ∀ (A : Around) (g : Heap) (L' : Addr) (h₁ : Heap) (tk : Nat) (hp0 : Heap) (gs : Array GenState) (dr : Drawn) (os : OsState) (mean : ExcName → Option Value) (mg mb : Str → Option Value) (R : Result → Shared → Prop),
      A.handled = none → A.depth + room < recursionLimit → A.units + 8 * units < cLine → Fr g L' h₁ (fun y => binds.reverse.lookup y) → News g L' h₁ led → (hd.heap_1 w.params).In g → Top topProg loose mean mg mb g →
      pre hp0 → (∀ b o, hp0.get? b = some o → b ∉ led.map (·.1) → g.get? b = some o) → (∀ p ∈ led, p.1 < L') →
      (∀ r led' h' tk' m', post hp0 r led' → Fr g L' h' m' → News g L' h' led' → R (.ok (.ret r)) ⟨h', gs, dr, tk', os⟩) →
      wpAny (model PySem.Challenge.rw_wn0058_01.row.prog w) (A.deeper (envX qual scope L' f (.ref c') cl)) (execs body (envX qual scope L' f (.ref c') cl))
        (fun fl s' => R (.ok (.ret (match fl with | .ret v => v | _ => .none))) s') (fun _ _ => False)
        ⟨h₁, gs, dr, tk, os⟩) : Con w (.ref f) vs room units led pre post := by
  intro A h₀ mean mg mb s R C D hpre hroom hunits hR
  have X := C.K.keeps C.sub
  have nm : ∀ b o, h₀.get? b = some o → b ∉ led.map (·.1) := fun b o e q => by
    refine hid ?_; intro KK
    (obtain ⟨p, hp, rfl⟩ := List.mem_map.mp q) <;> (k_unfold; clear KK)
    rw [(D p hp).2] at e; cases e
  have st : ∀ b o, h₀.get? b = some o → (hideAll s.heap (led.map (·.1))).get? b = some o := fun b o e => hideAll_get _ (C.sub b o e) (nm b o e)
  refine codeAny_call_def (fd := fnX name qual params body scope cl .none .none doc pm none (.ref c') ctv) (body := body) (binds := binds) (by omega) (D _ ho).1 rfl (C.top.nolimit.keeps C.sub) ⟨c', oc, vs', t, rfl, (D _ hoc).1, hdt, hv⟩ rfl
    (hbind s) hcell (locs hloc) (fun h₁ hns hk₁ => ?_) hco hgen hk
  have F : Fr (hideAll s.heap (led.map (·.1))) s.heap.objs.size h₁ (fun y => binds.reverse.lookup y) := ⟨hns, fun b o e => hk₁ b o (of_hideAll _ e), Nat.le_of_eq (hideAll_size _ _)⟩
  have N : News (hideAll s.heap (led.map (·.1))) s.heap.objs.size h₁ led := fun p hp => ⟨hk₁ _ _ (D p hp).1, Nat.ne_of_lt (Heap.lt_size (D p hp).1), hideAll_none _ (List.mem_map_of_mem hp)⟩
  refine wpAny_mono (h A (hideAll s.heap (led.map (·.1))) s.heap.objs.size h₁ _ s.heap s.gens s.drawn s.os mean mg mb R C.hand hroom hunits F N (C.K.keeps st) (C.top.keeps st) hpre (fun b o e q => hideAll_get _ e q) (fun p hp => Heap.lt_size (D p hp).1) ?_) (fun fl s' hl => hl) fun _ _ x => x.elim
  intro r led' h' tk' m' hpost F' N'
  refine hR r led' h' tk' hpost (fun b o e q => F'.keep b o (hideAll_get _ e q)) fun p hp => ⟨(N' p hp).1, ?_⟩
  cases q : s.heap.get? p.1 with
  | none => exact .inr rfl
  | some o =>
    by_cases q2 : p.1 ∈ led.map (·.1)
    · exact .inl q2
    · have e := hideAll_get _ q q2
      rw [(N' p hp).2.2] at e; cases e
/-- the lexer's objects -/
structure LX where
  (ln dl pb xs dx ps fn co si ce : Addr)
  (t1 t3 t4 t5 t6 : Tok)
  (u1 u2 u3 u4 u5 u6 u7 : Tok)
  (fd : FuncData)
  (oc oce : Obj)
  (rg : List Value)
noncomputable abbrev LX.strm (w : World) (n : LX) : Obj := dictOf [⟨PyData.keyHash w.params (Str.ofString "lineno"), .str (Str.ofString "lineno") n.u1, .int 1 n.u2⟩, ⟨PyData.keyHash w.params (Str.ofString "instream"), .str (Str.ofString "instream") n.u3, .none⟩,
  ⟨PyData.keyHash w.params (Str.ofString "whitespace"), .str (Str.ofString "whitespace") n.u4, .str (Str.ofString "\n\t\r ") n.u5⟩, ⟨PyData.keyHash w.params (Str.ofString "pushback"), .str (Str.ofString "pushback") n.u6, .ref n.ps⟩, ⟨PyData.keyHash w.params (Str.ofString "read"), .str (Str.ofString "read") n.u7, .ref n.fn⟩] 5
noncomputable abbrev LX.fo (n : LX) : Obj := { cls := .type "function", data := .func n.fd }
noncomputable abbrev LX.led (w : World) (n : LX) (k : Int) (tk : Tok) (pv : List Value) (pe : Nat) (its : List Value) (se : Nat) : List (Addr × Obj) :=
  [(n.pb, listOf pv.toArray pe), (n.ln, instObj 78 n.dl), (n.dl, lexDict w k (.ref n.xs) n.pb n.t1 tk n.t3 n.t4 n.t5 n.t6), (n.fn, n.fo), (n.co, n.oc), (n.ps, listOf #[] 0), (n.xs, instObj 78 n.dx), (n.dx, n.strm w),
   (n.si, listOf its.toArray se), (n.ce, n.oce), (84, tabObj n.rg.toArray)]
noncomputable abbrev LX.led1 (n : LX) (its : List Value) (se : Nat) : List (Addr × Obj) := [(n.fn, n.fo), (n.co, n.oc), (n.si, listOf its.toArray se), (n.ce, n.oce)]
structure LX.Ok (w : World) (n : LX) : Prop where
  nd : [n.pb, n.ln, n.dl, n.fn, n.co, n.ps, n.xs, n.dx, n.si, n.ce, 84].Nodup
  piece : ∀ its se t, its.length ≤ 100000 → Con w (.ref n.fn) [.int 1 t] 3 20 (n.led1 its se) (fun _ => True) (fun h r led' => (its = [] ∧ (∃ t, r = .str (Str.ofString "") t) ∧ led' = n.led1 [] se) ∨ (∃ its' v se', its = its' ++ [v] ∧ r = v ∧ led' = n.led1 its' se'))
theorem nd11 {a b c f k p x d S e t : Nat} (h1 : a ≠ b) (h2 : a ≠ c) (h3 : b ≠ c) (hN : (¬ f = a ∧ ¬ f = b ∧ ¬ f = c) ∧ (¬ k = a ∧ ¬ k = b ∧ ¬ k = c) ∧ (¬ p = a ∧ ¬ p = b ∧ ¬ p = c) ∧ (¬ x = a ∧ ¬ x = b ∧ ¬ x = c) ∧ (¬ d = a ∧ ¬ d = b ∧ ¬ d = c) ∧ (¬ S = a ∧ ¬ S = b ∧ ¬ S = c) ∧
    (¬ e = a ∧ ¬ e = b ∧ ¬ e = c) ∧ (¬ t = a ∧ ¬ t = b ∧ ¬ t = c)) (l2 : k < f) (l1 : p < k ∧ x < k ∧ d < k ∧ S < k ∧ e < k ∧ t < k) (g1 : p ≠ x) (g2 : p ≠ d) (g3 : x ≠ d)
    (k1 : S ≠ p) (k2 : S ≠ x) (k3 : S ≠ d) (k4 : e ≠ p) (k5 : e ≠ x) (k6 : e ≠ d) (k7 : t ≠ p) (k8 : t ≠ x) (k9 : t ≠ d) (m1 : e < S) (m2 : t < S) (m3 : t < e) : [a, b, c, f, k, p, x, d, S, e, t].Nodup := by
  refine hid ?_; intro KK
  (obtain ⟨⟨_, _, _⟩, ⟨_, _, _⟩, ⟨_, _, _⟩, ⟨_, _, _⟩, ⟨_, _, _⟩, ⟨_, _, _⟩, ⟨_, _, _⟩, _, _, _⟩ := hN) <;> (k_unfold; clear KK)
  refine hid ?_; intro KK
  (obtain ⟨_, _, _, _, _, _⟩ := l1) <;> (k_unfold; clear KK)
  simp only [List.nodup_cons, List.mem_cons, List.not_mem_nil, or_false, not_or, List.nodup_nil, and_true, not_false_eq_true]
  repeat' apply And.intro
  all_goals first | assumption | exact Ne.symm (by assumption) | exact Nat.ne_of_gt (by assumption) | exact Nat.ne_of_lt (by assumption) | exact Nat.ne_of_gt (Nat.lt_trans (by assumption) l2)
theorem nil_or_last {α : Type} (l : List α) : l = [] ∨ ∃ p v, l = p ++ [v] := by
  refine hid ?_; intro KK
  (rcases List.eq_nil_or_concat l with h | ⟨p, v, h⟩) <;> (k_unfold; clear KK)
  · exact .inl h
  · exact .inr ⟨p, v, by rw [h]; simp⟩
theorem kl_last_app : ∀ (p : List Value) (v : Value), kl_last (p ++ [v]) = some (p, v)
  | [], _ => rfl
  | x :: r, v => by show (match kl_last (r ++ [v]) with | some (p, y) => some (x :: p, y) | none => some ([], x)) = _; rw [kl_last_app r v]
section
theorem lexer (w : World) (x : Str) (tx : Tok) (hx : x.length ≤ 100000) :
   Con w (.ref 89) [.str x tx] 8 90 [(84, tabObj #[])] (fun h => True) (fun h r led' => ∃ (n : LX) (its : List Value) (tk : Tok), r = .ref n.ln ∧ led' = n.led w 1 tk [] 0 its 0 ∧ n.Ok w ∧ StrsAre its.reverse (signs x)) := by
  refine' con_ofC [("text", .str x tx)] ?o ?c ?b ?lo ?nd ?c2 ?c3 ?c4 ?_
  case o => k_is
  case c => k_is
  case b => intro S; exact rfl
  case lo => exact rfl
  case nd => decide +kernel
  case c2 => exact rfl
  case c3 => exact rfl
  case c4 => exact rfl
  intro A g L' h₁ tk hp0 gs dr os mean mg mb R cells hA hd hu F N Y X T hpre hk hlt hret
  refine hid ?_; intro KK
  (obtain ⟨oc, rfl, hoc⟩ := CellsAre.one Y) <;> (k_unfold; clear KK)
  simp only [List.cons_append, List.nil_append] at N
  have hcd : CodeHd g 88 84 := codeHd_of_K X rfl
  first | (refine fold_F ?_; intro qk) | k_fold | skip
  k_steps
  refine list_strD (by simpa [Around.deeper] using hA) F N (fun h1 tk1 ys F1 N1 _ hg1 _ hNP hys => ?_) (by simp only [sizeLine]; omega)
  refine hid ?_; intro KK
  (obtain ⟨⟨c1, hl1⟩, hd1⟩ := hNP) <;> (k_unfold; clear KK)
  have hys := StrsAre.ofCarried hys
  k_steps
  unfold Hold
  have hlen : ys.length ≤ 100000 := by rw [hys.len_eq, signs_length]; exact hx
  refine slice_g (s := ⟨_, _, _, _, _⟩) (us := ys.reverse) F1 N1 (by assumption) .none .none (.int _ _) (by decide) (by simpa using krv_pick ys.toArray) (by omega) ?_
  intro S h4 F4 N4 lb
  have lb1 : L' + 1 < S := lb _ (.head _)
  have lb2 : 84 < S := lb _ (.tail _ (.head _))
  have lL : 84 < L' := hlt _ (.head _)
  k_steps
  unfold Hold
  rename_i oc2 F5 N5 hoc2
  simp only [List.cons_append, List.nil_append] at N5
  refine newLex .none F5 X T N5 (by simpa [Around.deeper] using hA) (by simp only [Around.deeper]; omega) (by simp only [Around.deeper]; omega) ?_
  intro x1 d1 p1 t1 t2 t3 t4 t5 t6 h6 tk6 F6 N6 hdj6 hne6
  have q1 := hdj6 _ (.head _)
  have q2 := hdj6 _ (.tail _ (.head _))
  have q3 := hdj6 _ (.tail _ (.tail _ (.head _)))
  refine hid ?_; intro KK
  (obtain ⟨q4, q5, q6⟩ := hne6) <;> (k_unfold; clear KK)
  dsimp only at q1 q2 q3
  refine hid ?_; intro KK
  (obtain ⟨q11, q12, q13⟩ := q1) <;> (k_unfold; clear KK)
  refine hid ?_; intro KK
  (obtain ⟨q21, q22, q23⟩ := q2) <;> (k_unfold; clear KK)
  refine hid ?_; intro KK
  (obtain ⟨q31, q32, q33⟩ := q3) <;> (k_unfold; clear KK)
  replace q11 := neN q11
  replace q12 := neN q12
  replace q13 := neN q13
  replace q21 := neN q21
  replace q22 := neN q22
  replace q23 := neN q23
  replace q31 := neN q31
  replace q32 := neN q32
  replace q33 := neN q33
  replace lb1 := ltN lb1
  replace lb2 := ltN lb2
  replace lL := ltN lL
  replace q4 := neN q4
  replace q5 := neN q5
  replace q6 := neN q6
  k_steps
  unfold Hold
  rename Fr _ _ _ _ => F8
  rename News _ _ _ _ => N8
  rename_i l1 l2 _ _
  simp only [List.append_toArray, List.nil_append] at N8
  refine newLex (.ref x1) F8 X T N8 (by simpa [Around.deeper] using hA) (by simp only [Around.deeper]; omega) (by simp only [Around.deeper]; omega) ?_
  intro x2 d2 p2 t1' t2' t3' t4' t5' t6' h9 tk9 F9 N9 hdj9 hne9
  refine hret _ _ _ _ _ ?_ F9 N9
  have hN : ∀ p : Addr × Obj, p ∈ _ → ¬ @Eq Nat p.1 p2 ∧ ¬ @Eq Nat p.1 x2 ∧ ¬ @Eq Nat p.1 d2 := fun p hp => ⟨neN (hdj9 p hp).1, neN (hdj9 p hp).2.1, neN (hdj9 p hp).2.2⟩
  simp only [List.forall_mem_cons] at hN
  have r1 := neN hne9.1
  have r2 := neN hne9.2.1
  have r3 := neN hne9.2.2
  refine ⟨⟨x2, d2, p2, x1, d1, p1, _, _, S, L' + 1, _, _, _, _, _, _, _, _, _, _, _, _, _, _, _, _⟩, _, _, rfl, rfl, ⟨?_, ?_⟩, ?_⟩
  · exact nd11 r1 r2 r3 (by simpa only [List.not_mem_nil, false_implies, implies_true, and_true] using hN) l2 l1 q4 q5 q6 q11 q12 q13 q21 q22 q23 q31 q32 q33 lb1 lb2 (Nat.lt_succ_of_lt lL)
  · intro its se t hits
    refine con_ofF [("count", .int 1 t)] (.head _) (.tail _ (.head _)) (by assumption) (by assumption) (fun _ => BindsTo.of_eq rfl) rfl rfl rfl rfl (by decide) ?_
    intro A2 g2 L2 h2 tk2 hp02 gs2 dr2 os2 mean2 mg2 mb2 R2 hA2 hd2 hu2 F2 N2 X2 T2 hpre2 hk2 hlt2 hret2
    clear hret F8 N8 F9 N9 X T hA hd hu
    dsimp only [LX.led1, LX.fo] at N2
    first | (refine fold_F ?_; intro qk) | k_fold | skip
    k_steps
    rename Fr _ _ _ _ => F3
    rename News _ _ _ _ => N3
    refine wpAny_truthy_list (News.isList N3 (.tail _ (.tail _ (.head _)))) (by rw [List.size_toArray]; omega) ?_
    refine hid ?_; intro KK
    (rcases nil_or_last its with rfl | ⟨its', v, rfl⟩) <;> (k_unfold; clear KK)
    · k_steps
      rename Fr _ _ _ _ => F4
      rename News _ _ _ _ => N4
      exact hret2 _ _ _ _ _ (.inl ⟨rfl, ⟨_, rfl⟩, rfl⟩) F4 N4
    · have e1 : (!(its' ++ [v]).toArray.isEmpty) = true := by simp
      rw [e1]
      k_steps
      dsimp only
      refine hid ?_; intro KK
      (obtain ⟨-, -, -, s1, -, -⟩ := l1) <;> (k_unfold; clear KK)
      refine kl_pop F3 N3 (kl_last_app _ _) (Upd.tail (Nat.ne_of_gt (Nat.lt_trans s1 l2)) (Upd.tail (Nat.ne_of_gt s1) (Upd.head (by simpa using Nat.ne_of_lt lb1)))) (Nat.le_trans (show (its' ++ [v]).length ≤ 100000 from hits) (Nat.le_of_ble_eq_true rfl)) ?_
      intro h5 F5 N5
      k_steps
      exact hret2 _ _ _ _ _ (.inr ⟨_, _, _, rfl, rfl, rfl⟩) F5 N5
  · rw [List.reverse_reverse]; exact hys
end
example : True := by w_top off; exact trivial
noncomputable abbrev nl (cs : List Str) : Int := if cs.headD (Str.ofString "") = Str.ofString "\n" then 1 else 0
noncomputable abbrev Lay (its : List Value) (cs : List Str) : Prop := StrsAre its.reverse cs ∧ its.length ≤ 100000
local macro_rules | `(tactic| k_ne) => `(tactic| (refine neN ?_; (try dsimp only); first | assumption | (refine Ne.symm ?_; assumption)))
noncomputable abbrev LX.led2 (w : World) (n : LX) (k : Int) (tk : Tok) (pv : List Value) (pe : Nat) : List (Addr × Obj) := [(n.pb, listOf pv.toArray pe), (n.ln, instObj 78 n.dl), (n.dl, lexDict w k (.ref n.xs) n.pb n.t1 tk n.t3 n.t4 n.t5 n.t6), (n.ps, listOf #[] 0), (n.xs, instObj 78 n.dx), (n.dx, n.strm w), (84, tabObj n.rg.toArray)]
theorem LX.all_ne {w : World} {n : LX} (hO : n.Ok w) : (n.dl ≠ n.pb ∧ n.dl ≠ n.ln ∧ n.dl ≠ n.fn ∧ n.dl ≠ n.co ∧ n.dl ≠ n.ps ∧ n.dl ≠ n.xs ∧ n.dl ≠ n.dx ∧ n.dl ≠ n.si ∧ n.dl ≠ n.ce ∧ n.dl ≠ 84) ∧ (n.pb ≠ n.ln ∧ n.pb ≠ n.fn ∧ n.pb ≠ n.co ∧ n.pb ≠ n.ps ∧ n.pb ≠ n.xs ∧ n.pb ≠ n.dx ∧ n.pb ≠ n.si ∧ n.pb ≠ n.ce ∧ n.pb ≠ 84) := by
  have nd := hO.nd
  simp only [List.nodup_cons, List.mem_cons, List.not_mem_nil, or_false, not_or, List.nodup_nil, and_true, not_false_eq_true] at nd
  refine hid ?_; intro KK
  (obtain ⟨⟨_, _, _, _, _, _, _, _, _, _⟩, ⟨_, _, _, _, _, _, _, _, _⟩, ⟨_, _, _, _, _, _, _, _⟩, ⟨_, _, _, _, _, _, _⟩, ⟨_, _, _, _, _, _⟩, ⟨_, _, _, _, _⟩, ⟨_, _, _, _⟩, ⟨_, _, _⟩, ⟨_, _⟩, _⟩ := nd) <;> (k_unfold; clear KK)
  repeat' apply And.intro
  all_goals first | assumption | exact Ne.symm (by assumption)
theorem LX.rest1 {w : World} {n : LX} {k : Int} {tk : Tok} {pv its : List Value} {pe se : Nat} (hO : n.Ok w) : ∀ p ∈ n.led2 w k tk pv pe, p ∈ n.led w k tk pv pe its se ∧ p.1 ∉ (n.led1 its se).map (·.1) := by
  have nd := hO.nd
  simp only [List.nodup_cons, List.mem_cons, List.not_mem_nil, or_false, not_or, List.nodup_nil, and_true, not_false_eq_true] at nd
  refine hid ?_; intro KK
  (obtain ⟨⟨_, _, _, _, _, _, _, _, _, _⟩, ⟨_, _, _, _, _, _, _, _, _⟩, ⟨_, _, _, _, _, _, _, _⟩, ⟨_, _, _, _, _, _, _⟩, ⟨_, _, _, _, _, _⟩, ⟨_, _, _, _, _⟩, ⟨_, _, _, _⟩, ⟨_, _, _⟩, ⟨_, _⟩, _⟩ := nd) <;> (k_unfold; clear KK)
  have h : ∀ a : Addr, (a ≠ n.fn ∧ a ≠ n.co ∧ a ≠ n.si ∧ a ≠ n.ce) → a ∉ (n.led1 its se).map (·.1) := fun a h => by simpa using h
  intro p hp
  simp only [List.mem_cons, List.not_mem_nil, or_false] at hp
  refine hid ?_; intro KK
  (rcases hp with rfl | rfl | rfl | rfl | rfl | rfl | rfl) <;> (k_unfold; clear KK)
  all_goals refine ⟨?_, h _ ?_⟩
  all_goals first | (repeat' apply And.intro) <;> first | assumption | exact Ne.symm (by assumption) | skip
  all_goals (repeat first | exact List.Mem.head _ | apply List.Mem.tail)
theorem LX.back {w : World} {n : LX} {k : Int} {tk : Tok} {pv its : List Value} {pe se : Nat} : ∀ p ∈ n.led w k tk pv pe its se, p ∈ n.led1 its se ++ n.led2 w k tk pv pe := by
  intro p hp
  simp only [List.mem_cons, List.not_mem_nil, or_false] at hp
  refine hid ?_; intro KK
  (rcases hp with rfl | rfl | rfl | rfl | rfl | rfl | rfl | rfl | rfl | rfl | rfl) <;> (k_unfold; clear KK)
  all_goals (repeat first | exact List.Mem.head _ | apply List.Mem.tail)
section
theorem readChar (w : World) (n : LX) (k : Int) (tk0 : Tok) (pv : List Value) (pe : Nat) (its : List Value) (se : Nat) (cs : List Str) (hO : n.Ok w) (hy : Lay its cs) :
   Con w (.ref 61) [.ref n.ln] 5 40 (n.led w k tk0 pv pe its se) (fun _ => True) (fun h r led' => ∃ its' tk' se' t, r = .str (cs.headD (Str.ofString "")) t ∧ led' = n.led w (k + nl cs) tk' pv pe its' se' ∧ Lay its' cs.tail) := by
  refine' con_of [("self", .ref n.ln)] ?o ?c ?b ?lo ?c2 ?c3 ?c4 ?c5 ?_
  case o => k_is
  case c => k_is
  case b => intro S; exact rfl
  case lo => exact rfl
  case c2 => exact rfl
  case c3 => exact rfl
  case c4 => exact rfl
  case c5 => decide
  intro A g L' h₁ tk hp0 gs dr os mean mg mb R hA hd hu F N X T hpre hk hlt hret
  dsimp only [LX.led, LX.fo, LX.strm] at N
  first | (refine fold_F ?_; intro qk) | k_fold | skip
  k_steps
  rename Fr _ _ _ _ => F1
  rename News _ _ _ _ => N1
  dsimp only
  refine callWith_F (FnAt.of N1 (.tail _ (.tail _ (.tail _ (.head _))))) ?_
  k_steps
  unfold Hold
  refine use (rest := n.led2 w k tk0 pv pe) (hO.piece its se _ hy.2) F1 X T N1 (by simpa [Around.deeper] using hA) ?_ (LX.rest1 hO) trivial (by simp only [Around.deeper]; omega) (by simp only [Around.deeper]; omega) ?_
  · intro p hp
    simp only [List.mem_cons, List.not_mem_nil, or_false] at hp
    refine hid ?_; intro KK
    (rcases hp with rfl | rfl | rfl | rfl) <;> (k_unfold; clear KK)
    all_goals (repeat first | exact List.Mem.head _ | apply List.Mem.tail)
  · rintro r led' h2 tk2 hpost F2 N2 -
    clear F1 N1
    refine hid ?_; intro KK
    (obtain ⟨⟨_, _, _, _, _, _, _, _, _, _⟩, -⟩ := LX.all_ne hO) <;> (k_unfold; clear KK)
    refine hid ?_; intro KK
    (rcases hpost with ⟨rfl, ⟨t, rfl⟩, rfl⟩ | ⟨its', v, se', rfl, rfl, rfl⟩) <;> (k_unfold; clear KK)
    · have hs : StrsAre [] cs := hy.1
      cases hs
      first | (refine fold_F ?_; intro qk) | k_fold | skip
      k_steps
      rename Fr _ _ _ _ => F3
      rename News _ _ _ _ => N3
      refine hret _ _ _ _ _ ⟨[], tk0, se, t, rfl, ?_, hy⟩ F3 (fun p hp => N3 p (LX.back p hp))
      rw [show nl [] = 0 from rfl, Int.add_zero]
    · have hs : StrsAre (r :: its'.reverse) cs := by simpa using hy.1
      cases hs
      rename_i c t cs hs
      have hlen : its'.length ≤ 100000 := by have := hy.2; rw [List.length_append] at this; omega
      have N3 : News g L' h2 (n.led w k tk0 pv pe its' se') := fun p hp => N2 p (LX.back p hp)
      clear N2
      dsimp only [LX.led, LX.fo, LX.strm] at N3
      k_steps
      · rename (_ == _) = true => he
        rename Fr _ _ _ _ => F4
        rename News _ _ _ _ => N4
        have e : k + 1 = k + nl (c :: cs) := by rw [show nl (c :: cs) = 1 from if_pos (eq_of_beq he)]
        rw [e] at N4
        exact hret _ _ _ _ _ ⟨its', _, se', t, rfl, rfl, hs, hlen⟩ F4 N4
      · rename (_ == _) = false => he
        rename Fr _ _ _ _ => F4
        rename News _ _ _ _ => N4
        have e : k = k + nl (c :: cs) := by rw [show nl (c :: cs) = 0 from if_neg (ne_of_beq_false he), Int.add_zero]
        rw [e] at N4
        exact hret _ _ _ _ _ ⟨its', _, se', t, rfl, rfl, hs, hlen⟩ F4 N4
end
theorem slot_ci_next : Slot "callable_iterator" "__next__" "callable_iterator.__next__" :=
  .of (owner := "callable_iterator") (n := "__next__") (by rw [typeLookup_type, builtinLookup_eq_fast]; kernel_rfl) (by decide +kernel) (by decide +kernel) (by decide +kernel)
    (by first | exact .inl (by decide +kernel) | exact .inr (by decide +kernel)) (by rw [isSubtype_type]; kernel_rfl)
theorem entry_ci_next : entryFor table "callable_iterator.__next__" = some Builtin.«callable_iterator.__next__» := entryFor_of_fast (by kernel_rfl)
theorem args_ci_next (a : Value) : argsOk "callable_iterator.__next__" ⟨[a], []⟩ := by unfold argsOk; kernel_rfl
theorem wpAny_callBorrowed {M : Model} {A : Around} {E : Value → Shared → Prop} {s : Shared} {f : Value} {pos : List Value} {Q : Value → Shared → Prop}
    (hc : codeAny M A (.call f ⟨pos, []⟩) (fun r s' => match r with | .ok (.ret v) => Q v s' | .ok _ => False | .error e => E e s') s) : wpAny M A (callBorrowed f pos) Q E s := fun Γ p hΓ => by
  unfold callBorrowed
  rw [Sem.wp_call]
  refine wpCode_mono (fun r s' h => ?_) (hc _ p rfl (hΓ.enter _ none p (by intro x; cases x)))
  refine hid ?_; intro KK
  (rcases r with e | f) <;> (k_unfold; clear KK)
  · exact h
  · cases f with
    | ret v => exact h
    | _ => exact h.elim
theorem codeAny_method {prog : Program} {w : World} {A : Around} {s : Shared} {m : Addr} {o : Obj} {vs : Array Value} {f self : Value} {args : Args} {R : Result → Shared → Prop} (ho : s.heap.get? m = some o) (hc : o.cls = .type "method") (hd : o.data = .fields vs)
    (h0 : vs[0]? = some f) (h1 : vs[1]? = some self) (hf : ∀ id, f ≠ .builtin id) (h : codeAny (model prog w) A (.call f { args with pos := self :: args.pos }) R s) : codeAny (model prog w) A (.call (.ref m) args) R s := by
  refine codeAny_of_tree ?_
  show wpAny _ A.in1 (callAny (.ref m) args) _ _ s
  simp only [callAny]
  refine wpAny_bind (wpAny_load ho ?_)
  simp only [hd, hc, h0, h1]
  have : (Value.type "method" == Value.type "method" || Value.type "method" == Value.type "builtin_function_or_method" || Value.type "method" == Value.type "method-wrapper") = true := rfl
  rw [if_pos this]
  cases f with
  | builtin id => exact absurd rfl (hf id)
  | _ => exact wpAny_pure ⟨rfl, h⟩
noncomputable abbrev ciObj (m : Addr) (t : Tok) : Obj := { cls := .type "callable_iterator", data := .fields #[.ref m, .str (Str.ofString "") t, .bool false] }
noncomputable abbrev methObj (f : Addr) (self : Value) : Obj := { cls := .type "method", data := .fields #[.ref f, self] }
theorem borrows_meth {M : Model} {A : Around} {E : Value → Shared → Prop} {s : Shared} {m f : Addr} {self : Value} {fo : Obj} {fd : FuncData} {Q : Bool → Shared → Prop} (hm : s.heap.get? m = some (methObj f self)) (hf : s.heap.get? f = some fo) (hfd : fo.data = .func fd) (h : Q true s) : wpAny M A (borrowsExactly (.ref m)) Q E s := by
  unfold borrowsExactly
  refine wpAny_bind (wpAny_load hm ?_)
  dsimp only
  rw [if_pos (by rfl)]
  refine wpAny_bind (wpAny_load hf ?_)
  rw [hfd]
  exact wpAny_pure h
theorem next_callable {w : World} {A : Around} {s : Shared} {it m f : Addr} {self : Value} {t : Tok} {fo : Obj} {fd : FuncData} {Q : Option Value → Shared → Prop} (hh : A.handled = none)
    (hit : s.heap.get? it = some (ciObj m t)) (hm : s.heap.get? m = some (methObj f self)) (hf : s.heap.get? f = some fo) (hfd : fo.data = .func fd)
    (h : codeAny (model PySem.Challenge.rw_wn0058_01.row.prog w) A.in1 (.call (.ref f) ⟨[self], []⟩) (fun r s' => ∃ c u, r = .ok (.ret (.str c u)) ∧ s'.heap.get? it = some (ciObj m t) ∧ s'.heap.get? m = some (methObj f self) ∧ s'.heap.get? f = some fo ∧
      (c ≠ Str.ofString "" → Q (some (.str c u)) s') ∧ (c = Str.ofString "" → ∀ h', Heap.ExtBut it s'.heap h' → Q none { s' with heap := h' })) s) :
    wpAny (model PySem.Challenge.rw_wn0058_01.row.prog w) A (pyNext (.ref it)) Q (fun _ _ => False) s := by
  have hT : ∀ s' : Shared, s'.heap.get? it = some (ciObj m t) → s'.TypeIs (.ref it) "callable_iterator" := fun s' e => ⟨_, e, rfl⟩
  unfold pyNext
  refine wpAny_bind (wpAny_attempt (wpAny_callSpecial?_slot (name := Str.ofString "__next__") (hT s hit) slot_ci_next
    (wpAny_call_entry slot_ci_next (hT s hit) entry_ci_next ?_ (args_ci_next _))))
  show wpAny _ _ (field (.ref it) 2 >>= _) _ _ s
  refine wpAny_bind (wpAny_field hit rfl (x := .bool false) rfl ?_)
  rw [if_neg (show ¬ ((Value.bool false == Value.bool true) = true) from by decide)]
  show wpAny _ _ (field (.ref it) 0 >>= _) _ _ s
  refine wpAny_bind (wpAny_field hit rfl (x := .ref m) rfl ?_)
  refine wpAny_bind (wpAny_attempt ?_)
  unfold callOutOfASlot
  refine wpAny_bind (borrows_meth hm hf hfd ?_)
  rw [if_pos rfl]
  refine wpAny_callBorrowed (codeAny_method hm rfl rfl rfl rfl (fun _ => nofun) ?_)
  refine codeAny_mono h ?_
  rintro r s' zz0
  refine hid ?_; intro KK
  (rcases zz0 with ⟨c, u, rfl, hit', hm', hf', hq1, hq2⟩) <;> (k_unfold; clear KK)
  dsimp only
  show wpAny _ _ (field (.ref it) 2 >>= _) _ _ s'
  refine wpAny_bind (wpAny_field hit' rfl (x := .bool false) rfl ?_)
  rw [if_neg (show ¬ ((Value.bool false == Value.bool true) = true) from by decide)]
  show wpAny _ _ (field (.ref it) 1 >>= _) _ _ s'
  refine wpAny_bind (wpAny_field hit' rfl (x := .str (Str.ofString "") t) rfl ?_)
  refine wpAny_bind (wpAny_holding (wpAny_eqBool_str ?_))
  by_cases hc : Str.ofString "" = c
  · refine hid ?_; intro KK
    (subst hc) <;> (k_unfold; clear KK)
    rw [decide_eq_true rfl]
    rw [if_neg (show ¬ ((!true) = true) from by decide)]
    refine wpAny_bind (wpAny_rule ?_)
    show wpAny _ _ ((do
      slotLetsGo "callable_iterator.__next__" (← field (.ref it) 0) fun | .builtin "callable_iterator.__next__" x => x.pos.head? == some (.ref it) | _ => false
      setField (.ref it) 0 .none; setField (.ref it) 1 .none; setField (.ref it) 2 (.bool true)) >>= fun _ => Builtin.SmallTypes.stopIteration) _ _ s'
    refine wpAny_bind (wpAny_bind (wpAny_field hit' rfl (x := .ref m) rfl ?_))
    refine wpAny_bind ?_
    unfold slotLetsGo
    refine wpAny_bind (borrows_meth hm' hf' hfd ?_)
    rw [if_pos rfl]
    refine wpAny_pure ?_
    refine wpAny_bind (wpAny_setField hit' rfl (by simp) ?_)
    have g1 := Heap.get?_update_self (Obj.mapFields (·.setIfInBounds 0 Value.none)) hit' rfl
    refine wpAny_bind (wpAny_setField g1 rfl (by simp) ?_)
    have g2 := Heap.get?_update_self (Obj.mapFields (·.setIfInBounds 1 Value.none)) g1 rfl
    refine wpAny_setField g2 rfl (by simp) ?_
    have e3 : Heap.ExtBut it s'.heap (((s'.heap.update it (Obj.mapFields (·.setIfInBounds 0 Value.none))).update it (Obj.mapFields (·.setIfInBounds 1 Value.none))).update it (Obj.mapFields (·.setIfInBounds 2 (.bool true)))) := by
      intro b o hb e
      exact ((Heap.SameBut.update ..).extBut b o hb ((Heap.SameBut.update ..).extBut b o hb ((Heap.SameBut.update ..).extBut b o hb e)))
    show wpAny _ _ (newExc (.type "StopIteration") [] >>= _) _ _ _
    refine wpAny_bind ?_
    simp only [newExc, newTuple]
    refine wpAny_bind (wpAny_newObj_type ?_ (by size_fits))
    refine wpAny_bind (m := firstArgMember _ _) (wpAny_of_eq (a := Value.none) (by first | rfl | (simp only [firstArgMember]; rfl)) ?_)
    refine wpAny_newObj_type ?_ (by size_fits)
    simp only [raiseNew]
    refine wpAny_bind (wpAny_handled ?_)
    rw [show A.in1.handled = none from hh]
    refine wpAny_bind (wpAny_pure (wpAny_throw ?_))
    refine wpAny_bind (wpAny_isInstance (T := "StopIteration") (b := true) ⟨_, Heap.get?_push_size _ rfl, rfl⟩ isSubtype_stop ?_)
    exact wpAny_pure (hq2 rfl _ ((e3.push _).push _))
  · rw [decide_eq_false hc]
    rw [if_pos (show ((!false) = true) from rfl)]
    exact wpAny_pure ⟨_, rfl, wpAny_pure (hq1 (Ne.symm hc))⟩
theorem slot_ci_iter : Slot "callable_iterator" "__iter__" "callable_iterator.__iter__" :=
  .of (owner := "callable_iterator") (n := "__iter__") (by rw [typeLookup_type, builtinLookup_eq_fast]; kernel_rfl) (by decide +kernel) (by decide +kernel) (by decide +kernel)
    (by first | exact .inl (by decide +kernel) | exact .inr (by decide +kernel)) (by rw [isSubtype_type]; kernel_rfl)
theorem entry_ci_iter : entryFor table "callable_iterator.__iter__" = some Builtin.«dict_keyiterator.__iter__» :=
  entryFor_alias (id' := "dict_keyiterator.__iter__") (by kernel_rfl) rfl (by decide +kernel) (by kernel_rfl)
theorem args_ci_iter (a : Value) : argsOk "callable_iterator.__iter__" ⟨[a], []⟩ := by unfold argsOk; kernel_rfl
theorem pyIter_ci {w : World} {A : Around} {s : Shared} {E : Value → Shared → Prop} {it m : Addr} {t : Tok} {Q : Value → Shared → Prop} (hit : s.heap.get? it = some (ciObj m t)) (h : Q (.ref it) s) : wpAny (model PySem.Challenge.rw_wn0058_01.row.prog w) A (pyIter (.ref it)) Q E s := by
  have hT : s.TypeIs (.ref it) "callable_iterator" := ⟨_, hit, rfl⟩
  refine wpAny_pyIter_slot hT slot_ci_iter (wpAny_call_entry slot_ci_iter hT entry_ci_iter ?_ (args_ci_iter _))
  show wpAny _ _ (ret (.ref it)) _ _ s
  exact wpAny_pure ⟨_, rfl, "callable_iterator", _, hT, slot_ci_next.lookup, h⟩

theorem call_iter2 {w : World} {A : Around} {s : Shared} {E : Value → Shared → Prop} {f m : Addr} {self : Value} {t : Tok} {Q : Value → Shared → Prop} (hm : s.heap.get? m = some (methObj f self)) (h : Q (.ref s.heap.objs.size) { s with heap := s.heap.push (ciObj m t) }) :
    wpAny (model PySem.Challenge.rw_wn0058_01.row.prog w) A (call (.builtin "iter") [.ref m, .str (Str.ofString "") t]) Q E s := by
  have hT : s.TypeIs (.ref m) "method" := ⟨_, hm, rfl⟩
  have hl : typeLookup (.type "method") "__call__" = pure (some (.builtin "method.__call__")) := by rw [typeLookup_type, builtinLookup_eq_fast]; kernel_rfl
  refine call_function_entry (by decide +kernel) (by decide +kernel) kdk_entry_iter (show argsOk "iter" ⟨[.ref m, .str (Str.ofString "") t], []⟩ by unfold argsOk; kernel_rfl) ?_
  show wpAny _ _ (someArgs "iter" 1 2 _ >>= _) _ _ s
  refine wpAny_bind (m := someArgs "iter" 1 2 _) (wpAny_of_eq (a := [Value.ref m, .str (Str.ofString "") t]) (by first | rfl | kernel_rfl!) ?_)
  dsimp only
  refine wpAny_bind (wpAny_specialOf hT hl ?_)
  rw [if_neg (by simp)]
  refine wpAny_bind (wpAny_rule ?_)
  refine wpAny_bind (wpAny_newObj_type ?_ (by size_fits))
  exact wpAny_pure ⟨_, rfl, h⟩

noncomputable abbrev LX.addrs (n : LX) : List Addr := [n.pb, n.ln, n.dl, n.fn, n.co, n.ps, n.xs, n.dx, n.si, n.ce, 84]
/-- the objects while a token is read -/
noncomputable abbrev LX.run (w : World) (n : LX) (it m : Addr) (t : Tok) (k : Int) (tk : Tok) (pv : List Value) (pe : Nat) (its : List Value) (se : Nat) : List (Addr × Obj) := (it, ciObj m t) :: (m, methObj 61 (.ref n.ln)) :: n.led w k tk pv pe its se
section
variable {w : World} {n : LX} {A : Around} {s : Shared} {g : Heap} {L : Addr} {m : Str → Option Value} {mean : ExcName → Option Value} {mg mb : Str → Option Value} {env : Env} {body orelse : List Stmt} {Q : Flow → Shared → Prop} {it M : Addr} {t : Tok} {x : Str} {px : Pos} {pv : List Value} {pe : Nat}
theorem for_ci (hO : n.Ok w) (hM : M ≠ it) (hne : ∀ a ∈ n.addrs, a ≠ it ∧ a ≠ M) (hA : A.handled = none) (hdp : A.depth + 6 < recursionLimit) (hu : A.units + 8 * 50 < cLine) (X : (hd.heap_1 w.params).In g) (T : Top topProg loose mean mg mb g)
    (Inv : List Str → Int → (Str → Option Value) → Prop) (cs : List Str) (k : Int) (tk : Tok) (its : List Value) (se : Nat) (hc : ∀ c ∈ cs, c ≠ Str.ofString "") (h0 : Inv cs k m) (hy : Lay its cs)
    (F : Fr g L s.heap m) (N : News g L s.heap (n.run w it M t k tk pv pe its se))
    (step : ∀ c cs k tk its se m₁ h₁ tk₁ u, (∀ c' ∈ c :: cs, c' ≠ Str.ofString "") → Inv (c :: cs) k m₁ → Lay its cs → Fr g L h₁ m₁ → News g L h₁ (n.run w it M t (k + nl (c :: cs)) tk pv pe its se) →
      ∀ (K : Flow → Shared → Prop), (∀ cs' k' tk' its' se' m₂ h₂ tk₂, cs'.length < (c :: cs).length → (∀ c' ∈ cs', c' ≠ Str.ofString "") → Inv cs' k' m₂ → Lay its' cs' → Fr g L h₂ m₂ → News g L h₂ (n.run w it M t k' tk' pv pe its' se') → K .next { s with heap := h₂, toks := tk₂ }) →
        (∀ v s₃, Q (.ret v) s₃ → K (.ret v) s₃) →
      wpAny (model PySem.Challenge.rw_wn0058_01.row.prog w) A (assign (.Name x px) env (.str c u)) (fun _ s₂ => wpAny (model PySem.Challenge.rw_wn0058_01.row.prog w) A (execs body env) K (fun _ _ => False) s₂) (fun _ _ => False) { s with heap := h₁, toks := tk₁ })
    (done : ∀ k tk se m₁ h₁ tk₁, Inv [] k m₁ → Fr g L h₁ m₁ → News g L h₁ (n.led w k tk pv pe [] se) → wpAny (model PySem.Challenge.rw_wn0058_01.row.prog w) A (execs orelse env) Q (fun _ _ => False) { s with heap := h₁, toks := tk₁ }) :
    codeAny (model PySem.Challenge.rw_wn0058_01.row.prog w) A (.forLoop (.Name x px) (.ref it) body orelse env) (fun r s' => match r with | .ok f => Q f s' | .error e => cameBackBy (model PySem.Challenge.rw_wn0058_01.row.prog w) A env E e s') s := by
  refine codeAny_forLoop_any (fun j s' => ∃ cs k tk its se m' h' tk', s' = { s with heap := h', toks := tk' } ∧ j = cs.length ∧ (∀ c' ∈ cs, c' ≠ Str.ofString "") ∧ Inv cs k m' ∧ Lay its cs ∧ Fr g L h' m' ∧ News g L h' (n.run w it M t k tk pv pe its se)) ?_ cs.length ⟨cs, k, tk, its, se, m, s.heap, s.toks, rfl, rfl, hc, h0, hy, F, N⟩
  rintro j s' zz0
  refine hid ?_; intro KK
  (rcases zz0 with ⟨cs, k, tk, its, se, m', h', tk', rfl, rfl, hc, hI, hy, F', N'⟩) <;> (k_unfold; clear KK)
  have z1 := N' _ (.head _)
  have z2 := N' _ (.tail _ (.head _))
  refine hid ?_; intro KK
  (obtain ⟨o6, od6, os6, fd6, h6⟩ : ∃ o d sl fd, (hd.heap_1 w.params).lookup 61 = some ⟨o, d, .func fd, sl⟩ := ⟨_, _, _, _, by k_is⟩) <;> (k_unfold; clear KK)
  have g6 : ∀ h'' m'', Fr g L h'' m'' → h''.get? 61 = some ⟨o6, od6, .func fd6, os6⟩ := fun h'' m'' F'' => F''.keep _ _ (X _ _ h6)
  refine wpAny_mono (next_callable (Q := fun r s₁ => match r with
      | none => wpAny (model PySem.Challenge.rw_wn0058_01.row.prog w) A (execs orelse env) Q (fun _ _ => False) s₁
      | some v => wpAny (model PySem.Challenge.rw_wn0058_01.row.prog w) A (assign (.Name x px) env v) (fun _ s₂ => wpAny (model PySem.Challenge.rw_wn0058_01.row.prog w) A (execs body env) (fun f s₃ => match f with
        | .next | .cont => ∃ cs' k' tk' its' se' m₂ h₂ tk₂, cs'.length < cs.length ∧ (∀ c' ∈ cs', c' ≠ Str.ofString "") ∧ s₃ = { s with heap := h₂, toks := tk₂ } ∧ Inv cs' k' m₂ ∧ Lay its' cs' ∧ Fr g L h₂ m₂ ∧ News g L h₂ (n.run w it M t k' tk' pv pe its' se')
        | .brk => Q .next s₃
        | .ret v => Q (.ret v) s₃) (fun _ _ => False) s₂) (fun _ _ => False) s₁) hA z1.1 z2.1 (g6 _ _ F') rfl ?_) ?_ fun _ _ x => x.elim
  · refine useC (rest := [(it, ciObj M t), (M, methObj 61 (.ref n.ln))]) (readChar w n k tk pv pe its se cs hO hy) F' X T N' hA (fun p hp => .tail _ (.tail _ hp)) ?_ trivial (by simp only [Around.in1]; omega) (by simp only [Around.in1]; omega) ?_
    · intro p hp
      refine hid ?_; intro KK
      (rcases List.mem_cons.mp hp with rfl | hp) <;> (k_unfold; clear KK)
      · exact ⟨.head _, fun q => (hne _ q).1 rfl⟩
      · rw [List.mem_singleton.mp hp]
        exact ⟨.tail _ (.head _), fun q => (hne _ q).2 rfl⟩
    · rintro r led' h2 tk2 zz0
      refine hid ?_; intro KK
      (rcases zz0 with ⟨its', tk', se', u, rfl, rfl, hy'⟩) <;> (k_unfold; clear KK)
      rintro F2 N2 -
      have N3 : News g L h2 (n.run w it M t (k + nl cs) tk' pv pe its' se') := fun p hp => N2 p (by
        refine hid ?_; intro KK
        (rcases List.mem_cons.mp hp with rfl | hp) <;> (k_unfold; clear KK)
        · exact List.mem_append_right _ (.head _)
        · refine hid ?_; intro KK
          (rcases List.mem_cons.mp hp with rfl | hp) <;> (k_unfold; clear KK)
          · exact List.mem_append_right _ (.tail _ (.head _))
          · exact List.mem_append_left _ hp)
      refine ⟨_, u, rfl, (N3 _ (.head _)).1, (N3 _ (.tail _ (.head _))).1, g6 _ _ F2, ?_, ?_⟩
      · intro hne2
        cases cs with
        | nil => exact absurd rfl hne2
        | cons c cs =>
          refine step c cs k tk' its' se' m' h2 tk2 u hc hI hy' F2 N3 _ ?_ ?_
          · exact fun cs' k' tk' its' se' m₂ h₂ tk₂ a1 a2 a3 a4 a5 a6 => ⟨cs', k', tk', its', se', m₂, h₂, tk₂, a1, a2, rfl, a3, a4, a5, a6⟩
          · exact fun v s₃ h => h
      · intro he h3 hx
        cases cs with
        | cons c cs => exact absurd he (hc c (.head _))
        | nil =>
          have hs : its' = [] := by
            have h1 : StrsAre its'.reverse [] := hy'.1
            have h2 := h1.nil_inv
            simpa using h2
          refine hid ?_; intro KK
          (subst hs) <;> (k_unfold; clear KK)
          have N4 : News g L h3 (n.led w (k + nl []) tk' pv pe [] se') := news_ext (fun p hp => N3 p (.tail _ (.tail _ hp))) hx (fun p hp => (hne p.1 (List.mem_map_of_mem (f := (·.1)) hp)).1)
          refine done k tk' se' m' h3 tk2 hI (fr_ext F2 hx z1.2.1 z1.2.2) ?_
          rw [show k + nl [] = k from Int.add_zero k] at N4
          exact N4
  · intro r s₁ hr
    cases r with
    | none => exact wpAny_mono hr (fun _ _ x => x) fun _ _ x => x.elim
    | some v =>
      refine wpAny_pure ?_
      refine wpAny_mono hr (fun _ s₂ h₂ => wpAny_mono h₂ (fun f s₃ h₃ => ?_) fun _ _ x => x.elim) fun _ _ x => x.elim
      cases f with
      | next =>
        refine hid ?_; intro KK
        (obtain ⟨cs', k', tk', its', se', m₂, h₂, tk₂, hlt, hc', rfl, r⟩ := h₃) <;> (k_unfold; clear KK)
        exact ⟨cs'.length, hlt, cs', k', tk', its', se', m₂, h₂, tk₂, rfl, rfl, hc', r⟩
      | cont =>
        refine hid ?_; intro KK
        (obtain ⟨cs', k', tk', its', se', m₂, h₂, tk₂, hlt, hc', rfl, r⟩ := h₃) <;> (k_unfold; clear KK)
        exact ⟨cs'.length, hlt, cs', k', tk', its', se', m₂, h₂, tk₂, rfl, rfl, hc', r⟩
      | brk => exact h₃
      | ret v => exact h₃
end
example : True := by w_top off; exact trivial
noncomputable def alpha : List Str := signs (Str.ofString "ABCDEFGHIJKLMNOPQRSTUVWXYZ0123456789x_,")
/-- a word as it is written -/
noncomputable def piece (m : Nat) (ws : List Str) : List Str := if m = 0 then ws ++ [Str.ofString " "] else if m = 1 then Str.ofString "\"" :: (ws ++ [Str.ofString "\""]) else Str.ofString "\\" :: (ws ++ [Str.ofString "\n"])
noncomputable abbrev joinS (ws : List Str) : Str := ws.foldl (fun a c => a ++ c) (Str.ofString "")
noncomputable def Tk (cs : List Str) (word : Str) (d : Int) (rest : List Str) : Prop := (cs = [] ∧ word = Str.ofString "" ∧ d = 0 ∧ rest = []) ∨
  ∃ m w ws, m < 3 ∧ (∀ c ∈ w :: ws, c ∈ alpha) ∧ cs = piece m (w :: ws) ++ rest ∧ word = joinS (w :: ws) ∧ d = if m = 2 then 1 else 0
theorem eq_strB {prog : Program} {w : World} {A : Around} {s : Shared} {E : Value → Shared → Prop} {a b : Str} {t u : Tok} {Q : Value → Shared → Prop} (c : Bool) (hc : (a == b) = c) (h : Q (.bool c) s) : wpAny (model prog w) A (compareOp .Eq (.str a t) (.str b u)) Q E s := eq_str (hc ▸ h)
theorem in_strB {prog : Program} {w : World} {A : Around} {s : Shared} {E : Value → Shared → Prop} {x y : Str} {t u : Tok} {Q : Value → Shared → Prop} (c : Bool) (hc : (!(Builtin.Str.occurrences x y 0 x.length 1).isEmpty) = c) (h : Q (.bool c) s) : wpAny (model prog w) A (compareOp .In (.str y u) (.str x t)) Q E s := PyProof.Rows.in_str (hc ▸ h)
theorem alpha_ok : ∀ c ∈ alpha, (!(Builtin.Str.occurrences (Str.ofString "\n\t\r ") c 0 (Str.ofString "\n\t\r ").length 1).isEmpty) = false ∧ (c == Str.ofString "\"") = false ∧ (c == Str.ofString "\\") = false ∧ c ≠ Str.ofString "" ∧ c ≠ Str.ofString "\n" ∧ c.length = 1 := by decide +kernel
theorem joinS_snoc (a : List Str) (c : Str) : joinS (a ++ [c]) = joinS a ++ c := by simp [joinS, List.foldl_append]
theorem str_len_app (a b : Str) : (a ++ b).length = a.length + b.length := by show (a.cps ++ b.cps).size = _; simp [Str.length]
theorem joinS_len (f : Str) : ∀ ws : List Str, (∀ c ∈ ws, c ∈ alpha) → (ws.foldl (fun a c => a ++ c) f).length = f.length + ws.length
  | [], _ => rfl
  | c :: r, h => by
    rw [List.foldl_cons, joinS_len (f ++ c) r fun x hx => h x (.tail _ hx), str_len_app, (alpha_ok c (h c (.head _))).2.2.2.2.2, List.length_cons]; omega
theorem joinS_le {a b ws : List Str} (h : ∀ c ∈ ws, c ∈ alpha) (hab : ws = a ++ b) (hl : ws.length ≤ 100000) : (joinS a).length ≤ 100000 := by
  rw [joinS_len _ a fun c hc => h c (by rw [hab]; exact List.mem_append_left _ hc)]
  rw [hab, List.length_append] at hl
  show 0 + a.length ≤ _
  omega
theorem run_is {w : World} {n : LX} {g h : Heap} {L it M : Addr} {t : Tok} {k : Int} {tk : Tok} {pv : List Value} {pe : Nat} {its : List Value} {se : Nat} (N : News g L h (n.run w it M t k tk pv pe its se)) : News g L h (n.run w it M t k tk pv pe its se) := N
theorem run_rest {w : World} {n : LX} {it M : Addr} {t : Tok} {k : Int} {tk : Tok} {pv : List Value} {pe : Nat} {its : List Value} {se : Nat} (hne : ∀ a ∈ n.addrs, a ≠ it ∧ a ≠ M) : ∀ p ∈ [(it, ciObj M t), (M, methObj 61 (.ref n.ln))], p ∈ n.run w it M t k tk pv pe its se ∧ p.1 ∉ (n.led w k tk pv pe its se).map (·.1) := by
  intro p hp
  refine hid ?_; intro KK
  (rcases List.mem_cons.mp hp with rfl | hp) <;> (k_unfold; clear KK)
  · exact ⟨.head _, fun q => (hne _ q).1 rfl⟩
  · rw [List.mem_singleton.mp hp]
    exact ⟨.tail _ (.head _), fun q => (hne _ q).2 rfl⟩
theorem run_back {w : World} {n : LX} {g h : Heap} {L it M : Addr} {t : Tok} {k : Int} {tk : Tok} {pv : List Value} {pe : Nat} {its : List Value} {se : Nat} (N : News g L h (n.led w k tk pv pe its se ++ [(it, ciObj M t), (M, methObj 61 (.ref n.ln))])) : News g L h (n.run w it M t k tk pv pe its se) := fun p hp => N p (by
  refine hid ?_; intro KK
  (rcases List.mem_cons.mp hp with rfl | hp) <;> (k_unfold; clear KK)
  · exact List.mem_append_right _ (.head _)
  · refine hid ?_; intro KK
    (rcases List.mem_cons.mp hp with rfl | hp) <;> (k_unfold; clear KK)
    · exact List.mem_append_right _ (.tail _ (.head _))
    · exact List.mem_append_left _ hp)
section
local macro_rules | `(tactic| walk_at "compareOp Eq str str") => `(tactic| first | refine eq_strB false (by first | assumption | decide +kernel) ?_ | refine eq_strB true (by decide +kernel) ?_)
local macro_rules | `(tactic| walk_at "compareOp In str str") => `(tactic| first | refine in_strB false (by first | assumption | decide +kernel) ?_ | refine in_strB true (by decide +kernel) ?_)
local macro_rules | `(tactic| walk_at $s:str) => if ["exec For Name Name cons nil", "inplaceOp Add str str", "pyIter ref", "call builtin:iter"].contains s.getString then `(tactic| (refine hold_of ?_)) else Lean.Macro.throwUnsupported
theorem getTok (w : World) (n : LX) (k : Int) (tk0 : Tok) (pe : Nat) (its : List Value) (se : Nat) (cs : List Str) (word : Str) (d : Int) (rest : List Str) (hO : n.Ok w) (hy : Lay its cs) (hc : ∀ c ∈ cs, c ≠ Str.ofString "") (hT : Tk cs word d rest) :
   Con w (.ref 68) [.ref n.ln] 10 70 (n.led w k tk0 [] pe its se) (fun _ => True) (fun h r led' => ∃ t tk' its' se', r = .str word t ∧ led' = n.led w (k + d) tk' [] pe its' se' ∧ Lay its' rest) := by
  refine' con_of [("self", .ref n.ln)] ?o ?c ?b ?lo ?c2 ?c3 ?c4 ?c5 ?_
  case o => k_is
  case c => k_is
  case b => intro S; exact rfl
  case lo => exact rfl
  case c2 => exact rfl
  case c3 => exact rfl
  case c4 => exact rfl
  case c5 => decide
  intro A g L' h₁ tk hp0 gs dr os mean mg mb R hA hd hu F N X T hpre hk hlt hret
  dsimp only [LX.led, LX.fo, LX.strm] at N
  first | (refine fold_F ?_; intro qk) | k_fold | skip
  k_steps
  unfold Hold
  rename_i q h2 F2 N2 lq
  refine call_iter2 (N2 _ (.head _)).1 ?_
  have F3 := F2.push (ciObj q (tk + 1 + 1 + 1))
  have N3 := News.push F2 N2 (ciObj q (tk + 1 + 1 + 1))
  have hM : q ≠ h2.objs.size := Nat.ne_of_lt (Heap.lt_size (N2 _ (.head _)).1)
  have hne : ∀ a ∈ n.addrs, a ≠ h2.objs.size ∧ a ≠ q := by
    intro a ha
    refine hid ?_; intro KK
    (obtain ⟨p, hp, e⟩ := List.mem_map.mp (show a ∈ (n.led w k tk0 [] pe its se).map (·.1) from ha)) <;> (k_unfold; clear KK)
    refine hid ?_; intro KK
    (subst e) <;> (k_unfold; clear KK)
    refine ⟨Nat.ne_of_lt (Heap.lt_size (N2 _ (.tail _ hp)).1), Nat.ne_of_lt ?_⟩
    refine hid ?_; intro KK
    (obtain ⟨a1, a2, a3, a4, a5, a6, a7, a8, a9, a10, a11⟩ := lq) <;> (k_unfold; clear KK)
    simp only [List.mem_cons, List.not_mem_nil, or_false] at hp
    rcases hp with rfl | rfl | rfl | rfl | rfl | rfl | rfl | rfl | rfl | rfl | rfl <;> assumption
  clear F2 N2
  k_steps
  unfold Hold
  refine wpAny_For ?_
  k_steps
  unfold Hold
  rename Fr _ _ _ _ => F4
  rename News _ _ _ _ => N4
  refine pyIter_ci (N4 _ (.head _)).1 ?_
  refine for_ci (M := q) (A := A.deeper _) hO hM hne (by simpa [Around.deeper] using hA) (by simp only [Around.deeper]; omega) (by simp only [Around.deeper]; omega) X T
    (fun cs' k' m' => cs' = cs ∧ k' = k ∧ m' "self" = some (.ref n.ln) ∧ m' "fiter" = some (.ref h2.objs.size) ∧ ∃ t, m' "token" = some (.str (Str.ofString "") t)) cs k tk0 its se hc ?_ hy F4 N4 ?_ ?_
  · exact ⟨rfl, rfl, rfl, rfl, _, rfl⟩
  · rintro c cs' k' tk1 its1 se1 m₁ h₃ tk₃ u hc' zz0
    refine hid ?_; intro KK
    (rcases zz0 with ⟨rfl, rfl, ms, mf, tt, mt⟩) <;> (k_unfold; clear KK)
    rintro hy1 F5 N5 K hn hr
    have F6 := Fr.know F5 [("self", .ref n.ln), ("fiter", .ref h2.objs.size), ("token", .str (Str.ofString "") tt)] (by first | exact kn_cons ms (kn_cons mf (kn_cons mt (kn_nil))) | simp [ms, mf, mt])
    clear F5 F4 N4
    refine hid ?_; intro KK
    (rcases hT with ⟨h, _⟩ | ⟨m, w0, ws, hm, hal, he, rfl, rfl⟩) <;> (k_unfold; clear KK)
    · cases h
    have hlen : (w0 :: ws).length ≤ 100000 := by
      have h1 := hy.1.len_eq
      have h2 := hy.2
      rw [List.length_reverse, he, List.length_append] at h1
      have h3 : (w0 :: ws).length ≤ (piece m (w0 :: ws)).length := by
        unfold piece
        split
        · simp
        · split <;> simp
      omega
    have hm3 : m = 0 ∨ m = 1 ∨ m = 2 := by omega
    refine hid ?_; intro KK
    (rcases hm3 with rfl | rfl | rfl) <;> (k_unfold; clear KK)
    · refine hid ?_; intro KK
      (obtain ⟨rfl, rfl⟩ : w0 = c ∧ cs' = ws ++ Str.ofString " " :: rest := by simpa [piece, eq_comm] using he) <;> (k_unfold; clear KK)
      refine hid ?_; intro KK
      (obtain ⟨a1, a2, a3, a4, a5, a6⟩ := alpha_ok w0 (hal w0 (.head _))) <;> (k_unfold; clear KK)
      have hy2 := hy1
      rw [show nl (w0 :: (ws ++ Str.ofString " " :: rest)) = 0 from if_neg a5, Int.add_zero] at N5
      dsimp only [LX.run, LX.led, LX.fo, LX.strm] at N5
      have hj : Str.ofString "" ++ w0 = joinS [w0] := rfl
      first | (refine fold_F ?_; intro qk) | k_fold | skip
      k_steps
      unfold Hold
      refine PyProof.Rows.iadd_str (fun t3 tk3 => ?_) (Nat.le_trans (Nat.add_le_add (Nat.zero_le 0 : (Str.ofString "").length ≤ 0) (Nat.le_of_eq a6)) (Nat.le_of_ble_eq_true rfl))
      k_steps
      unfold Hold
      refine wpAny_For ?_
      k_steps
      unfold Hold
      rename Fr _ _ _ _ => F8
      rename News _ _ _ _ => N8
      refine pyIter_ci (N8 _ (.head _)).1 ?_
      refine for_ci (M := q) (A := A.deeper _) hO hM hne (by simpa [Around.deeper] using hA) (by simp only [Around.deeper]; omega) (by simp only [Around.deeper]; omega) X T
        (fun cs' k2 m' => k2 = k' ∧ m' "self" = some (.ref n.ln) ∧ m' "fiter" = some (.ref h2.objs.size) ∧ ∃ a b t, w0 :: ws = a ++ b ∧ cs' = b ++ Str.ofString " " :: rest ∧ m' "token" = some (.str (joinS a) t)) _ _ _ _ _ ?_ ?_ hy2 F8 N8 ?_ ?_
      · exact fun c hx => hc _ (.tail _ hx)
      · exact ⟨rfl, rfl, rfl, [w0], ws, _, rfl, rfl, by first | rfl | exact congrArg (fun x => some (Value.str x _)) hj⟩
      · rintro c cs' k2 tk2 its2 se2 m₂ h₄ tk₄ u2 hc2 zz0
        refine hid ?_; intro KK
        (rcases zz0 with ⟨rfl, ms2, mf2, a, b, t2, hab, hcs, mt2⟩) <;> (k_unfold; clear KK)
        rintro hy3 F9 N9 K2 hn2 hr2
        have F10 := Fr.know F9 [("self", .ref n.ln), ("fiter", .ref h2.objs.size), ("token", .str (joinS a) t2)] (by first | exact kn_cons ms2 (kn_cons mf2 (kn_cons mt2 (kn_nil))) | simp [ms2, mf2, mt2])
        clear F9 F8 N8
        dsimp only [LX.run, LX.led, LX.fo, LX.strm] at N9
        cases b with
        | nil =>
          simp only [List.nil_append, List.cons.injEq] at hcs
          refine hid ?_; intro KK
          (obtain ⟨rfl, rfl⟩ := hcs) <;> (k_unfold; clear KK)
          rw [List.append_nil] at hab
          refine hid ?_; intro KK
          (subst hab) <;> (k_unfold; clear KK)
          rw [show nl (Str.ofString " " :: cs') = (if (0 : Nat) = 2 then 1 else 0 : Int) from rfl] at N9
          first | (refine fold_F ?_; intro qk) | k_fold | skip
          k_steps
          rename Fr _ _ _ _ => F11
          rename News _ _ _ _ => N11
          exact hr2 _ _ (hr _ _ (hret _ _ _ _ _ ⟨t2, _, its2, _, rfl, rfl, hy3⟩ F11 (fun p hp => N11 p (.tail _ (.tail _ hp)))))
        | cons c2 b =>
          simp only [List.cons_append, List.cons.injEq] at hcs
          refine hid ?_; intro KK
          (obtain ⟨rfl, rfl⟩ := hcs) <;> (k_unfold; clear KK)
          refine hid ?_; intro KK
          (obtain ⟨a1, a2, a3, a4, a5, a6⟩ := alpha_ok c (hal c (by rw [hab]; simp))) <;> (k_unfold; clear KK)
          have hjl := joinS_le (a := a) hal hab hlen
          rw [show nl (c :: (b ++ Str.ofString " " :: rest)) = 0 from if_neg a5, Int.add_zero] at N9
          k_steps
          unfold Hold
          rename Fr _ _ _ _ => F11
          rename News _ _ _ _ => N11
          refine PyProof.Rows.iadd_str (fun t3 tk3 => ?_) (Nat.le_trans (Nat.add_le_add hjl (Nat.le_of_eq a6)) (Nat.le_of_ble_eq_true rfl))
          rw [← joinS_snoc]
          k_steps
          rename Fr _ _ _ _ => F12
          rename News _ _ _ _ => N12
          exact hn2 _ _ _ _ _ _ _ _ (Nat.lt_succ_self _) (fun c hx => hc2 c (.tail _ hx)) ⟨rfl, rfl, rfl, a ++ [c], b, t3, by rw [hab]; simp, rfl, rfl⟩ hy3 F12 N12
      · rintro k2 tk2 se2 m₂ h₄ tk₄ zz0
        refine hid ?_; intro KK
        (rcases zz0 with ⟨rfl, ms2, mf2, a, b, t2, hab, hcs, mt2⟩) <;> (k_unfold; clear KK)
        cases b <;> cases hcs
    · refine hid ?_; intro KK
      (obtain ⟨rfl, rfl⟩ : c = Str.ofString "\"" ∧ cs' = w0 :: ws ++ Str.ofString "\"" :: rest := by simpa [piece] using he) <;> (k_unfold; clear KK)
      have hy2 := hy1
      rw [show nl (Str.ofString "\"" :: (w0 :: ws ++ Str.ofString "\"" :: rest)) = 0 from rfl, Int.add_zero] at N5
      dsimp only [LX.run, LX.led, LX.fo, LX.strm] at N5
      first | (refine fold_F ?_; intro qk) | k_fold | skip
      k_steps
      unfold Hold
      refine wpAny_For ?_
      k_steps
      unfold Hold
      rename Fr _ _ _ _ => F8
      rename News _ _ _ _ => N8
      refine pyIter_ci (N8 _ (.head _)).1 ?_
      refine for_ci (M := q) (A := A.deeper _) hO hM hne (by simpa [Around.deeper] using hA) (by simp only [Around.deeper]; omega) (by simp only [Around.deeper]; omega) X T
        (fun cs' k2 m' => k2 = k' ∧ m' "self" = some (.ref n.ln) ∧ m' "fiter" = some (.ref h2.objs.size) ∧ ∃ a b t, w0 :: ws = a ++ b ∧ cs' = b ++ Str.ofString "\"" :: rest ∧ m' "token" = some (.str (joinS a) t)) _ _ _ _ _ ?_ ?_ hy2 F8 N8 ?_ ?_
      · exact fun c hx => hc _ (.tail _ hx)
      · exact ⟨rfl, rfl, rfl, [], w0 :: ws, _, rfl, rfl, by first | rfl | exact congrArg (fun x => some (Value.str x _)) hj⟩
      · rintro c cs' k2 tk2 its2 se2 m₂ h₄ tk₄ u2 hc2 zz0
        refine hid ?_; intro KK
        (rcases zz0 with ⟨rfl, ms2, mf2, a, b, t2, hab, hcs, mt2⟩) <;> (k_unfold; clear KK)
        rintro hy3 F9 N9 K2 hn2 hr2
        have F10 := Fr.know F9 [("self", .ref n.ln), ("fiter", .ref h2.objs.size), ("token", .str (joinS a) t2)] (by first | exact kn_cons ms2 (kn_cons mf2 (kn_cons mt2 (kn_nil))) | simp [ms2, mf2, mt2])
        clear F9 F8 N8
        dsimp only [LX.run, LX.led, LX.fo, LX.strm] at N9
        cases b with
        | nil =>
          simp only [List.nil_append, List.cons.injEq] at hcs
          refine hid ?_; intro KK
          (obtain ⟨rfl, rfl⟩ := hcs) <;> (k_unfold; clear KK)
          rw [List.append_nil] at hab
          refine hid ?_; intro KK
          (subst hab) <;> (k_unfold; clear KK)
          rw [show nl (Str.ofString "\"" :: cs') = (if (1 : Nat) = 2 then 1 else 0 : Int) from rfl] at N9
          first | (refine fold_F ?_; intro qk) | k_fold | skip
          k_steps
          rename Fr _ _ _ _ => F11
          rename News _ _ _ _ => N11
          exact hr2 _ _ (hr _ _ (hret _ _ _ _ _ ⟨t2, _, its2, _, rfl, rfl, hy3⟩ F11 (fun p hp => N11 p (.tail _ (.tail _ hp)))))
        | cons c2 b =>
          simp only [List.cons_append, List.cons.injEq] at hcs
          refine hid ?_; intro KK
          (obtain ⟨rfl, rfl⟩ := hcs) <;> (k_unfold; clear KK)
          refine hid ?_; intro KK
          (obtain ⟨a1, a2, a3, a4, a5, a6⟩ := alpha_ok c (hal c (by rw [hab]; simp))) <;> (k_unfold; clear KK)
          have hjl := joinS_le (a := a) hal hab hlen
          rw [show nl (c :: (b ++ Str.ofString "\"" :: rest)) = 0 from if_neg a5, Int.add_zero] at N9
          k_steps
          unfold Hold
          rename Fr _ _ _ _ => F11
          rename News _ _ _ _ => N11
          refine PyProof.Rows.iadd_str (fun t3 tk3 => ?_) (Nat.le_trans (Nat.add_le_add hjl (Nat.le_of_eq a6)) (Nat.le_of_ble_eq_true rfl))
          rw [← joinS_snoc]
          k_steps
          rename Fr _ _ _ _ => F12
          rename News _ _ _ _ => N12
          exact hn2 _ _ _ _ _ _ _ _ (Nat.lt_succ_self _) (fun c hx => hc2 c (.tail _ hx)) ⟨rfl, rfl, rfl, a ++ [c], b, t3, by rw [hab]; simp, rfl, rfl⟩ hy3 F12 N12
      · rintro k2 tk2 se2 m₂ h₄ tk₄ zz0
        refine hid ?_; intro KK
        (rcases zz0 with ⟨rfl, ms2, mf2, a, b, t2, hab, hcs, mt2⟩) <;> (k_unfold; clear KK)
        cases b <;> cases hcs
    · refine hid ?_; intro KK
      (obtain ⟨rfl, rfl⟩ : c = Str.ofString "\\" ∧ cs' = w0 :: ws ++ Str.ofString "\n" :: rest := by simpa [piece] using he) <;> (k_unfold; clear KK)
      rw [show nl (Str.ofString "\\" :: (w0 :: ws ++ Str.ofString "\n" :: rest)) = 0 from rfl, Int.add_zero] at N5
      dsimp only [LX.run, LX.led, LX.fo, LX.strm] at N5
      refine hid ?_; intro KK
      (obtain ⟨a1, a2, a3, a4, a5, a6⟩ := alpha_ok w0 (hal w0 (.head _))) <;> (k_unfold; clear KK)
      first | (refine fold_F ?_; intro qk) | k_fold | skip
      k_steps
      unfold Hold
      rename Fr _ _ _ _ => F7
      rename News _ _ _ _ => N7
      refine use (rest := _) (readChar w n k' tk1 [] pe its1 se1 _ hO hy1) F7 X T (run_is N7) (by simpa [Around.deeper] using hA) (fun p hp => .tail _ (.tail _ hp)) (run_rest hne) trivial (by simp only [Around.deeper]; omega) (by simp only [Around.deeper]; omega) ?_
      rintro r led' h5 tk5 zz0
      refine hid ?_; intro KK
      (rcases zz0 with ⟨its', tk', se', u2, rfl, rfl, hy2⟩) <;> (k_unfold; clear KK)
      rintro F2 N2 -
      have N3 := run_back N2
      clear N2 N7 F7
      rw [show nl (w0 :: ws ++ Str.ofString "\n" :: rest) = 0 from if_neg a5, Int.add_zero] at N3
      dsimp only [LX.run, LX.led, LX.fo, LX.strm, List.cons_append, List.headD_cons, List.tail_cons] at N3 hy2 ⊢
      have hj : Str.ofString "" ++ w0 = joinS [w0] := rfl
      first | (refine fold_F ?_; intro qk) | k_fold | skip
      k_steps
      unfold Hold
      refine PyProof.Rows.iadd_str (fun t3 tk3 => ?_) (Nat.le_trans (Nat.add_le_add (Nat.zero_le 0 : (Str.ofString "").length ≤ 0) (Nat.le_of_eq a6)) (Nat.le_of_ble_eq_true rfl))
      k_steps
      unfold Hold
      refine wpAny_For ?_
      k_steps
      unfold Hold
      rename Fr _ _ _ _ => F8
      rename News _ _ _ _ => N8
      refine pyIter_ci (N8 _ (.head _)).1 ?_
      refine for_ci (M := q) (A := A.deeper _) hO hM hne (by simpa [Around.deeper] using hA) (by simp only [Around.deeper]; omega) (by simp only [Around.deeper]; omega) X T
        (fun cs' k2 m' => k2 = k' ∧ m' "self" = some (.ref n.ln) ∧ m' "fiter" = some (.ref h2.objs.size) ∧ ∃ a b t, w0 :: ws = a ++ b ∧ cs' = b ++ Str.ofString "\n" :: rest ∧ m' "token" = some (.str (joinS a) t)) _ _ _ _ _ ?_ ?_ hy2 F8 N8 ?_ ?_
      · exact fun c hx => hc _ ((fun x => .tail _ (.tail _ x)) hx)
      · exact ⟨rfl, rfl, rfl, [w0], ws, _, rfl, rfl, by first | rfl | exact congrArg (fun x => some (Value.str x _)) hj⟩
      · rintro c cs' k2 tk2 its2 se2 m₂ h₄ tk₄ u2 hc2 zz0
        refine hid ?_; intro KK
        (rcases zz0 with ⟨rfl, ms2, mf2, a, b, t2, hab, hcs, mt2⟩) <;> (k_unfold; clear KK)
        rintro hy3 F9 N9 K2 hn2 hr2
        have F10 := Fr.know F9 [("self", .ref n.ln), ("fiter", .ref h2.objs.size), ("token", .str (joinS a) t2)] (by first | exact kn_cons ms2 (kn_cons mf2 (kn_cons mt2 (kn_nil))) | simp [ms2, mf2, mt2])
        clear F9 F8 N8
        dsimp only [LX.run, LX.led, LX.fo, LX.strm] at N9
        cases b with
        | nil =>
          simp only [List.nil_append, List.cons.injEq] at hcs
          refine hid ?_; intro KK
          (obtain ⟨rfl, rfl⟩ := hcs) <;> (k_unfold; clear KK)
          rw [List.append_nil] at hab
          refine hid ?_; intro KK
          (subst hab) <;> (k_unfold; clear KK)
          rw [show nl (Str.ofString "\n" :: cs') = (if (2 : Nat) = 2 then 1 else 0 : Int) from rfl] at N9
          first | (refine fold_F ?_; intro qk) | k_fold | skip
          k_steps
          rename Fr _ _ _ _ => F11
          rename News _ _ _ _ => N11
          exact hr2 _ _ (hr _ _ (hret _ _ _ _ _ ⟨t2, _, its2, _, rfl, rfl, hy3⟩ F11 (fun p hp => N11 p (.tail _ (.tail _ hp)))))
        | cons c2 b =>
          simp only [List.cons_append, List.cons.injEq] at hcs
          refine hid ?_; intro KK
          (obtain ⟨rfl, rfl⟩ := hcs) <;> (k_unfold; clear KK)
          refine hid ?_; intro KK
          (obtain ⟨a1, a2, a3, a4, a5, a6⟩ := alpha_ok c (hal c (by rw [hab]; simp))) <;> (k_unfold; clear KK)
          have hjl := joinS_le (a := a) hal hab hlen
          rw [show nl (c :: (b ++ Str.ofString "\n" :: rest)) = 0 from if_neg a5, Int.add_zero] at N9
          k_steps
          unfold Hold
          rename Fr _ _ _ _ => F11
          rename News _ _ _ _ => N11
          refine PyProof.Rows.iadd_str (fun t3 tk3 => ?_) (Nat.le_trans (Nat.add_le_add hjl (Nat.le_of_eq a6)) (Nat.le_of_ble_eq_true rfl))
          rw [← joinS_snoc]
          k_steps
          rename Fr _ _ _ _ => F12
          rename News _ _ _ _ => N12
          exact hn2 _ _ _ _ _ _ _ _ (Nat.lt_succ_self _) (fun c hx => hc2 c (.tail _ hx)) ⟨rfl, rfl, rfl, a ++ [c], b, t3, by rw [hab]; simp, rfl, rfl⟩ hy3 F12 N12
      · rintro k2 tk2 se2 m₂ h₄ tk₄ zz0
        refine hid ?_; intro KK
        (rcases zz0 with ⟨rfl, ms2, mf2, a, b, t2, hab, hcs, mt2⟩) <;> (k_unfold; clear KK)
        cases b <;> cases hcs
  · rintro k' tk1 se1 m₁ h₃ tk₃ zz0
    refine hid ?_; intro KK
    (rcases zz0 with ⟨h, rfl, ms, mf, tt, mt⟩) <;> (k_unfold; clear KK)
    rintro F5 N5
    refine hid ?_; intro KK
    (rcases hT with ⟨-, rfl, rfl, rfl⟩ | ⟨m, w0, ws, hm, hal, he, rfl, rfl⟩) <;> (k_unfold; clear KK)
    · have F6 := Fr.know F5 [("self", .ref n.ln), ("fiter", .ref h2.objs.size), ("token", .str (Str.ofString "") tt)] (by simp [ms, mf, mt])
      clear F5 F4 N4
      first | (refine fold_F ?_; intro qk) | k_fold | skip
      k_steps
      rename Fr _ _ _ _ => F7
      rename News _ _ _ _ => N7
      rw [← Int.add_zero k'] at N7
      exact hret _ _ _ _ _ ⟨tt, _, [], _, rfl, rfl, .nil, by simp⟩ F7 N7
    · refine absurd he ?_
      rw [← h]
      unfold piece
      split
      · simp
      · split <;> simp
end
example : True := by w_top off; exact trivial
section
local macro_rules | `(tactic| walk_at $s:str) => if ["call builtin:list.pop", "call builtin:list.append", "truthy ref"].contains s.getString then `(tactic| (refine hold_of ?_)) else Lean.Macro.throwUnsupported
theorem getPushed (w : World) (n : LX) (k : Int) (tk0 : Tok) (v : Value) (pv : List Value) (pe : Nat) (its : List Value) (se : Nat) (hO : n.Ok w) (hz : pv.length ≤ 1000) :
   Con w (.ref 68) [.ref n.ln] 10 70 (n.led w k tk0 (v :: pv) pe its se) (fun _ => True) (fun h r led' => r = v ∧ led' = n.led w k tk0 pv (pe + 1) its se) := by
  refine' con_of [("self", .ref n.ln)] ?o ?c ?b ?lo ?c2 ?c3 ?c4 ?c5 ?_
  case o => k_is
  case c => k_is
  case b => intro S; exact rfl
  case lo => exact rfl
  case c2 => exact rfl
  case c3 => exact rfl
  case c4 => exact rfl
  case c5 => decide
  intro A g L' h₁ tk hp0 gs dr os mean mg mb R hA hd hu F N X T hpre hk hlt hret
  dsimp only [LX.led, LX.fo, LX.strm] at N
  first | (refine fold_F ?_; intro qk) | k_fold | skip
  k_steps
  unfold Hold
  rename Fr _ _ _ _ => F1
  rename News _ _ _ _ => N1
  refine wpAny_truthy_list (News.isList N1 (.head _)) (by rw [List.size_toArray, List.length_cons]; omega) ?_
  rw [show (!(v :: pv).toArray.isEmpty) = true from by simp]
  k_steps
  unfold Hold
  refine hid ?_; intro KK
  (obtain ⟨⟨_, -⟩, ⟨_, _, _, _, _, _, _, _, _⟩⟩ := LX.all_ne hO) <;> (k_unfold; clear KK)
  refine kl_popAt (k := 0) (p := []) (q := pv) (y := v) F1 N1 (by decide) (by simp [seqIndex?]) rfl (Upd.head (by k_all)) (by show (v :: pv).length ≤ sizeLine; exact Nat.le_trans (Nat.succ_le_succ hz) (Nat.le_of_ble_eq_true rfl)) ?_
  intro h3 F3 N3
  k_steps
  exact hret _ _ _ _ _ ⟨rfl, rfl⟩ F3 N3
theorem pushC (w : World) (n : LX) (k : Int) (tk0 : Tok) (v : Value) (pv : List Value) (pe : Nat) (its : List Value) (se : Nat) (hO : n.Ok w) (hz : pv.length ≤ 1000) :
   Con w (.ref 75) [.ref n.ln, v] 10 70 (n.led w k tk0 pv pe its se) (fun _ => True) (fun h r led' => r = .none ∧ led' = n.led w k tk0 (pv ++ [v]) (pe + 1) its se) := by
  refine' con_of [("self", .ref n.ln), ("token", v)] ?o ?c ?b ?lo ?c2 ?c3 ?c4 ?c5 ?_
  case o => k_is
  case c => k_is
  case b => intro S; exact rfl
  case lo => exact rfl
  case c2 => exact rfl
  case c3 => exact rfl
  case c4 => exact rfl
  case c5 => decide
  intro A g L' h₁ tk hp0 gs dr os mean mg mb R hA hd hu F N X T hpre hk hlt hret
  dsimp only [LX.led, LX.fo, LX.strm] at N
  first | (refine fold_F ?_; intro qk) | k_fold | skip
  k_steps
  unfold Hold
  refine hid ?_; intro KK
  (obtain ⟨⟨_, -⟩, ⟨_, _, _, _, _, _, _, _, _⟩⟩ := LX.all_ne hO) <;> (k_unfold; clear KK)
  refine append_K F N (Upd.head (by k_all)) ?_ (by simp only [List.size_toArray, sizeLine]; omega)
  intro h3 F3 N3
  k_steps
  simp only [List.push_toArray] at N3
  exact hret _ _ _ _ _ ⟨rfl, rfl⟩ F3 N3
end
section
variable {prog : Program} {w : World} {A : Around} {E : Value → Shared → Prop} {s : Shared} {a b i : Nat} {t u : Tok} {Q : Value → Shared → Prop}
theorem pow_nat (ha : a < 2 ^ 60) (hi : i ≤ 1000) (h : ∀ t tk, Q (.int ((a ^ i : Nat) : Int) t) { s with toks := tk }) : wpAny (model prog w) A (binaryOp .Pow (.int (a : Int) t) (.int (i : Int) u)) Q E s := by
  refine pow_int_small (by omega) (by omega) (by rw [Int.natAbs_natCast]; omega) ?_
  have e : (a : Int) ^ (i : Int).toNat = ((a ^ i : Nat) : Int) := by simp
  rw [e]; exact h _ _
theorem no_pylong (hb : b < 2 ^ 62) (x : Int) : Builtin.divisionGoesByPylong x (b : Int) = false := by
  refine PyProof.noPylong_of_log2 ?_
  rw [Int.natAbs_natCast]
  by_cases h0 : b = 0
  · rw [h0]; decide +kernel
  · exact Nat.lt_trans ((Nat.log2_lt h0).mpr hb) (by decide)
theorem fdiv_nat (hb : 0 < b) (hb2 : b < 2 ^ 62) (h : ∀ t tk, Q (.int ((a / b : Nat) : Int) t) { s with toks := tk }) : wpAny (model prog w) A (binaryOp .FloorDiv (.int (a : Int) t) (.int (b : Int) u)) Q E s := by
  refine floordiv_int (by omega) ?_ (.inl (no_pylong hb2 _))
  have e : (a : Int).fdiv (b : Int) = ((a / b : Nat) : Int) := by rw [Int.fdiv_eq_ediv_of_nonneg _ (by omega)]; simp
  rw [e]; exact h _ _
theorem fmod_nat (hb : 0 < b) (h : ∀ t tk, Q (.int ((a % b : Nat) : Int) t) { s with toks := tk }) : wpAny (model prog w) A (binaryOp .Mod (.int (a : Int) t) (.int (b : Int) u)) Q E s := by
  refine mod_int' (by omega) ?_
  have e : (a : Int).fmod (b : Int) = ((a % b : Nat) : Int) := by rw [Int.fmod_eq_emod_of_nonneg _ (by omega)]; simp
  rw [e]; exact h _ _
theorem eq_nat (c : Bool) (hc : (a == b) = c) (h : Q (.bool c) s) : wpAny (model prog w) A (compareOp .Eq (.int (a : Int) t) (.int (b : Int) u)) Q E s := by
  refine eq_int ?_
  have e : ((a : Int) == (b : Int)) = (a == b) := by
    by_cases q : a = b
    · subst q; simp
    · have : (a : Int) ≠ b := by omega
      rw [beq_false_of_ne this, beq_false_of_ne q]
  rw [e, hc]; exact h
end
local macro_rules | `(tactic| walk_at "assign Tuple") => `(tactic| (refine' unpackN_ ?k1 ?k2 ?k3 ?k4 ?k5 ?k6 ?_; (case k1 => assumption); (case k2 => assumption); (case k3 => exact News.isTup (by assumption) (by k_mem)); (case k4 => assumption); (case k5 => exact rfl); (case k6 => exact rfl); intro h' F' N'))
example : True := by w_top off; exact trivial
section
local macro_rules | `(tactic| walk_at "idle line") => `(tactic| fail)
/-- the words of what pretty_flags tells -/
noncomputable def words (f : Nat) : List Str := Txt.split (pflags f) (Str.ofString " ")
noncomputable def wpiece (num i : Nat) (w : Str) : Str := if num / 3 ^ i % 3 = 0 then w ++ Str.ofString " " else if num / 3 ^ i % 3 = 1 then Str.ofString "\"" ++ w ++ Str.ofString "\"" else Str.ofString "\\" ++ w ++ Str.ofString "\n"
noncomputable def wrTo (ws : List Str) (num : Nat) : Nat → Str
  | 0 => Str.ofString ""
  | i + 1 => wrTo ws num i ++ wpiece num i (ws.getD i (Str.ofString ""))
theorem wlen_app (a b : Str) : (a ++ b).length = a.length + b.length := by show (a.cps ++ b.cps).size = _; simp [Str.length]
theorem wpiece_le (num i : Nat) (x : Str) : (wpiece num i x).length ≤ x.length + 2 := by
  unfold wpiece
  split
  · rw [wlen_app]; exact Nat.add_le_add_left (by decide +kernel) _
  · split
    · rw [wlen_app, wlen_app, show (Str.ofString "\"").length = 1 from by decide +kernel]; omega
    · rw [wlen_app, wlen_app, show (Str.ofString "\\").length = 1 from by decide +kernel, show (Str.ofString "\n").length = 1 from by decide +kernel]; omega
theorem wrTo_le {ws : List Str} (num : Nat) (h : ∀ x ∈ ws, x.length ≤ 40) : ∀ i, (wrTo ws num i).length ≤ 50 * i
  | 0 => Nat.le_refl 0
  | i + 1 => by
    have h1 := wrTo_le num h i
    have h2 := wpiece_le num i (ws.getD i (Str.ofString ""))
    have h3 : (ws.getD i (Str.ofString "")).length ≤ 40 := by
      rw [List.getD_eq_getElem?_getD]
      cases q : ws[i]? with
      | none => decide +kernel
      | some y => exact h y (List.mem_of_getElem? q)
    rw [wrTo, wlen_app]
    omega
theorem enum_start {prog : Program} {w : World} {A : Around} {s : Shared} {E : Value → Shared → Prop} {g : Heap} {L l : Addr} {m : Str → Option Value} {news : List (Addr × Obj)} {vs : Array Value} {ep : Nat} {Q : Value → Shared → Prop} (F : Fr g L s.heap m) (N : News g L s.heap news) (hm : (l, listOf vs ep) ∈ news)
    (h : ∀ e it o h', Fr g L h' m → News g L h' ((e, enumObj it 0 .none) :: (it, o) :: news) → (o.cls = .type "list_iterator" ∧ o.data = .fields #[.ref l, .int 0 0]) → it ≠ e → (∀ p ∈ news, p.1 ≠ e ∧ p.1 ≠ it) → Q (.ref e) { s with heap := h' }) :
    wpAny (model prog w) A (call (.type "enumerate") [.ref l]) Q E s := by
  refine call_enumerate_1 (N _ hm).1 fun h' he ⟨o, hi, hc, hd⟩ hsz hk => ?_
  refine hid ?_; intro KK
  (obtain ⟨oL, es, ep', hL, r⟩ := F.ns) <;> (k_unfold; clear KK)
  have gN : ∀ b, s.heap.objs.size ≤ b → g.get? b = none := fun b hb => Heap.get?_none_of_le (Nat.le_trans F.above (Nat.le_trans (Nat.le_of_lt (Heap.lt_size hL)) hb))
  refine h _ _ o h' ⟨⟨oL, es, ep', hk _ _ hL, r⟩, fun b ob e => hk _ _ (F.keep b ob e), F.above⟩ ?_ ⟨hc, hd⟩ (Nat.ne_of_lt (Nat.lt_succ_self _)) fun p hp => ⟨Nat.ne_of_lt (Nat.lt_succ_of_lt (Heap.lt_size (N p hp).1)), Nat.ne_of_lt (Heap.lt_size (N p hp).1)⟩
  intro p hp
  refine hid ?_; intro KK
  (rcases List.mem_cons.mp hp with rfl | hp) <;> (k_unfold; clear KK)
  · exact ⟨he, Nat.ne_of_gt (Nat.lt_succ_of_lt (Heap.lt_size hL)), gN _ (Nat.le_succ _)⟩
  · refine hid ?_; intro KK
    (rcases List.mem_cons.mp hp with rfl | hp) <;> (k_unfold; clear KK)
    · exact ⟨hi, Nat.ne_of_gt (Heap.lt_size hL), gN _ (Nat.le_refl _)⟩
    · exact ⟨hk _ _ (N p hp).1, (N p hp).2⟩
section
local macro_rules | `(tactic| walk_at $s:str) => if ["binaryOp Pow int int", "binaryOp FloorDiv int int", "binaryOp Mod int int", "compareOp Eq int int", "inplaceOp Add str str", "binaryOp Add str str", "pyIter ref", "call builtin:str.split", "call type:enumerate", "exec For Tuple Call cons nil"].contains s.getString then `(tactic| (refine hold_of ?_)) else Lean.Macro.throwUnsupported
theorem writtenC (w : World) (f num : Nat) (tf tn : Tok) (hf : f < 16384) (hw1 : (words f).length ≤ 20) (hw2 : ∀ x ∈ words f, x.length ≤ 40) (hw3 : (pflags f).length ≤ 400) :
   Con w (.ref 96) [.int f tf, .int num tn] 6 60 [] (fun _ => True) (fun h r led' => led' = [] ∧ ∃ t, r = .str (wrTo (words f) num (words f).length) t) := by
  refine' con_of [("row", .int f tf), ("number", .int num tn)] ?o ?c ?b ?lo ?c2 ?c3 ?c4 ?c5 ?_
  case o => k_is
  case c => k_is
  case b => intro S; exact rfl
  case lo => exact rfl
  case c2 => exact rfl
  case c3 => exact rfl
  case c4 => exact rfl
  case c5 => decide
  intro A g L' h₁ tk hp0 gs dr os mean mg mb R hA hd hu F N X T hpre hk hlt hret
  first | (refine fold_F ?_; intro qk) | k_fold | skip
  k_steps
  unfold Hold
  refine wpAny_For ?_
  k_steps
  unfold Hold
  rename Fr _ _ _ _ => F1
  rename News _ _ _ _ => N1
  refine use (rest := []) (flagsC w f tf hf) F1 X T N1 (by simpa [Around.deeper] using hA) (fun _ h => nomatch h) (fun _ h => nomatch h) trivial (by simp only [Around.deeper]; omega) (by simp only [Around.deeper]; omega) ?_
  rintro r led' h2 tk2 zz0
  refine hid ?_; intro KK
  (rcases zz0 with ⟨rfl, t, rfl⟩) <;> (k_unfold; clear KK)
  rintro F2 N2 -
  clear F1 N1
  simp only [List.nil_append] at N2
  first | (refine fold_F ?_; intro qk) | k_fold | skip
  k_steps
  unfold Hold
  refine KSpl.split1 F2 N2 (by decide +kernel) (fun D l h3 tk3 hl hv F3 N3 hlt3 => ?_) ?_
  · k_steps
    unfold Hold
    refine enum_start F3 N3 (.head _) fun e it o h4 F4 N4 ho hie hne4 => ?_
    clear F3 N3
    k_steps
    unfold Hold
    refine wpAny_pyIter_enum (N4 _ (.head _)).1 ?_
    have hlen : (strValues l).length = (words f).length := by rw [hv.len_eq, hl]; rfl
    have hne5 := hne4 _ (.head _)
    refine for_it (iter_enum w _ _ _ e it D hie hne5.1 hne5.2 (strValues l) 0) (o, Value.none)
      (fun i m news => news = [] ∧ m "number" = some (.int num tn) ∧ ∃ t, m "text" = some (.str (wrTo (words f) num i) t)) (by simpa [Around.deeper] using hA) ho F4 N4 (fun _ h => nomatch h) ⟨rfl, rfl, _, rfl⟩ ?_ ?_
    · rintro i c v ex m₁ news₁ h₁ tk₁ hi zz0 zz1
      refine hid ?_; intro KK
      (rcases zz0 with ⟨TT, t1, x, rfl, hx, rfl⟩) <;> (rcases zz1 with ⟨rfl, mn, tx, mt⟩) <;> (k_unfold; clear KK)
      rintro hc F5 N5 hdj hne6
      have F6 := Fr.know F5 [("number", .int num tn), ("text", .str (wrTo (words f) num i) tx)] (by first | exact kn_cons mn (kn_cons mt (kn_nil)) | simp [mn, mt])
      clear F5 F4 N4
      simp only [List.cons_append, List.nil_append] at N5
      obtain ⟨p, hp, rfl⟩ : ∃ p, l[i]? = some p ∧ x = .str p.1 p.2 := by
        rw [show strValues l = l.map (fun p => Value.str p.1 p.2) from rfl, List.getElem?_map] at hx
        cases hq : l[i]? with
        | none => rw [hq] at hx; cases hx
        | some p => rw [hq] at hx; exact ⟨p, rfl, (Option.some.inj hx).symm⟩
      have hi20 : i ≤ 20 := by omega
      have hp3 : 3 ^ i ≤ 3 ^ 20 := Nat.pow_le_pow_right (by decide) hi20
      first | (refine fold_F ?_; intro qk) | k_fold | skip
      k_steps
      unfold Hold
      refine pow_nat (a := 3) (i := i) (by decide) (by omega) (fun tP tkP => ?_)
      k_steps
      unfold Hold
      refine fdiv_nat (Nat.pow_pos (by decide)) (Nat.lt_of_le_of_lt hp3 (by decide)) (fun tD tkD => ?_)
      k_steps
      unfold Hold
      refine fmod_nat (b := 3) (by decide) (fun tM tkM => ?_)
      have hpl : (words f).getD i (Str.ofString "") = p.1 := by
        have e1 : words f = l.map (fun x => x.1) := hl.symm
        rw [e1, List.getD_eq_getElem?_getD, List.getElem?_map, hp]
        rfl
      have hpz : p.1.length ≤ 40 := hw2 _ (by rw [show words f = l.map (fun x => x.1) from hl.symm]; exact List.mem_map_of_mem (List.mem_of_getElem? hp))
      have hwz := wrTo_le num hw2 i
      have step : ∀ ww, ww = wpiece num i p.1 → wrTo (words f) num i ++ ww = wrTo (words f) num (i + 1) := fun ww e => by rw [e, ← hpl]; rfl
      k_steps
      unfold Hold
      have hm3 : num / 3 ^ i % 3 = 0 ∨ num / 3 ^ i % 3 = 1 ∨ num / 3 ^ i % 3 = 2 := by omega
      refine hid ?_; intro KK
      (rcases hm3 with hm | hm | hm) <;> (k_unfold; clear KK)
      · rw [hm]
        refine eq_nat (a := 0) (b := 0) true rfl ?_
        k_steps
        unfold Hold
        refine PyProof.Rows.add_str (fun ta tka => ?_) (Nat.le_trans (Nat.add_le_add_right hpz _) (Nat.le_of_ble_eq_true rfl))
        k_steps
        unfold Hold
        refine PyProof.Rows.iadd_str (fun tb tkb => ?_) ?_
        · rw [step _ (by rw [wpiece, if_pos hm])]
          k_steps
          rename Fr _ _ _ _ => F8
          rename News _ _ _ _ => N8
          exact ⟨_, _, _, [], rfl, F8, fun p hp => N8 p (.tail _ hp), (fun _ h => nomatch h), rfl, rfl, _, rfl⟩
        · rw [wlen_app]
          exact Nat.le_trans (Nat.add_le_add hwz (Nat.add_le_add_right hpz _)) (Nat.le_trans (Nat.add_le_add_right (Nat.mul_le_mul_left 50 hi20) _) (Nat.le_of_ble_eq_true rfl))
      · rw [hm]
        refine eq_nat (a := 1) (b := 0) false rfl ?_
        k_steps
        unfold Hold
        rw [hm]
        refine eq_nat (a := 1) (b := 1) true rfl ?_
        k_steps
        unfold Hold
        refine PyProof.Rows.add_str (fun ta tka => ?_) (Nat.le_trans (Nat.add_le_add_left hpz _) (Nat.le_of_ble_eq_true rfl))
        k_steps
        unfold Hold
        refine PyProof.Rows.add_str (fun tc tkc => ?_) (by rw [wlen_app]; exact Nat.le_trans (Nat.add_le_add_right (Nat.add_le_add_left hpz _) _) (Nat.le_of_ble_eq_true rfl))
        k_steps
        unfold Hold
        refine PyProof.Rows.iadd_str (fun tb tkb => ?_) ?_
        · rw [step _ (by rw [wpiece, if_neg (by omega), if_pos hm])]
          k_steps
          rename Fr _ _ _ _ => F8
          rename News _ _ _ _ => N8
          exact ⟨_, _, _, [], rfl, F8, fun p hp => N8 p (.tail _ hp), (fun _ h => nomatch h), rfl, rfl, _, rfl⟩
        · rw [wlen_app, wlen_app]
          exact Nat.le_trans (Nat.add_le_add hwz (Nat.add_le_add_right (Nat.add_le_add_left hpz _) _)) (Nat.le_trans (Nat.add_le_add_right (Nat.mul_le_mul_left 50 hi20) _) (Nat.le_of_ble_eq_true rfl))
      · rw [hm]
        refine eq_nat (a := 2) (b := 0) false rfl ?_
        k_steps
        unfold Hold
        rw [hm]
        refine eq_nat (a := 2) (b := 1) false rfl ?_
        k_steps
        unfold Hold
        refine PyProof.Rows.add_str (fun ta tka => ?_) (Nat.le_trans (Nat.add_le_add_left hpz _) (Nat.le_of_ble_eq_true rfl))
        k_steps
        unfold Hold
        refine PyProof.Rows.add_str (fun tc tkc => ?_) (by rw [wlen_app]; exact Nat.le_trans (Nat.add_le_add_right (Nat.add_le_add_left hpz _) _) (Nat.le_of_ble_eq_true rfl))
        k_steps
        unfold Hold
        refine PyProof.Rows.iadd_str (fun tb tkb => ?_) ?_
        · rw [step _ (by rw [wpiece, if_neg (by omega), if_neg (by omega)])]
          k_steps
          rename Fr _ _ _ _ => F8
          rename News _ _ _ _ => N8
          exact ⟨_, _, _, [], rfl, F8, fun p hp => N8 p (.tail _ hp), (fun _ h => nomatch h), rfl, rfl, _, rfl⟩
        · rw [wlen_app, wlen_app]
          exact Nat.le_trans (Nat.add_le_add hwz (Nat.add_le_add_right (Nat.add_le_add_left hpz _) _)) (Nat.le_trans (Nat.add_le_add_right (Nat.mul_le_mul_left 50 hi20) _) (Nat.le_of_ble_eq_true rfl))
    · rintro m₁ news₁ h₁ tk₁ zz0
      refine hid ?_; intro KK
      (rcases zz0 with ⟨rfl, mn, tx, mt⟩) <;> (k_unfold; clear KK)
      rintro F5 N5 hne6
      have F6 := Fr.know F5 [("number", .int num tn), ("text", .str (wrTo (words f) num (strValues l).length) tx)] (by first | exact kn_cons mn (kn_cons mt (kn_nil)) | simp [mn, mt])
      clear F5 F4 N4
      first | (refine fold_F ?_; intro qk) | k_fold | skip
      k_steps
      rename Fr _ _ _ _ => F7
      rw [hlen] at F7 ⊢
      exact hret _ _ _ _ _ ⟨rfl, tx, rfl⟩ F7 (fun _ h => nomatch h)
  · exact Nat.le_trans (Nat.add_le_add_right hw3 2) (Nat.le_of_ble_eq_true rfl)
end
end
/-- the names of what is told of S at shift h -/
noncomputable def nms (h S : Nat) : List Str := ((List.range 4).filter fun j => S.testBit j).map fun j => flagName (h + j)
noncomputable def nms0 (h S : Nat) : List Str := if S = 0 then [Str.ofString "0x0"] else nms h S
noncomputable def comma : List Str → List Str
  | [] => []
  | [a] => [a]
  | a :: b :: r => (a ++ Str.ofString ",") :: comma (b :: r)
noncomputable def famOk (h S : Nat) : Bool := decide (words (S * 2 ^ h) = comma (nms0 h S)) && PyData.strOk (pflags (S * 2 ^ h)) && decide ((pflags (S * 2 ^ h)).length ≤ 400)
theorem fam0 : ∀ S, S < 16 → famOk 0 S = true := by decide +kernel
theorem fam1 : ∀ S, S < 16 → famOk 1 S = true := by decide +kernel
theorem fam2 : ∀ S, S < 16 → famOk 2 S = true := by decide +kernel
theorem fam3 : ∀ S, S < 16 → famOk 3 S = true := by decide +kernel
theorem fam4 : ∀ S, S < 16 → famOk 4 S = true := by decide +kernel
theorem fam5 : ∀ S, S < 16 → famOk 5 S = true := by decide +kernel
theorem fam6 : ∀ S, S < 16 → famOk 6 S = true := by decide +kernel
theorem fam7 : ∀ S, S < 16 → famOk 7 S = true := by decide +kernel
theorem fam8 : ∀ S, S < 16 → famOk 8 S = true := by decide +kernel
theorem fam9 : ∀ S, S < 16 → famOk 9 S = true := by decide +kernel
theorem fam10 : ∀ S, S < 16 → famOk 10 S = true := by decide +kernel
theorem fam_ok : ∀ h, h < 11 → ∀ S, S < 16 → famOk h S = true
  | 0, _ => fam0 | 1, _ => fam1 | 2, _ => fam2 | 3, _ => fam3 | 4, _ => fam4 | 5, _ => fam5 | 6, _ => fam6 | 7, _ => fam7 | 8, _ => fam8 | 9, _ => fam9 | 10, _ => fam10
example : True := by w_top off; exact trivial
local macro_rules | `(tactic| walk_at "idle line") => `(tactic| fail)
local macro_rules | `(tactic| walk_at "idle line") => `(tactic| fail)
local macro_rules | `(tactic| walk_at "idle line") => `(tactic| fail)
noncomputable def Fam (h u : Nat) : Prop := ∃ S, S < 16 ∧ u = S * 2 ^ h
theorem or_mul (a b h : Nat) : a * 2 ^ h ||| b * 2 ^ h = (a ||| b) * 2 ^ h := by
  rw [← Nat.shiftLeft_eq, ← Nat.shiftLeft_eq, ← Nat.shiftLeft_eq, Nat.shiftLeft_or_distrib]
theorem Fam.or {h a b : Nat} (x : Fam h a) (y : Fam h b) : Fam h (a ||| b) := by
  refine hid ?_; intro KK
  (obtain ⟨S, hS, rfl⟩ := x) <;> (k_unfold; clear KK)
  refine hid ?_; intro KK
  (obtain ⟨U, hU, rfl⟩ := y) <;> (k_unfold; clear KK)
  exact ⟨S ||| U, Nat.or_lt_two_pow (n := 4) hS hU, or_mul S U h⟩
theorem Fam.zero (h : Nat) : Fam h 0 := ⟨0, by decide, by simp⟩
theorem Fam.lt {h u : Nat} (hh : h < 11) (x : Fam h u) : u < 16384 := by
  refine hid ?_; intro KK
  (obtain ⟨S, hS, rfl⟩ := x) <;> (k_unfold; clear KK)
  have h1 : 2 ^ h ≤ 2 ^ 10 := Nat.pow_le_pow_right (by decide) (by omega)
  have h2 : S * 2 ^ h ≤ 15 * 2 ^ 10 := Nat.mul_le_mul (by omega) h1
  omega
theorem Fam.ok {h u : Nat} (hh : h < 11) (x : Fam h u) : ∃ S, S < 16 ∧ u = S * 2 ^ h ∧ words u = comma (nms0 h S) ∧ PyData.strOk (pflags u) = true ∧ (pflags u).length ≤ 400 := by
  refine hid ?_; intro KK
  (obtain ⟨S, hS, rfl⟩ := x) <;> (k_unfold; clear KK)
  have := fam_ok h hh S hS
  simp only [famOk, Bool.and_eq_true, decide_eq_true_eq] at this
  exact ⟨S, hS, rfl, this.1.1, this.1.2, this.2⟩
/-- union and price of a choice of rows -/
noncomputable def upTo (rs : List Nat) (x : Int) (c : Nat) : Nat → Nat × Int
  | 0 => (0, 1)
  | i + 1 => if c / 2 ^ i % 2 = 0 then upTo rs x c i else ((upTo rs x c i).1 ||| rs.getD i 0, (upTo rs x c i).2 * x)
theorem upTo_fam {rs : List Nat} {h : Nat} (hr : ∀ u ∈ rs, Fam h u) (x : Int) (c : Nat) : ∀ i, i ≤ rs.length → Fam h (upTo rs x c i).1
  | 0, _ => Fam.zero h
  | i + 1, hi => by
    rw [upTo]
    split
    · exact upTo_fam hr x c i (by omega)
    · refine (upTo_fam hr x c i (by omega)).or (hr _ ?_)
      rw [List.getD_eq_getElem?_getD, List.getElem?_eq_getElem (by omega)]
      exact List.getElem_mem _
noncomputable def haveOf (u : Nat) : Nat := if u = 0 then 0 else (words u).length
noncomputable def rowTot (rs : List Nat) (size : Nat) (x y : Int) : Nat → Int
  | 0 => 0
  | c + 1 => rowTot rs size x y c + (upTo rs x c rs.length).2 * (1 + y) ^ (size - haveOf (upTo rs x c rs.length).1)
noncomputable def rowUni (rs : List Nat) (x : Int) : Nat → List Str
  | 0 => []
  | c + 1 => keep ltStr (pflags (upTo rs x c rs.length).1) (rowUni rs x c)
theorem pow_small {y : Int} (h : -10 ≤ y ∧ y ≤ 10) {k : Nat} (hk : k ≤ 4) (a : Int) : IntMulOk a ((1 + y) ^ k) := by
  have h1 : ((1 + y) ^ k).natAbs ≤ 11 ^ 4 := by
    rw [Int.natAbs_pow]
    exact Nat.le_trans (Nat.pow_le_pow_left (by omega : (1 + y).natAbs ≤ 11) k) (Nat.pow_le_pow_right (by decide) hk)
  exact IntMulOk.of_right (PySem.intBits_le_64 (by omega) (by omega))
theorem rowUni_len (rs : List Nat) (x : Int) : ∀ c, (rowUni rs x c).length ≤ c
  | 0 => Nat.le_refl 0
  | c + 1 => Nat.le_trans (keep_length _ _) (Nat.succ_le_succ (rowUni_len rs x c))
theorem rowUni_sorted (rs : List Nat) (x : Int) : ∀ c, (rowUni rs x c).Pairwise (fun a b => ltStr a b = true)
  | 0 => .nil
  | c + 1 => keep_sorted lin_str (rowUni_sorted rs x c)
theorem wpAny_len_news {prog : Program} {w : World} {A : Around} {E : Value → Shared → Prop} {s : Shared} {g : Heap} {L : Addr} {l : Addr} {vs : Array Value} {e : Nat} {news : List (Addr × Obj)} {Q : Value → Shared → Prop} (N : News g L s.heap news) (hm : (l, listOf vs e) ∈ news) (hfit : vs.size ≤ 1000000)
  (h : ∀ t tk, Q (.int vs.size t) { s with toks := tk }) : wpAny (model prog w) A (call (.builtin "len") [.ref l]) Q E s :=
  len_list (News.isList N hm) (by omega) (h _ _)
local macro_rules | `(tactic| walk_at "unpackItems ref") => `(tactic| (refine' unpackItemsN_ ?k1 ?k2 ?k3 ?k4 ?k5 ?_; (case k1 => assumption); (case k2 => assumption); (case k3 => exact News.isTup (by assumption) (by k_mem)); (case k4 => assumption); (case k5 => exact rfl); intro h' F' N'))
section
local macro_rules | `(tactic| walk_at $s:str) => if ["pyIter ref", "call builtin:str.split", "call type:enumerate", "exec For Tuple Call cons nil", "exec For Name Call cons cons", "exec For Name Call cons nil", "binaryOp Pow int int", "binaryOp FloorDiv int int", "binaryOp Mod int int", "binaryOp BitOr int int"].contains s.getString then `(tactic| (refine hold_of ?_)) else Lean.Macro.throwUnsupported
inductive RowsI (w : World) (l : Addr) (vs : List Value) (ep : Nat) (rs : List Nat) (size : Nat) (ts : Tok) (x y : Int) (tx ty : Tok) (c : Nat) (m : Str → Option Value) (news : List (Addr × Obj)) : Prop
  | mk (u : Addr) (us : List Value) (e : Nat) (t : Tok) (h1 : u ≠ l) (h2 : news = [(u, listOf us.toArray e), (l, listOf vs.toArray ep)]) (h3 : Are (strKd w).is us (rowUni rs x c)) (h4 : m "rows" = some (.ref l)) (h5 : m "size" = some (.int size ts)) (h6 : m "x" = some (.int x tx)) (h7 : m "y" = some (.int y ty)) (h8 : m "unions" = some (.ref u)) (h9 : m "total" = some (.int (rowTot rs size x y c) t)) : RowsI w l vs ep rs size ts x y tx ty c m news
inductive RowsJ (l : Addr) (rs : List Nat) (size : Nat) (ts : Tok) (x y : Int) (tx ty : Tok) (I : Addr) (c : Nat) (u : Addr) (us : List Value) (e : Nat) (t t0 : Tok) (i : Nat) (m : Str → Option Value) (news : List (Addr × Obj)) : Prop
  | mk  (h1 : news = [(I, rIter ((c + 1 : Nat) : Int) (16 - ((c + 1 : Nat) : Int))), (u, listOf us.toArray e)]) (h2 : m "rows" = some (.ref l)) (h3 : m "size" = some (.int size ts)) (h4 : m "x" = some (.int x tx)) (h5 : m "y" = some (.int y ty)) (h6 : m "unions" = some (.ref u)) (h7 : m "total" = some (.int (rowTot rs size x y c) t0)) (h8 : m "choice" = some (.int c t)) (h9 : (∃ t, m "union" = some (.int (upTo rs x c i).1 t))) (h10 : ∃ t, m "price" = some (.int (upTo rs x c i).2 t)) : RowsJ l rs size ts x y tx ty I c u us e t t0 i m news
theorem rowsC (w : World) (l : Addr) (vs : List Value) (ep h : Nat) (rs : List Nat) (size : Nat) (ts : Tok) (x y : Int) (tx ty : Tok) (hh : h < 11) (hr : ∀ u ∈ rs, Fam h u) (hv : Are (natKd w).is vs rs) (hl : rs.length ≤ 4) (hsz : ∀ c, c < 16 → haveOf (upTo rs x c rs.length).1 ≤ size) (hs4 : size ≤ 4) (hx : -10 ≤ x ∧ x ≤ 10) (hy : -10 ≤ y ∧ y ≤ 10) :
   Con w (.ref 117) [.ref l, .int size ts, .int x tx, .int y ty] 8 90 [(l, listOf vs.toArray ep)] (fun _ => True) (fun h r led' => ∃ T t1 t2, r = .ref T ∧ led' = [(T, { cls := .type "tuple", data := .seq #[.int (rowTot rs size x y 16) t1, .int (rowUni rs x 16).length t2] }), (l, listOf vs.toArray ep)]) := by
  refine' con_of [("rows", .ref l), ("size", .int size ts), ("x", .int x tx), ("y", .int y ty)] ?o ?c ?b ?lo ?c2 ?c3 ?c4 ?c5 ?_
  case o => k_is
  case c => k_is
  case b => intro S; exact rfl
  case lo => exact rfl
  case c2 => exact rfl
  case c3 => exact rfl
  case c4 => exact rfl
  case c5 => decide
  intro A g L' h₁ tk hp0 gs dr os mean mg mb R hA hd hu F N X T hpre hk hlt hret
  first | (refine fold_F ?_; intro qk) | k_fold | skip
  k_steps
  unfold Hold
  refine wpAny_For ?_
  k_steps
  unfold Hold
  rename Fr _ _ _ _ => F1
  rename News _ _ _ _ => N1
  rename IsRange _ _ _ _ _ _ _ _ => hrg
  rename l < _ => lu
  have N1' := (fun p hp => N1 p (List.Mem.tail _ hp) : News g L' _ _)
  refine for_range 16 (RowsI w l vs ep rs size ts x y tx ty)
    hrg (by decide) (by simpa [Around.deeper] using hA) F1 N1' ⟨_, [], 0, _, Nat.ne_of_gt lu, rfl, trivial, rfl, rfl, rfl, rfl, rfl, rfl⟩ ?_ ?_
  · rintro I c t m₁ news₁ h₁ tk₁ hi zz0
    refine hid ?_; intro KK
    (rcases zz0 with ⟨u, us, e, t0, hul, rfl, hus, m1, m2, m3, m4, m5, m6⟩) <;> (k_unfold; clear KK)
    rintro F2 N2 hne
    have F3 := Fr.know F2 [("rows", .ref l), ("size", .int size ts), ("x", .int x tx), ("y", .int y ty), ("unions", .ref u), ("total", .int (rowTot rs size x y c) t0)] (by first | exact kn_cons m1 (kn_cons m2 (kn_cons m3 (kn_cons m4 (kn_cons m5 (kn_cons m6 (kn_nil)))))) | simp [m1, m2, m3, m4, m5, m6])
    clear F2 F1 N1 N1'
    first | (refine fold_F ?_; intro qk) | k_fold | skip
    k_steps
    unfold Hold
    refine wpAny_For ?_
    k_steps
    unfold Hold
    rename Fr _ _ _ _ => F4
    rename News _ _ _ _ => N4
    refine enum_start F4 N4 (.tail _ (.tail _ (.tail _ (.head _)))) fun e2 it o h5 F5 N5 ho hie hne5 => ?_
    clear F4 N4
    k_steps
    unfold Hold
    refine wpAny_pyIter_enum (N5 _ (.head _)).1 ?_
    have hlen : vs.length = rs.length := hv.length
    have q1 := hne5 _ (.tail _ (.tail _ (.tail _ (.head _))))
    have q2 := hne5 _ (.tail _ (.tail _ (.head _)))
    have q3 := hne5 _ (.tail _ (.head _))
    have qI := hne _ (.tail _ (.head _))
    refine for_it (iter_enum w _ _ _ e2 it l hie q1.1 q1.2 vs ep) (o, Value.none)
      (RowsJ l rs size ts x y tx ty I c u us e t t0)
      (by simpa [Around.deeper] using hA) ho F5 (news := [(I, rIter ((c + 1 : Nat) : Int) (16 - ((c + 1 : Nat) : Int))), (u, listOf us.toArray e)]) ?_ ?_ ?_ ?_ ?_
    · intro p hp
      refine N5 p ?_
      simp only [List.mem_cons, List.mem_append, List.not_mem_nil, or_false] at hp ⊢
      refine hid ?_; intro KK
      (rcases hp with (h | h | h) | h | h) <;> (k_unfold; clear KK)
      · exact .inl h
      · exact .inr (.inl h)
      · exact .inr (.inr (.inr (.inr (.inr h))))
      · exact .inr (.inr (.inr (.inl h)))
      · exact .inr (.inr (.inr (.inr (.inl h))))
    · intro p hp
      simp only [List.mem_cons, List.not_mem_nil, or_false] at hp ⊢
      refine hid ?_; intro KK
      (rcases hp with rfl | rfl) <;> (k_unfold; clear KK)
      · exact fun q => q.elim q3.1 fun q => q.elim q3.2 (Ne.symm qI)
      · exact fun q => q.elim q2.1 fun q => q.elim q2.2 hul
    · exact ⟨rfl, rfl, rfl, rfl, rfl, rfl, rfl, rfl, ⟨_, rfl⟩, _, rfl⟩
    · rintro i c2 v ex m₂ news₂ h₂ tk₂ hi2 zz0 zz1
      refine hid ?_; intro KK
      (rcases zz0 with ⟨TT, t1, xv, rfl, hxv, rfl⟩) <;> (rcases zz1 with ⟨rfl, n1, n2, n3, n4, n5, n6, n7, ⟨tu, n8⟩, tp, n9⟩) <;> (k_unfold; clear KK)
      rintro hc2 F6 N6 hdj hne6
      have F7 := Fr.know F6 [("rows", .ref l), ("size", .int size ts), ("x", .int x tx), ("y", .int y ty), ("unions", .ref u), ("total", .int (rowTot rs size x y c) t0), ("choice", .int c t), ("union", .int (upTo rs x c i).1 tu), ("price", .int (upTo rs x c i).2 tp)] (by first | exact kn_cons n1 (kn_cons n2 (kn_cons n3 (kn_cons n4 (kn_cons n5 (kn_cons n6 (kn_cons n7 (kn_cons n8 (kn_cons n9 (kn_nil))))))))) | simp [n1, n2, n3, n4, n5, n6, n7, n8, n9])
      clear F6 F5 N5
      simp only [List.cons_append, List.nil_append] at N6
      refine hid ?_; intro KK
      (obtain ⟨v', a, hv1, ha, ta, rfl⟩ := hv.get (i := i) (by omega)) <;> (k_unfold; clear KK)
      rw [hv1] at hxv
      cases hxv
      have hi4 : i ≤ 4 := by omega
      have hp2 : 2 ^ i ≤ 2 ^ 4 := Nat.pow_le_pow_right (by decide) hi4
      have hga : rs.getD i 0 = a := by rw [List.getD_eq_getElem?_getD, ha]; rfl
      first | (refine fold_F ?_; intro qk) | k_fold | skip
      k_steps
      unfold Hold
      refine pow_nat (a := 2) (i := i) (by decide) (by omega) (fun tP tkP => ?_)
      k_steps
      unfold Hold
      refine fdiv_nat (Nat.pow_pos (by decide)) (Nat.lt_of_le_of_lt hp2 (by decide)) (fun tD tkD => ?_)
      k_steps
      unfold Hold
      refine fmod_nat (b := 2) (by decide) (fun tM tkM => ?_)
      k_steps
      · rename (_ : Int) ≠ 0 => hb
        unfold Hold
        refine or_nat fun tO tkO => ?_
        k_steps
        rename Fr _ _ _ _ => F8
        rename News _ _ _ _ => N8
        have eU : upTo rs x c (i + 1) = ((upTo rs x c i).1 ||| a, (upTo rs x c i).2 * x) := by rw [upTo, if_neg (by omega), hga]
        refine ⟨_, _, _, _, rfl, F8, (fun p hp => N8 p (.tail _ (.tail _ hp))), hne6, rfl, rfl, rfl, rfl, rfl, rfl, rfl, rfl, ?_, ?_⟩
        · rw [eU]
          exact ⟨_, rfl⟩
        · rw [eU]
          exact ⟨_, rfl⟩
      · rename (_ : Int) = 0 => hb
        rename Fr _ _ _ _ => F8
        rename News _ _ _ _ => N8
        have eU : upTo rs x c (i + 1) = upTo rs x c i := by rw [upTo, if_pos (by omega)]
        refine ⟨_, _, _, _, rfl, F8, (fun p hp => N8 p (.tail _ hp)), hne6, rfl, rfl, rfl, rfl, rfl, rfl, rfl, rfl, ?_, ?_⟩
        · rw [eU]
          exact ⟨_, rfl⟩
        · rw [eU]
          exact ⟨_, rfl⟩
    · rintro m₂ news₂ h₂ tk₂ zz0
      refine hid ?_; intro KK
      (rcases zz0 with ⟨rfl, n1, n2, n3, n4, n5, n6, n7, ⟨tu, n8⟩, tp, n9⟩) <;> (k_unfold; clear KK)
      rintro F6 N6 hne6
      rw [hlen] at n8 n9
      have F7 := Fr.know F6 [("rows", .ref l), ("size", .int size ts), ("x", .int x tx), ("y", .int y ty), ("unions", .ref u), ("total", .int (rowTot rs size x y c) t0), ("choice", .int c t), ("union", .int (upTo rs x c rs.length).1 tu), ("price", .int (upTo rs x c rs.length).2 tp)] (by first | exact kn_cons n1 (kn_cons n2 (kn_cons n3 (kn_cons n4 (kn_cons n5 (kn_cons n6 (kn_cons n7 (kn_cons n8 (kn_cons n9 (kn_nil))))))))) | simp [n1, n2, n3, n4, n5, n6, n7, n8, n9])
      clear F6 F5 N5
      simp only [List.cons_append, List.nil_append] at N6
      have hfam := upTo_fam hr x c rs.length (Nat.le_refl _)
      have hsc := hsz c hi
      have hst := rowTot.eq_2 rs size x y c
      have hsu := rowUni.eq_2 rs x c
      generalize upTo rs x c rs.length = up at F7 hfam hsc hst hsu
      refine hid ?_; intro KK
      (obtain ⟨uu, pp⟩ := up) <;> (k_unfold; clear KK)
      dsimp only at F7 hfam hsc hst hsu
      first | (refine fold_F ?_; intro qk) | k_fold | skip
      k_steps
      unfold Hold
      refine use (rest := [(l, listOf vs.toArray ep), (I, rIter ((c + 1 : Nat) : Int) (16 - ((c + 1 : Nat) : Int))), (u, listOf us.toArray e)]) (flagsC w uu tu (hfam.lt hh)) F7 X T N6 (by simpa [Around.deeper] using hA) (fun _ h => nomatch h) (fun p hp => ⟨hp, fun h => nomatch h⟩) trivial (by simp only [Around.deeper]; omega) (by simp only [Around.deeper]; omega) ?_
      rintro r led' h3 tk3 zz0
      refine hid ?_; intro KK
      (rcases zz0 with ⟨rfl, tw, rfl⟩) <;> (k_unfold; clear KK)
      rintro F8 N8 -
      clear F7 N6
      simp only [List.nil_append] at N8
      refine hid ?_; intro KK
      (obtain ⟨S, hS, eS, hwd, hok, hpl⟩ := hfam.ok hh) <;> (k_unfold; clear KK)
      first | (refine fold_F ?_; intro qk) | k_fold | skip
      k_steps
      · rename (_ : Int) ≠ 0 => hb
        unfold Hold
        rename Fr _ _ _ _ => F9
        rename News _ _ _ _ => N9
        refine KSpl.split1 F9 N9 (by decide +kernel) (fun D ll h4 tk4 hll hlv F10 N10 hlt => ?_) (Nat.le_trans (Nat.add_le_add_right hpl 2) (Nat.le_of_ble_eq_true rfl))
        have hlen2 : (strValues ll).length = haveOf uu := by
          rw [haveOf, if_neg (by omega), words, ← hll]
          exact hlv.len_eq
        have hq : ll.length = haveOf uu := by rw [← hlen2]; simp [strValues]
        k_steps
        unfold Hold
        refine pow_int_small (by omega) (by omega) (by omega) ?_
        have hmul := pow_small hy (k := size - haveOf uu) (by omega) pp
        rw [show ((size : Int) - ll.length).toNat = size - haveOf uu from by omega]
        k_steps
        unfold Hold
        rename Fr _ _ _ _ => F11
        rename News _ _ _ _ => N11
        refine use (rest := [(I, rIter ((c + 1 : Nat) : Int) (16 - ((c + 1 : Nat) : Int))), (l, listOf vs.toArray ep)]) (keptK w Str (strKd w) lin_str u e us (rowUni rs x c) (pflags uu) _ hus ⟨hok, _, rfl⟩ (by have := rowUni_len rs x c; omega) (rowUni_sorted rs x c)) F11 X T N11 (by simpa [Around.deeper] using hA) ?_ ?_ trivial (by simp only [Around.deeper]; omega) (by simp only [Around.deeper]; omega) ?_
        · intro p hp
          rw [List.mem_singleton.mp hp]
          k_mem
        · intro p hp
          simp only [List.mem_cons, List.not_mem_nil, or_false] at hp
          refine hid ?_; intro KK
          (rcases hp with rfl | rfl) <;> (k_unfold; clear KK)
          · exact ⟨by k_mem, by simpa using Ne.symm (hne _ (.head _))⟩
          · exact ⟨by k_mem, by simpa using Ne.symm hul⟩
        · rintro r led' h12 tk12 zz0
          refine hid ?_; intro KK
          (rcases zz0 with ⟨rfl, us', e', rfl, hus'⟩) <;> (k_unfold; clear KK)
          rintro F12 N12 -
          first | (refine fold_F ?_; intro qk) | k_fold | skip
          k_steps
          rename Fr _ _ _ _ => F13
          rename News _ _ _ _ => N13
          rw [← hst] at F13
          replace hus' : Are (strKd w).is us' (rowUni rs x c.succ) := by rw [hsu]; exact hus'
          exact ⟨_, _, _, [(u, listOf us'.toArray e'), (l, listOf vs.toArray ep)], rfl, F13, (fun p hp => N13 p (by
            simp only [List.mem_cons, List.mem_append, List.not_mem_nil, or_false] at hp ⊢
            refine hid ?_; intro KK
            (rcases hp with h | h | h) <;> (k_unfold; clear KK)
            · exact .inr (.inl h)
            · exact .inl h
            · exact .inr (.inr h))), (by
            intro p hp
            simp only [List.mem_cons, List.not_mem_nil, or_false] at hp ⊢
            refine hid ?_; intro KK
            (rcases hp with rfl | rfl) <;> (k_unfold; clear KK)
            · exact hne (u, listOf us.toArray e) (.head _)
            · exact hne _ (.tail _ (.head _))), u, us', e', _, hul, rfl, hus', rfl, rfl, rfl, rfl, rfl, rfl⟩
      · rename (_ : Int) = 0 => hb
        have hq : 0 = haveOf uu := by rw [haveOf, if_pos (by omega)]
        k_steps
        unfold Hold
        refine pow_int_small (by omega) (by omega) (by omega) ?_
        have hmul := pow_small hy (k := size - haveOf uu) (by omega) pp
        rw [show ((size : Int) - 0).toNat = size - haveOf uu from by omega]
        k_steps
        unfold Hold
        rename Fr _ _ _ _ => F11
        rename News _ _ _ _ => N11
        refine use (rest := [(I, rIter ((c + 1 : Nat) : Int) (16 - ((c + 1 : Nat) : Int))), (l, listOf vs.toArray ep)]) (keptK w Str (strKd w) lin_str u e us (rowUni rs x c) (pflags uu) _ hus ⟨hok, _, rfl⟩ (by have := rowUni_len rs x c; omega) (rowUni_sorted rs x c)) F11 X T N11 (by simpa [Around.deeper] using hA) ?_ ?_ trivial (by simp only [Around.deeper]; omega) (by simp only [Around.deeper]; omega) ?_
        · intro p hp
          rw [List.mem_singleton.mp hp]
          k_mem
        · intro p hp
          simp only [List.mem_cons, List.not_mem_nil, or_false] at hp
          refine hid ?_; intro KK
          (rcases hp with rfl | rfl) <;> (k_unfold; clear KK)
          · exact ⟨by k_mem, by simpa using Ne.symm (hne _ (.head _))⟩
          · exact ⟨by k_mem, by simpa using Ne.symm hul⟩
        · rintro r led' h12 tk12 zz0
          refine hid ?_; intro KK
          (rcases zz0 with ⟨rfl, us', e', rfl, hus'⟩) <;> (k_unfold; clear KK)
          rintro F12 N12 -
          first | (refine fold_F ?_; intro qk) | k_fold | skip
          k_steps
          rename Fr _ _ _ _ => F13
          rename News _ _ _ _ => N13
          rw [← hst] at F13
          replace hus' : Are (strKd w).is us' (rowUni rs x c.succ) := by rw [hsu]; exact hus'
          exact ⟨_, _, _, [(u, listOf us'.toArray e'), (l, listOf vs.toArray ep)], rfl, F13, (fun p hp => N13 p (by
            simp only [List.mem_cons, List.mem_append, List.not_mem_nil, or_false] at hp ⊢
            refine hid ?_; intro KK
            (rcases hp with h | h | h) <;> (k_unfold; clear KK)
            · exact .inr (.inl h)
            · exact .inl h
            · exact .inr (.inr h))), (by
            intro p hp
            simp only [List.mem_cons, List.not_mem_nil, or_false] at hp ⊢
            refine hid ?_; intro KK
            (rcases hp with rfl | rfl) <;> (k_unfold; clear KK)
            · exact hne (u, listOf us.toArray e) (.head _)
            · exact hne _ (.tail _ (.head _))), u, us', e', _, hul, rfl, hus', rfl, rfl, rfl, rfl, rfl, rfl⟩
  · rintro m₁ news₁ h₁ tk₁ zz0
    refine hid ?_; intro KK
    (rcases zz0 with ⟨u, us, e, t0, hul, rfl, hus, m1, m2, m3, m4, m5, m6⟩) <;> (k_unfold; clear KK)
    rintro F2 N2
    have F3 := Fr.know F2 [("unions", .ref u), ("total", .int (rowTot rs size x y 16) t0)] (by first | exact kn_cons m5 (kn_cons m6 (kn_nil)) | simp [m5, m6])
    clear F2 F1 N1 N1'
    have hle : us.length = (rowUni rs x 16).length := hus.length
    first | (refine fold_F ?_; intro qk) | k_fold | skip
    k_steps
    rename Fr _ _ _ _ => F4
    rename News _ _ _ _ => N4
    refine wpAny_len_news N4 (.head _) (by simp only [List.size_toArray]; have := rowUni_len rs x 16; omega) fun tl tkl => ?_
    rw [List.size_toArray, hle]
    k_steps
    rename Fr _ _ _ _ => F5
    rename News _ _ _ _ => N5
    exact hret _ _ _ _ _ ⟨_, _, _, rfl, rfl⟩ F5 (fun p hp => N5 p (by
      refine hid ?_; intro KK
      (rcases List.mem_cons.mp hp with rfl | hp) <;> (k_unfold; clear KK)
      · exact .head _
      · exact .tail _ (.tail _ hp)))
end
/-- a written word: manner, word, name -/
noncomputable abbrev Wd := Nat × Str × Str
noncomputable def wchars (r : List Wd) : List Str := r.flatMap fun p => piece p.1 (signs p.2.1)
noncomputable def wnl : List Wd → Int
  | [] => 0
  | p :: r => (if p.1 = 2 then 1 else 0) + wnl r
theorem joinS_go (f : Str) : ∀ l : List Nat, ((l.map fun n => (⟨#[n]⟩ : Str)).foldl (fun a c => a ++ c) f) = ⟨f.cps ++ l.toArray⟩
  | [] => by simp
  | n :: r => by
    rw [List.map_cons, List.foldl_cons, joinS_go _ r]
    show (⟨(f.cps ++ #[n]) ++ r.toArray⟩ : Str) = _
    simp
theorem joinS_signs (x : Str) : joinS (signs x) = x := by
  unfold joinS signs
  rw [joinS_go]
  cases x
  show (⟨#[] ++ _⟩ : Str) = _
  simp
/-- one name seen at a place -/
noncomputable def addName (place : Nat) (NC : List Str × (Str → List Nat)) (nm : Str) : List Str × (Str → List Nat) :=
  if nm = Str.ofString "0x0" then NC else (keep ltStr nm NC.1, fun k => if k = nm then NC.2 nm ++ [place] else NC.2 k)
noncomputable def readRow (place : Nat) (r : List Wd) (NC : List Str × (Str → List Nat)) : List Str × (Str → List Nat) := (r.map fun p => p.2.2).foldl (addName place) NC
noncomputable def readAll : Nat → List (List Wd) → List Str × (Str → List Nat) → List Str × (Str → List Nat)
  | _, [], NC => NC
  | place, r :: rs, NC => readAll (place + 1) rs (readRow place r NC)
structure WdOk (p : Wd) : Prop where
  man : p.1 < 3
  ne : signs p.2.1 ≠ []
  al : ∀ c ∈ signs p.2.1, c ∈ alpha
  ok : PyData.strOk p.2.2 = true
  strip : Txt.rstripChars p.2.1 (Str.ofString ",") = p.2.2
section
variable {K : Type} [DecidableEq K] (k k' : K) (v : Value)
theorem find_map_ne (h : k' ≠ k) : ∀ kvs : List (K × Value), ((kvs.map fun kv => if kv.1 = k then (kv.1, v) else kv).find? fun kv => decide (kv.1 = k')).map (·.2) = (kvs.find? fun kv => decide (kv.1 = k')).map (·.2)
  | [] => rfl
  | p :: r => by
    rw [List.map_cons, List.find?_cons, List.find?_cons]
    by_cases hp : p.1 = k
    · have h1 : ¬ p.1 = k' := fun q => h (q.symm.trans hp)
      rw [if_pos hp]
      simp only [h1, decide_false]
      exact find_map_ne h r
    · rw [if_neg hp]
      by_cases hk : p.1 = k'
      · simp only [hk, decide_true]
      · simp only [hk, decide_false]
        exact find_map_ne h r
theorem find_map_eq : ∀ kvs : List (K × Value), (kvs.any fun kv => decide (kv.1 = k)) = true → ((kvs.map fun kv => if kv.1 = k then (kv.1, v) else kv).find? fun kv => decide (kv.1 = k)).map (·.2) = some v
  | [], h => by simp at h
  | p :: r, h => by
    rw [List.map_cons, List.find?_cons]
    by_cases hp : p.1 = k
    · rw [if_pos hp]
      simp only [hp, decide_true, Option.map_some]
    · rw [if_neg hp]
      simp only [hp, decide_false]
      exact find_map_eq r (by simpa [hp] using h)
theorem valueAt_stored (kvs : List (K × Value)) : valueAt (stored kvs k v) k' = if k' = k then some v else valueAt kvs k' := by
  unfold stored valueAt
  split
  · rename_i h
    by_cases hk : k' = k
    · refine hid ?_; intro KK
      (subst hk) <;> (k_unfold; clear KK)
      rw [if_pos rfl]
      exact find_map_eq k' v kvs h
    · rw [if_neg hk]
      exact find_map_ne k k' v hk kvs
  · rename_i h
    rw [List.find?_append]
    by_cases hk : k' = k
    · refine hid ?_; intro KK
      (subst hk) <;> (k_unfold; clear KK)
      have : kvs.find? (fun kv => decide (kv.1 = k')) = none := by
        rw [List.find?_eq_none]
        intro x hx
        simp only [List.any_eq_true, not_exists, not_and] at h
        exact h x hx
      rw [this]
      simp
    · rw [if_neg hk]
      have : ([(k, v)] : List (K × Value)).find? (fun kv => decide (kv.1 = k')) = none := by simp [Ne.symm hk]
      rw [this]
      simp
theorem stored_length (kvs : List (K × Value)) : (stored kvs k v).length ≤ kvs.length + 1 := by
  unfold stored
  split <;> simp
end
/-- the columns in the heap -/
noncomputable def ColsIs (w : World) (kvs : List (Str × Value)) (ls : List (Addr × Obj)) (C : Str → List Nat) : Prop :=
  ∀ k, match valueAt kvs k with
    | none => C k = []
    | some v => ∃ la vs e, v = .ref la ∧ (la, listOf vs.toArray e) ∈ ls ∧ Are (natKd w).is vs (C k)
theorem ColsIs.add {w : World} {kvs : List (Str × Value)} {ls : List (Addr × Obj)} {C : Str → List Nat} (h : ColsIs w kvs ls C) (nm : Str) (la : Addr) (vs : List Value) (e : Nat) (C' : List Nat) (ha : Are (natKd w).is vs C') :
    ColsIs w (stored kvs nm (.ref la)) ((la, listOf vs.toArray e) :: ls) (fun k => if k = nm then C' else C k) := by
  intro k
  have hk := h k
  rw [valueAt_stored]
  by_cases q : k = nm
  · refine hid ?_; intro KK
    (subst q) <;> (k_unfold; clear KK)
    rw [if_pos rfl]
    dsimp only
    rw [if_pos rfl]
    exact ⟨la, vs, e, rfl, .head _, ha⟩
  · rw [if_neg q]
    dsimp only
    rw [if_neg q]
    cases hv : valueAt kvs k with
    | none => rw [hv] at hk; exact hk
    | some v =>
      rw [hv] at hk
      refine hid ?_; intro KK
      (obtain ⟨la', vs', e', h1, h2, h3⟩ := hk) <;> (k_unfold; clear KK)
      exact ⟨la', vs', e', h1, .tail _ h2, h3⟩
example : True := by w_top off; exact trivial
noncomputable def lastComma (x : Str) : Bool := Txt.slice x (some (-1)) none == Str.ofString ","
noncomputable def RowT : List Wd → Prop
  | [] => True
  | p :: r => lastComma p.2.1 = (!r.isEmpty) ∧ p.2.1.length ≤ 1000 ∧ WdOk p ∧ RowT r
theorem piece_ne {m : Nat} {ws : List Str} (h : ∀ c ∈ ws, c ∈ alpha) : ∀ c ∈ piece m ws, c ≠ Str.ofString "" := by
  intro c hc
  have e : c ∈ ws ∨ c = Str.ofString " " ∨ c = Str.ofString "\"" ∨ c = Str.ofString "\\" ∨ c = Str.ofString "\n" := by
    unfold piece at hc
    split at hc
    · simp only [List.mem_append, List.mem_singleton] at hc
      refine hid ?_; intro KK
      (rcases hc with h | h) <;> (k_unfold; clear KK)
      · exact .inl h
      · exact .inr (.inl h)
    · split at hc
      · simp only [List.mem_cons, List.mem_append, List.not_mem_nil, or_false] at hc
        refine hid ?_; intro KK
        (rcases hc with h | h | h) <;> (k_unfold; clear KK)
        · exact .inr (.inr (.inl h))
        · exact .inl h
        · exact .inr (.inr (.inl h))
      · simp only [List.mem_cons, List.mem_append, List.not_mem_nil, or_false] at hc
        refine hid ?_; intro KK
        (rcases hc with h | h | h) <;> (k_unfold; clear KK)
        · exact .inr (.inr (.inr (.inl h)))
        · exact .inl h
        · exact .inr (.inr (.inr (.inr h)))
  refine hid ?_; intro KK
  (rcases e with h1 | rfl | rfl | rfl | rfl) <;> (k_unfold; clear KK)
  · exact (alpha_ok c (h c h1)).2.2.2.1
  all_goals decide +kernel
theorem wchars_ne : ∀ {r : List Wd}, RowT r → ∀ c ∈ wchars r, c ≠ Str.ofString ""
  | [], _, c, hc => nomatch hc
  | p :: r, ⟨_, _, hp, hr⟩, c, hc => by
    rw [wchars, List.flatMap_cons, List.mem_append] at hc
    refine hid ?_; intro KK
    (rcases hc with hc | hc) <;> (k_unfold; clear KK)
    · exact piece_ne hp.al c hc
    · exact wchars_ne hr c hc
theorem rows_ne {rs : List (List Wd)} (h : ∀ r ∈ rs, RowT r) : ∀ c ∈ rs.flatMap wchars, c ≠ Str.ofString "" := by
  intro c hc
  refine hid ?_; intro KK
  (obtain ⟨r, hr, hc⟩ := List.mem_flatMap.mp hc) <;> (k_unfold; clear KK)
  exact wchars_ne (h r hr) c hc
/-- names and columns after i rows -/
noncomputable def stAt (rs : List (List Wd)) : Nat → List Str × (Str → List Nat)
  | 0 => ([], fun _ => [])
  | i + 1 => readRow i (rs.getD i []) (stAt rs i)
noncomputable def nlAt (rs : List (List Wd)) : Nat → Int
  | 0 => 0
  | i + 1 => nlAt rs i + wnl (rs.getD i [])
/-- the objects of names and columns -/
structure RdS (w : World) (n : LX) (cd nl : Addr) (od : Obj) (nms : List Value) (ls : List (Addr × Obj)) (NC : List Str × (Str → List Nat)) (c : Nat) : Prop where
  kvs : ∃ kvs, Obj.IsDictOf (PySem.strKind pr w) od kvs ∧ ColsIs w kvs ls NC.2 ∧ kvs.length ≤ c
  len : NC.1.length ≤ c
  col : ∀ k, (NC.2 k).length ≤ c
  are : Are (strKd w).is nms NC.1
  srt : NC.1.Pairwise (fun a b => ltStr a b = true)
  cdm : (cd == sysModules) = false
  d1 : cd ≠ nl
  d2 : ∀ a ∈ n.addrs, a ≠ cd ∧ a ≠ nl
  d3 : ∀ p ∈ ls, p.1 ≠ cd ∧ p.1 ≠ nl ∧ p.1 ∉ n.addrs
noncomputable abbrev RdS.news (w : World) (n : LX) (cd nl : Addr) (od : Obj) (nms : List Value) (e : Nat) (ls : List (Addr × Obj)) (k : Int) (tk : Tok) (pe : Nat) (its : List Value) (se : Nat) : List (Addr × Obj) := (cd, od) :: (nl, listOf nms.toArray e) :: (n.led w k tk [] pe its se ++ ls)
theorem add_listsF {prog : Program} {w : World} {A : Around} {E : Value → Shared → Prop} {s : Shared} {h₀ : Heap} {L : Addr} {m : Str → Option Value} {news : List (Addr × Obj)} {l b : Addr} {vs ws : List Value} {e e2 : Nat} {Q : Value → Shared → Prop} (F : Fr h₀ L s.heap m) (N : News h₀ L s.heap news) (hl : (l, listOf vs.toArray e) ∈ news) (hb : (b, listOf ws.toArray e2) ∈ news)
    (hsz : vs.length + ws.length ≤ sizeLine) (h : ∀ c h', Fr h₀ L h' m → News h₀ L h' ((c, listOf (vs ++ ws).toArray 0) :: news) → (∀ p ∈ news, p.1 < c) → Q (.ref c) { s with heap := h' }) :
    wpAny (model prog w) A (binaryOp .Add (.ref l) (.ref b)) Q E s :=
  add_lists F N (News.isList N hl) (News.isList N hb) (fun h16 F16 N16 => h _ h16 F16 N16 fun p hp => Heap.lt_size (N p hp).1) (hsz := hsz)
section
local macro_rules | `(tactic| walk_at $s:str) => if ["subscriptTail Name Slice str ref", "compareOp NotEq str str"].contains s.getString then `(tactic| (refine hold_of ?_)) else Lean.Macro.throwUnsupported
local macro_rules | `(tactic| walk_at "compareOp Eq str str") => `(tactic| (refine eq_strB _ (by assumption) ?_))
local macro_rules | `(tactic| walk_at $s:str) => if ["pyIter ref", "exec For Name Call cons nil", "call builtin:str.rstrip", "call builtin:dict.get", "binaryOp Add ref ref", "setItem ref str"].contains s.getString then `(tactic| (refine hold_of ?_)) else Lean.Macro.throwUnsupported
inductive ReadI (w : World) (n : LX) (k : Int) (pe : Nat) (rs : List (List Wd)) (i : Nat) (m : Str → Option Value) (news : List (Addr × Obj)) : Prop
  | mk (cd nl : Addr) (od : Obj) (nms : List Value) (e : Nat) (ls : List (Addr × Obj)) (tk : Tok) (its : List Value) (se : Nat) (h1 : news = RdS.news w n cd nl od nms e ls (k + nlAt rs i) tk pe its se) (h2 : RdS w n cd nl od nms ls (stAt rs i) (100 * i)) (h3 : Lay its ((rs.drop i).flatMap wchars)) (h4 : m "line" = some (.ref n.ln)) (h5 : m "names" = some (.ref nl)) (h6 : m "columns" = some (.ref cd)) : ReadI w n k pe rs i m news
inductive ReadJ (w : World) (n : LX) (k : Int) (pe : Nat) (rs : List (List Wd)) (I cd nl : Addr) (i : Nat) (t : Tok) (j : Nat) (m : Str → Option Value) (news : List (Addr × Obj)) : Prop
  | mk (r' : List Wd) (od : Obj) (nms : List Value) (e : Nat) (ls : List (Addr × Obj)) (tk : Tok) (its : List Value) (se : Nat) (NC : List Str × (Str → List Nat)) (k2 : Int) (wv : Str) (tw : Tok) (c : Nat) (h1 : c + r'.length ≤ 100 * (i + 1)) (h2 : j = r'.length) (h3 : lastComma wv = (!r'.isEmpty)) (h4 : wv.length ≤ 1000) (h5 : RowT r') (h6 : (∀ p ∈ ls, p.1 ≠ I)) (h7 : news = (I, rIter ((i + 1 : Nat) : Int) ((4 : Nat) - ((i + 1 : Nat) : Int))) :: RdS.news w n cd nl od nms e ls k2 tk pe its se) (h8 : RdS w n cd nl od nms ls NC c) (h9 : readRow i r' NC = stAt rs (i + 1)) (h10 : k2 + wnl r' = k + nlAt rs (i + 1)) (h11 : Lay its (wchars r' ++ (rs.drop (i + 1)).flatMap wchars)) (h12 : m "line" = some (.ref n.ln)) (h13 : m "names" = some (.ref nl)) (h14 : m "columns" = some (.ref cd)) (h15 : m "place" = some (.int i t)) (h16 : m "word" = some (.str wv tw)) : ReadJ w n k pe rs I cd nl i t j m news
theorem readC (w : World) (n : LX) (k : Int) (tk0 : Tok) (pe : Nat) (its : List Value) (se : Nat) (t4 : Tok) (rs : List (List Wd)) (hO : n.Ok w) (h4 : rs.length = 4) (hy : Lay its (rs.flatMap wchars)) (hr : ∀ r ∈ rs, r ≠ [] ∧ r.length ≤ 100 ∧ RowT r) :
   Con w (.ref 110) [.ref n.ln, .int 4 t4] 14 130 (n.led w k tk0 [] pe its se) (fun _ => True) (fun h r led' => ∃ T cd nl od nms e ls tk its se, r = .ref T ∧ led' = (T, { cls := .type "tuple", data := .seq #[.ref nl, .ref cd] }) :: RdS.news w n cd nl od nms e ls (k + nlAt rs 4) tk pe its se ∧ RdS w n cd nl od nms ls (stAt rs 4) 400 ∧ Lay its [] ∧ (∀ q ∈ RdS.news w n cd nl od nms e ls (k + nlAt rs 4) tk pe its se, q.1 ≠ T)) := by
  refine' con_of [("line", .ref n.ln), ("many", .int 4 t4)] ?o ?c ?b ?lo ?c2 ?c3 ?c4 ?c5 ?_
  case o => k_is
  case c => k_is
  case b => intro S; exact rfl
  case lo => exact rfl
  case c2 => exact rfl
  case c3 => exact rfl
  case c4 => exact rfl
  case c5 => decide
  intro A g L' h₁ tk hp0 gs dr os mean mg mb R hA hd hu F N X T hpre hk hlt hret
  first | (refine fold_F ?_; intro qk) | k_fold | skip
  k_steps
  unfold Hold
  refine wpAny_For ?_
  k_steps
  unfold Hold
  rename Fr _ _ _ _ => F1
  rename News _ _ _ _ => N1
  rename IsRange _ _ _ _ _ _ _ _ => hrg
  rename Obj.IsDictOf (PySem.strKind _ _) _ _ => hdict
  rename (_ == sysModules) = false => hcdm
  have N1' := (fun p hp => N1 p (List.Mem.tail _ hp) : News g L' _ _)
  refine for_range 4 (ReadI w n k pe rs)
    hrg (by decide) (by simpa [Around.deeper] using hA) F1 N1' ?_ ?_ ?_
  · rename n.pb < _ ∧ _ => la1
    rename _ < _ ∧ n.pb < _ ∧ _ => la2
    refine ⟨_, _, _, [], 0, [], tk0, its, se, by rw [nlAt, Int.add_zero]; rfl, { kvs := ⟨[], hdict, fun _ => rfl, Nat.zero_le _⟩, len := Nat.zero_le _, col := fun _ => Nat.zero_le _, are := trivial, srt := .nil, cdm := hcdm, d1 := Nat.ne_of_gt la2.1, d2 := ?_, d3 := fun _ h => nomatch h }, hy, rfl, rfl, rfl⟩
    refine hid ?_; intro KK
    (obtain ⟨_, _, _, _, _, _, _, _, _, _, _⟩ := la1) <;> (k_unfold; clear KK)
    refine hid ?_; intro KK
    (obtain ⟨_, _, _, _, _, _, _, _, _, _, _, _⟩ := la2) <;> (k_unfold; clear KK)
    intro a ha
    simp only [LX.addrs, List.mem_cons, List.not_mem_nil, or_false] at ha
    refine hid ?_; intro KK
    (rcases ha with rfl | rfl | rfl | rfl | rfl | rfl | rfl | rfl | rfl | rfl | rfl) <;> (k_unfold; clear KK)
    all_goals exact ⟨Nat.ne_of_lt (by assumption), Nat.ne_of_lt (by assumption)⟩
  · rintro I i t m₁ news₁ h₁ tk₁ hi zz0
    refine hid ?_; intro KK
    (rcases zz0 with ⟨cd, nl, od, nms, e, ls, tk1, its1, se1, rfl, hS, hy1, m1, m2, m3⟩) <;> (k_unfold; clear KK)
    rintro F2 N2 hne
    have F3 := Fr.know F2 [("line", .ref n.ln), ("names", .ref nl), ("columns", .ref cd)] (by first | exact kn_cons m1 (kn_cons m2 (kn_cons m3 (kn_nil))) | simp [m1, m2, m3])
    clear F2 F1 N1 N1'
    first | (refine fold_F ?_; intro qk) | k_fold | skip
    k_steps
    unfold Hold
    rename Fr _ _ _ _ => F4
    rename News _ _ _ _ => N4
    refine While_inv2 (ReadJ w n k pe rs I cd nl i t) F4 N4 (n₀ := (rs.getD i []).length) ?_ ?_ PassesOwn.never
    · have hgi : rs[i]? = some (rs.getD i []) := by rw [List.getD_eq_getElem?_getD, List.getElem?_eq_getElem (by omega)]; rfl
      have hmi := List.mem_of_getElem? hgi
      refine hid ?_; intro KK
      (obtain ⟨hr1, hr2, hr3⟩ := hr _ hmi) <;> (k_unfold; clear KK)
      have hdi : rs.drop i = rs.getD i [] :: rs.drop (i + 1) := by
        rw [List.drop_eq_getElem_cons (by omega)]
        congr 1
        rw [List.getD_eq_getElem?_getD, List.getElem?_eq_getElem (by omega)]; rfl
      refine ⟨rs.getD i [], od, nms, e, ls, tk1, its1, se1, stAt rs i, k + nlAt rs i, _, _, 100 * i, by omega, rfl, ?_, ?_, hr3, ?_, rfl, hS, rfl, ?_, ?_, rfl, rfl, rfl, rfl, rfl⟩
      · rw [show lastComma (Str.ofString ",") = true from by decide +kernel]
        cases hq : rs.getD i [] with
        | nil => exact absurd hq hr1
        | cons => rfl
      · decide +kernel
      · intro q hq
        exact hne q (.tail _ (.tail _ (List.mem_append_right (n.led w (k + nlAt rs i) tk1 [] pe its1 se1) hq)))
      · rw [nlAt, Int.add_assoc]
      · rw [hdi, List.flatMap_cons] at hy1
        exact hy1
    · clear F4 N4
      rintro j m₂ news₂ h₂ tk₂ F5 N5 zz0
      refine hid ?_; intro KK
      (rcases zz0 with ⟨r', od2, nms2, e2, ls2, tk2, its2, se2, NC, k2, wv, tw, cc, hcc, rfl, hlc, hwl, hrt, hI, rfl, hS2, hrow, hk2, hy2, n1, n2, n3, n4, n5⟩) <;> (k_unfold; clear KK)
      have F6 := Fr.know F5 [("line", .ref n.ln), ("names", .ref nl), ("columns", .ref cd), ("place", .int i t), ("word", .str wv tw)] (by first | exact kn_cons n1 (kn_cons n2 (kn_cons n3 (kn_cons n4 (kn_cons n5 (kn_nil))))) | simp [n1, n2, n3, n4, n5])
      clear F5
      first | (refine fold_F ?_; intro qk) | k_fold | skip
      k_steps
      unfold Hold
      refine slice_strN_sn (s := ⟨_, _, _, _, _⟩) F6 N5 (fun h7 t7 k7 F7 N7 => ?_) (hsz := Nat.le_trans hwl (Nat.le_of_ble_eq_true rfl))
      clear F6 N5
      unfold lastComma at hlc
      cases r' with
      | nil =>
        have hlc2 : (Txt.slice wv (some (-1)) none == Str.ofString ",") = false := hlc
        have hlen0 : wchars [] ++ (rs.drop (i + 1)).flatMap wchars = (rs.drop (i + 1)).flatMap wchars := rfl
        rw [hlen0] at hy2
        have hk3 : k2 = k + nlAt rs (i + 1) := by rw [← hk2]; simp [wnl]
        refine hid ?_; intro KK
        (subst hk3) <;> (k_unfold; clear KK)
        have hrow2 : NC = stAt rs (i + 1) := hrow
        refine hid ?_; intro KK
        (subst hrow2) <;> (k_unfold; clear KK)
        k_steps
        rename Fr _ _ _ _ => F8
        rename News _ _ _ _ => N8
        refine ⟨_, _, _, _, rfl, F8, N8, ?_, cd, nl, od2, nms2, e2, ls2, tk2, its2, se2, rfl, { hS2 with kvs := ?_, len := Nat.le_trans hS2.len (by simpa using hcc), col := fun k => Nat.le_trans (hS2.col k) (by simpa using hcc) }, hy2, rfl, rfl, rfl⟩
        · intro q hq
          rw [List.mem_singleton]
          refine hid ?_; intro KK
          (rcases List.mem_cons.mp hq with rfl | hq) <;> (k_unfold; clear KK)
          · exact hne (cd, od) (.head _)
          · refine hid ?_; intro KK
            (rcases List.mem_cons.mp hq with rfl | hq) <;> (k_unfold; clear KK)
            · exact hne (nl, listOf nms.toArray e) (.tail _ (.head _))
            · refine hid ?_; intro KK
              (rcases List.mem_append.mp hq with hq | hq) <;> (k_unfold; clear KK)
              · have ha : q.1 ∈ n.addrs := List.mem_map_of_mem (f := (·.1)) hq
                refine hid ?_; intro KK
                (obtain ⟨q', hq', e'⟩ := List.mem_map.mp (show q.1 ∈ (n.led w (k + nlAt rs i) tk1 [] pe its1 se1).map (·.1) from ha)) <;> (k_unfold; clear KK)
                rw [← e']
                exact hne q' (.tail _ (.tail _ (List.mem_append_left _ hq')))
              · exact hI q hq
        · refine hid ?_; intro KK
          (obtain ⟨kvs, x1, x2, x3⟩ := hS2.kvs) <;> (k_unfold; clear KK)
          exact ⟨kvs, x1, x2, Nat.le_trans x3 (by simpa using hcc)⟩
      | cons p r' =>
        have hlc2 : (Txt.slice wv (some (-1)) none == Str.ofString ",") = true := hlc
        refine hid ?_; intro KK
        (obtain ⟨hp1, hp2, hp3, hrt⟩ := hrt) <;> (k_unfold; clear KK)
        clear hlc
        dsimp only [RdS.news, LX.led, LX.fo, LX.strm, List.cons_append, List.nil_append] at N7
        k_steps
        unfold Hold
        rename Fr _ _ _ _ => F8
        rename News _ _ _ _ => N8
        have hneI : ∀ a ∈ n.addrs, I ≠ a := by
          intro a ha
          refine hid ?_; intro KK
          (obtain ⟨q, hq, e⟩ := List.mem_map.mp (show a ∈ (n.led w (k + nlAt rs i) tk1 [] pe its1 se1).map (·.1) from ha)) <;> (k_unfold; clear KK)
          exact fun x => hne q (.tail _ (.tail _ (List.mem_append_left _ hq))) (e.trans x.symm)
        obtain ⟨c0, cs0, hsg⟩ : ∃ c cs, signs p.2.1 = c :: cs := by
          cases q : signs p.2.1 with
          | nil => exact absurd q hp3.ne
          | cons c cs => exact ⟨c, cs, rfl⟩
        have hwc : wchars (p :: r') ++ (rs.drop (i + 1)).flatMap wchars = piece p.1 (c0 :: cs0) ++ (wchars r' ++ (rs.drop (i + 1)).flatMap wchars) := by
          rw [wchars, List.flatMap_cons, hsg, List.append_assoc]; rfl
        rw [hwc] at hy2
        refine use (rest := (I, rIter ((i + 1 : Nat) : Int) ((4 : Nat) - ((i + 1 : Nat) : Int))) :: (cd, od2) :: (nl, listOf nms2.toArray e2) :: ls2)
          (getTok w n k2 tk2 pe its2 se2 _ p.2.1 (if p.1 = 2 then 1 else 0) (wchars r' ++ (rs.drop (i + 1)).flatMap wchars) hO hy2 ?_ (.inr ⟨p.1, c0, cs0, hp3.man, by rw [← hsg]; exact hp3.al, rfl, by rw [← hsg, joinS_signs], rfl⟩)) F8 X T N8 (by simpa [Around.deeper] using hA) ?_ ?_ trivial (by simp only [Around.deeper]; omega) (by simp only [Around.deeper]; omega) ?_
        · intro c hc
          refine hid ?_; intro KK
          (rcases List.mem_append.mp hc with hc | hc) <;> (k_unfold; clear KK)
          · exact piece_ne (by rw [← hsg]; exact hp3.al) c hc
          · refine hid ?_; intro KK
            (rcases List.mem_append.mp hc with hc | hc) <;> (k_unfold; clear KK)
            · exact wchars_ne hrt c hc
            · exact rows_ne (fun r hr' => (hr r (List.mem_of_mem_drop hr')).2.2) c hc
        · intro q hq
          exact .tail _ (.tail _ (.tail _ (List.mem_append_left _ hq)))
        · intro q hq
          refine hid ?_; intro KK
          (rcases List.mem_cons.mp hq with rfl | hq) <;> (k_unfold; clear KK)
          · exact ⟨.head _, fun x => hneI _ x rfl⟩
          · refine hid ?_; intro KK
            (rcases List.mem_cons.mp hq with rfl | hq) <;> (k_unfold; clear KK)
            · exact ⟨.tail _ (.head _), fun x => (hS2.d2 _ x).1 rfl⟩
            · refine hid ?_; intro KK
              (rcases List.mem_cons.mp hq with rfl | hq) <;> (k_unfold; clear KK)
              · exact ⟨.tail _ (.tail _ (.head _)), fun x => (hS2.d2 _ x).2 rfl⟩
              · exact ⟨.tail _ (.tail _ (.tail _ (List.mem_append_right (n.led w k2 tk2 [] pe its2 se2) hq))), (hS2.d3 q hq).2.2⟩
        · rintro r led' h9 tk9 zz0
          refine hid ?_; intro KK
          (rcases zz0 with ⟨t9, tk3, its3, se3, rfl, rfl, hy3⟩) <;> (k_unfold; clear KK)
          rintro F9 N9 -
          clear F8 N8
          have N10 : News g L' h9 ((I, rIter ((i + 1 : Nat) : Int) ((4 : Nat) - ((i + 1 : Nat) : Int))) :: RdS.news w n cd nl od2 nms2 e2 ls2 (k2 + if p.1 = 2 then 1 else 0) tk3 pe its3 se3) := fun q hq => N9 q (by
            refine hid ?_; intro KK
            (rcases List.mem_cons.mp hq with rfl | hq) <;> (k_unfold; clear KK)
            · exact List.mem_append_right _ (.head _)
            · refine hid ?_; intro KK
              (rcases List.mem_cons.mp hq with rfl | hq) <;> (k_unfold; clear KK)
              · exact List.mem_append_right _ (.tail _ (.head _))
              · refine hid ?_; intro KK
                (rcases List.mem_cons.mp hq with rfl | hq) <;> (k_unfold; clear KK)
                · exact List.mem_append_right _ (.tail _ (.tail _ (.head _)))
                · refine hid ?_; intro KK
                  (rcases List.mem_append.mp hq with hq | hq) <;> (k_unfold; clear KK)
                  · exact List.mem_append_left _ hq
                  · exact List.mem_append_right _ (.tail _ (.tail _ (.tail _ hq))))
          clear N9
          first | (refine fold_F ?_; intro qk) | k_fold | skip
          k_steps
          unfold Hold
          refine SCL.rstripChars (fun t10 tk10 _ => ?_) (Nat.le_trans hp2 (Nat.le_of_ble_eq_true rfl))
          rw [hp3.strip]
          k_steps
          unfold Hold
          have hnext : readRow i (p :: r') NC = readRow i r' (addName i NC p.2.2) := rfl
          have hwnl : k2 + wnl (p :: r') = k2 + (if p.1 = 2 then 1 else 0) + wnl r' := by rw [wnl]; omega
          by_cases hz : p.2.2 = Str.ofString "0x0"
          · refine PyProof.Rows.ne_str ?_
            rw [show (p.2.2 != Str.ofString "0x0") = false from by rw [hz]; decide +kernel]
            have hadd : addName i NC p.2.2 = NC := if_pos hz
            rw [hnext, hadd] at hrow
            rw [hwnl] at hk2
            k_steps
            rename Fr _ _ _ _ => F11
            rename News _ _ _ _ => N11
            exact ⟨_, _, _, _, _, rfl, F11, N11, Nat.lt_succ_self _, r', od2, nms2, e2, ls2, tk3, its3, se3, NC, _, p.2.1, t9, cc, by rw [List.length_cons] at hcc; omega, rfl, hp1, hp2, hrt, hI, rfl, hS2, hrow, hk2, hy3, rfl, rfl, rfl, rfl, rfl⟩
          · refine PyProof.Rows.ne_str ?_
            rw [show (p.2.2 != Str.ofString "0x0") = true from bne_iff_ne.mpr hz]
            have hadd : addName i NC p.2.2 = (keep ltStr p.2.2 NC.1, fun k => if k = p.2.2 then NC.2 p.2.2 ++ [i] else NC.2 k) := if_neg hz
            refine hid ?_; intro KK
            (obtain ⟨kvs, hdd, hcols, hkl⟩ := hS2.kvs) <;> (k_unfold; clear KK)
            have hlen3 := hS2.len
            rw [List.length_cons] at hcc
            rw [hnext, hadd] at hrow
            rw [hwnl] at hk2
            k_steps
            unfold Hold
            rename Fr _ _ _ _ => F11
            rename News _ _ _ _ => N11
            refine use (rest := (I, rIter ((i + 1 : Nat) : Int) ((4 : Nat) - ((i + 1 : Nat) : Int))) :: (cd, od2) :: (n.led w (k2 + if p.1 = 2 then 1 else 0) tk3 [] pe its3 se3 ++ ls2)) (keptK w Str (strKd w) lin_str nl e2 nms2 NC.1 p.2.2 _ hS2.are ⟨hp3.ok, _, rfl⟩ (by omega) hS2.srt) F11 X T N11 (by simpa [Around.deeper] using hA) ?_ ?_ trivial (by simp only [Around.deeper]; omega) (by simp only [Around.deeper]; omega) ?_
            · intro q hq
              rw [List.mem_singleton.mp hq]
              exact .tail _ (.tail _ (.head _))
            · intro q hq
              have hx : q ∈ (I, rIter ((i + 1 : Nat) : Int) ((4 : Nat) - ((i + 1 : Nat) : Int))) :: RdS.news w n cd nl od2 nms2 e2 ls2 (k2 + if p.1 = 2 then 1 else 0) tk3 pe its3 se3 ∧ q.1 ≠ nl := by
                refine hid ?_; intro KK
                (rcases List.mem_cons.mp hq with rfl | hq) <;> (k_unfold; clear KK)
                · exact ⟨.head _, fun x => hne (nl, listOf nms.toArray e) (.tail _ (.head _)) x.symm⟩
                · refine hid ?_; intro KK
                  (rcases List.mem_cons.mp hq with rfl | hq) <;> (k_unfold; clear KK)
                  · exact ⟨.tail _ (.head _), hS2.d1⟩
                  · refine ⟨.tail _ (.tail _ (.tail _ hq)), ?_⟩
                    refine hid ?_; intro KK
                    (rcases List.mem_append.mp hq with hq | hq) <;> (k_unfold; clear KK)
                    · exact (hS2.d2 _ (List.mem_map_of_mem (f := (·.1)) hq)).2
                    · exact (hS2.d3 q hq).2.1
              exact ⟨hx.1, by simpa using hx.2⟩
            · rintro r led' h12 tk12 zz0
              refine hid ?_; intro KK
              (rcases zz0 with ⟨rfl, nms3, e3, rfl, hare⟩) <;> (k_unfold; clear KK)
              rintro F12 N12 -
              clear F11 N11
              have N13 : News g L' h12 ((I, rIter ((i + 1 : Nat) : Int) ((4 : Nat) - ((i + 1 : Nat) : Int))) :: RdS.news w n cd nl od2 nms3 e3 ls2 (k2 + if p.1 = 2 then 1 else 0) tk3 pe its3 se3) := fun q hq => N12 q (by
                refine hid ?_; intro KK
                (rcases List.mem_cons.mp hq with rfl | hq) <;> (k_unfold; clear KK)
                · exact .tail _ (.head _)
                · refine hid ?_; intro KK
                  (rcases List.mem_cons.mp hq with rfl | hq) <;> (k_unfold; clear KK)
                  · exact .tail _ (.tail _ (.head _))
                  · refine hid ?_; intro KK
                    (rcases List.mem_cons.mp hq with rfl | hq) <;> (k_unfold; clear KK)
                    · exact .head _
                    · exact .tail _ (.tail _ (.tail _ hq)))
              clear N12
              first | (refine fold_F ?_; intro qk) | k_fold | skip
              k_steps
              refine kdg_method N13 (.tail _ (.head _)) hdd ?_
              k_steps
              unfold Hold
              rename Fr _ _ _ _ => F14
              rename News _ _ _ _ => N14
              refine kdg_get2 N14 (.tail _ (.tail _ (.head _))) hdd hS2.cdm (strKind_is _ _ _ _) _ rfl ?_
              rename_i lE hE l1E
              obtain ⟨la, vs1, e1, hv, hvm, hva⟩ : ∃ la vs e, (valueAt kvs p.2.2).getD (.ref lE) = .ref la ∧ (la, listOf vs.toArray e) ∈ (lE, listOf #[] 0) :: (I, rIter ((i + 1 : Nat) : Int) ((4 : Nat) - ((i + 1 : Nat) : Int))) :: RdS.news w n cd nl od2 nms3 e3 ls2 (k2 + if p.1 = 2 then 1 else 0) tk3 pe its3 se3 ∧ Are (natKd w).is vs (NC.2 p.2.2) := by
                have hck := hcols p.2.2
                cases hv : valueAt kvs p.2.2 with
                | none =>
                  rw [hv] at hck
                  exact ⟨lE, [], 0, rfl, .head _, by rw [show NC.2 p.2.2 = [] from hck]; trivial⟩
                | some v =>
                  rw [hv] at hck
                  refine hid ?_; intro KK
                  (obtain ⟨la, vs, e, rfl, hm, ha⟩ := hck) <;> (k_unfold; clear KK)
                  exact ⟨la, vs, e, rfl, .tail _ (.tail _ (.tail _ (.tail _ (List.mem_append_right _ hm)))), ha⟩
              rw [hv]
              have hcl := hS2.col p.2.2
              have hvl := hva.length
              k_steps
              unfold Hold
              rename Fr _ _ _ _ => F15
              rename News _ _ _ _ => N15
              refine add_listsF F15 N15 (.tail _ hvm) (.head _) (by simp only [List.length_singleton, sizeLine]; omega) (fun ln h16 F16 N16 hlt16 => ?_)
              have N17 : News g L' h16 ((cd, od2) :: (ln, listOf (vs1 ++ [Value.int (i : Int) t]).toArray 0) :: (I, rIter ((i + 1 : Nat) : Int) ((4 : Nat) - ((i + 1 : Nat) : Int))) :: (nl, listOf nms3.toArray e3) :: (n.led w (k2 + if p.1 = 2 then 1 else 0) tk3 [] pe its3 se3 ++ ls2)) := fun q hq => N16 q (by
                refine hid ?_; intro KK
                (rcases List.mem_cons.mp hq with rfl | hq) <;> (k_unfold; clear KK)
                · exact .tail _ (.tail _ (.tail _ (.tail _ (.head _))))
                · refine hid ?_; intro KK
                  (rcases List.mem_cons.mp hq with rfl | hq) <;> (k_unfold; clear KK)
                  · exact .head _
                  · refine hid ?_; intro KK
                    (rcases List.mem_cons.mp hq with rfl | hq) <;> (k_unfold; clear KK)
                    · exact .tail _ (.tail _ (.tail _ (.head _)))
                    · exact .tail _ (.tail _ (.tail _ (.tail _ (.tail _ hq)))))
              have hfresh : ∀ q ∈ (I, rIter ((i + 1 : Nat) : Int) ((4 : Nat) - ((i + 1 : Nat) : Int))) :: RdS.news w n cd nl od2 nms3 e3 ls2 (k2 + if p.1 = 2 then 1 else 0) tk3 pe its3 se3, ln ≠ q.1 := fun q hq => Nat.ne_of_gt (hlt16 q (.tail _ (.tail _ hq)))
              have fI := hfresh _ (.head _)
              have fcd := hfresh _ (.tail _ (.head _))
              have fnl := hfresh _ (.tail _ (.tail _ (.head _)))
              have fad : ln ∉ n.addrs := fun ha => by
                refine hid ?_; intro KK
                (obtain ⟨q', hq', e'⟩ := List.mem_map.mp (show ln ∈ (n.led w (k2 + if p.1 = 2 then 1 else 0) tk3 [] pe its3 se3).map (·.1) from ha)) <;> (k_unfold; clear KK)
                exact hfresh q' (.tail _ (.tail _ (.tail _ (List.mem_append_left _ hq')))) e'.symm
              have hIcd : I ≠ cd := fun x => hne (cd, od) (.head _) x.symm
              clear F15 N15 N16 hfresh hlt16
              k_steps
              unfold Hold
              rename Fr _ _ _ _ => F17
              refine kda_set F17 N17 (UpdF.head ?_) hdd (strKind_is _ _ _ _) (by simp only [sizeLine]; omega) (fun h18 o18 F18 N18 hd18 => ?_)
              · intro q hq
                refine hid ?_; intro KK
                (rcases List.mem_cons.mp hq with rfl | hq) <;> (k_unfold; clear KK)
                · exact fcd
                · refine hid ?_; intro KK
                  (rcases List.mem_cons.mp hq with rfl | hq) <;> (k_unfold; clear KK)
                  · exact hIcd
                  · refine hid ?_; intro KK
                    (rcases List.mem_cons.mp hq with rfl | hq) <;> (k_unfold; clear KK)
                    · exact Ne.symm hS2.d1
                    · refine hid ?_; intro KK
                      (rcases List.mem_append.mp hq with hq | hq) <;> (k_unfold; clear KK)
                      · exact (hS2.d2 _ (List.mem_map_of_mem (f := (·.1)) hq)).1
                      · exact (hS2.d3 q hq).1
              · clear F17 N17
                k_steps
                rename Fr _ _ _ _ => F19
                rename News _ _ _ _ => N19
                refine ⟨_, _, _, _, _, rfl, F19, ?_, Nat.lt_succ_self _, r', o18, nms3, e3, (ln, listOf (vs1 ++ [Value.int (i : Int) t]).toArray 0) :: ls2, tk3, its3, se3, _, _, p.2.1, t9, cc + 1, by omega, rfl, hp1, hp2, hrt, ?_, rfl, ?_, hrow, hk2, hy3, rfl, rfl, rfl, rfl, rfl⟩
                · exact fun q hq => N19 q (by
                    refine hid ?_; intro KK
                    (rcases List.mem_cons.mp hq with rfl | hq) <;> (k_unfold; clear KK)
                    · exact .tail _ (.tail _ (.head _))
                    · refine hid ?_; intro KK
                      (rcases List.mem_cons.mp hq with rfl | hq) <;> (k_unfold; clear KK)
                      · exact .head _
                      · refine hid ?_; intro KK
                        (rcases List.mem_cons.mp hq with rfl | hq) <;> (k_unfold; clear KK)
                        · exact .tail _ (.tail _ (.tail _ (.head _)))
                        · refine hid ?_; intro KK
                          (rcases List.mem_append.mp hq with hq | hq) <;> (k_unfold; clear KK)
                          · exact .tail _ (.tail _ (.tail _ (.tail _ (List.mem_append_left _ hq))))
                          · refine hid ?_; intro KK
                            (rcases List.mem_cons.mp hq with rfl | hq) <;> (k_unfold; clear KK)
                            · exact .tail _ (.head _)
                            · exact .tail _ (.tail _ (.tail _ (.tail _ (List.mem_append_right (n.led w (k2 + if p.1 = 2 then 1 else 0) tk3 [] pe its3 se3) hq)))))
                · intro q hq
                  refine hid ?_; intro KK
                  (rcases List.mem_cons.mp hq with rfl | hq) <;> (k_unfold; clear KK)
                  · exact fI
                  · exact hI q hq
                · refine { hS2 with kvs := ⟨_, hd18, hcols.add p.2.2 ln _ 0 _ (hva.append ⟨⟨t, rfl⟩, trivial⟩), ?_⟩, len := ?_, col := ?_, are := hare, srt := keep_sorted lin_str hS2.srt, d3 := ?_ }
                  · have := stored_length p.2.2 (.ref ln) kvs
                    omega
                  · have := keep_length (lt := ltStr) p.2.2 NC.1
                    dsimp only
                    omega
                  · intro k
                    have := hS2.col k
                    dsimp only
                    split
                    · rw [List.length_append, List.length_singleton]; omega
                    · omega
                  · intro q hq
                    refine hid ?_; intro KK
                    (rcases List.mem_cons.mp hq with rfl | hq) <;> (k_unfold; clear KK)
                    · exact ⟨fcd, fnl, fad⟩
                    · exact hS2.d3 q hq
  · rintro m₁ news₁ h₁ tk₁ zz0
    refine hid ?_; intro KK
    (rcases zz0 with ⟨cd, nl, od, nms, e, ls, tk1, its1, se1, rfl, hS, hy1, m1, m2, m3⟩) <;> (k_unfold; clear KK)
    rintro F2 N2
    have F3 := Fr.know F2 [("line", .ref n.ln), ("names", .ref nl), ("columns", .ref cd)] (by first | exact kn_cons m1 (kn_cons m2 (kn_cons m3 (kn_nil))) | simp [m1, m2, m3])
    clear F2 F1 N1 N1'
    rw [List.drop_eq_nil_of_le (by omega), List.flatMap_nil] at hy1
    first | (refine fold_F ?_; intro qk) | k_fold | skip
    k_steps
    rename _ ∧ _ ∧ AllLt _ _ => l9
    rename Fr _ _ _ _ => F4
    rename News _ _ _ _ => N4
    refine hret _ _ _ _ _ ⟨_, cd, nl, od, nms, e, ls, tk1, its1, se1, rfl, rfl, hS, hy1, ?_⟩ F4 N4
    intro q hq
    refine hid ?_; intro KK
    (rcases List.mem_cons.mp hq with rfl | hq) <;> (k_unfold; clear KK)
    · exact Nat.ne_of_lt l9.1
    · refine hid ?_; intro KK
      (rcases List.mem_cons.mp hq with rfl | hq) <;> (k_unfold; clear KK)
      · exact Nat.ne_of_lt l9.2.1
      · exact Nat.ne_of_lt (kst_ltOf l9.2.2 q hq)
end
/-- a set of places as a sorted list -/
noncomputable def mlist (M : Nat) : List Nat := (List.range 4).filter fun i => M.testBit i
noncomputable abbrev ltN (a b : Nat) : Bool := decide (a < b)
noncomputable def pstr (p : Nat) : Str := Str.ofString (toString (p : Int))
noncomputable def digs (M : Nat) : Str := Txt.join (Str.ofString "") ((mlist M).map pstr)
theorem mlist_keep : ∀ M, M < 16 → ∀ c, c < 16 → (mlist c).foldl (fun a p => keep ltN p a) (mlist M) = mlist (M ||| c) := by decide +kernel
theorem mlist_sorted : ∀ M, M < 16 → (mlist M).Pairwise (fun a b => ltN a b = true) := by decide +kernel
theorem mlist_len : ∀ M, M < 16 → (mlist M).length ≤ 4 := by decide +kernel
theorem digs_ok : ∀ M, M < 16 → PyData.strOk (digs M) = true ∧ (digs M).length ≤ 4 := by decide +kernel
theorem digs_sum : ∀ M, M < 16 → (((mlist M).map pstr).map (·.length)).sum + ((mlist M).map pstr).length * (Str.ofString "").length ≤ 16777216 := by decide +kernel
theorem digs_inj : ∀ M, M < 16 → ∀ c, c < 16 → digs M = digs c → M = c := by decide +kernel
theorem pstr_ok : ∀ p, p < 4 → PyData.strOk (pstr p) = true ∧ (pstr p).length ≤ 1 := by decide +kernel
theorem mlist_lt {M p : Nat} (h : p ∈ mlist M) : p < 4 := by
  rw [mlist, List.mem_filter] at h
  simpa using h.1
noncomputable def nmStep (c : Nat) (y : Int) (q : List (Int × Nat)) : List (Int × Nat) := q.flatMap fun p => [p, (p.1 * y, p.2 ||| c)]
noncomputable def nmQ (y : Int) : List Nat → List (Int × Nat) → List (Int × Nat)
  | [], q => q
  | c :: cs, q => nmQ y cs (nmStep c y q)
theorem nmStep_length (c : Nat) (y : Int) : ∀ q, (nmStep c y q).length = 2 * q.length
  | [] => rfl
  | p :: q => by
    have := nmStep_length c y q
    rw [nmStep] at this ⊢
    rw [List.flatMap_cons, List.length_append, this]
    simp only [List.length_cons, List.length_nil]
    omega
theorem nmStep_lt {c : Nat} (hc : c < 16) (y : Int) {q : List (Int × Nat)} (h : ∀ p ∈ q, p.2 < 16) : ∀ p ∈ nmStep c y q, p.2 < 16 := by
  intro p hp
  refine hid ?_; intro KK
  (obtain ⟨p', hp', hm⟩ := List.mem_flatMap.mp hp) <;> (k_unfold; clear KK)
  refine hid ?_; intro KK
  (rcases List.mem_cons.mp hm with rfl | hm) <;> (k_unfold; clear KK)
  · exact h _ hp'
  · rw [List.mem_singleton.mp hm]
    exact Nat.or_lt_two_pow (n := 4) (h _ hp') hc
theorem nmQ_snoc (y : Int) (c : Nat) : ∀ cs q, nmQ y (cs ++ [c]) q = nmStep c y (nmQ y cs q)
  | [], _ => rfl
  | _ :: cs, q => nmQ_snoc y c cs _
theorem nmQ_lt (y : Int) : ∀ {cs : List Nat} {q : List (Int × Nat)}, (∀ c ∈ cs, c < 16) → (∀ p ∈ q, p.2 < 16) → ∀ p ∈ nmQ y cs q, p.2 < 16
  | [], _, _, h => h
  | c :: cs, _, hc, h => nmQ_lt (cs := cs) y (fun c' h' => hc c' (.tail _ h')) (nmStep_lt (hc c (.head _)) y h)
theorem nmQ_length (y : Int) : ∀ (cs : List Nat) (q : List (Int × Nat)), (nmQ y cs q).length = 2 ^ cs.length * q.length
  | [], q => by simp [nmQ]
  | c :: cs, q => by
    rw [nmQ, nmQ_length y cs, nmStep_length, List.length_cons, Nat.pow_succ, Nat.mul_assoc]
noncomputable def nmTot (x : Int) (q : List (Int × Nat)) : Int := q.foldl (fun t p => t + p.1 * (1 + x) ^ (4 - (mlist p.2).length)) 0
noncomputable def nmUni (q : List (Int × Nat)) : List Str := q.foldl (fun u p => keep ltStr (digs p.2) u) []
theorem foldl_take {α β : Type} (f : β → α → β) (b : β) (l : List α) (i : Nat) (a : α) (h : l[i]? = some a) : (l.take (i + 1)).foldl f b = f ((l.take i).foldl f b) a := by
  rw [List.take_add_one, h, List.foldl_append]; rfl
theorem nmUni_len (q : List (Int × Nat)) : (nmUni q).length ≤ q.length := by
  have : ∀ (q : List (Int × Nat)) (u : List Str), (q.foldl (fun u p => keep ltStr (digs p.2) u) u).length ≤ u.length + q.length
    := by
      intro q
      induction q with
      | nil => intro u; simp
      | cons p q ih =>
        intro u
        have h1 := ih (keep ltStr (digs p.2) u)
        have h2 := keep_length (lt := ltStr) (digs p.2) u
        rw [List.foldl_cons, List.length_cons]
        omega
  have h := this q []
  simpa [nmUni] using h
theorem nmUni_sorted (q : List (Int × Nat)) : (nmUni q).Pairwise (fun a b => ltStr a b = true) := by
  have : ∀ (q : List (Int × Nat)) (u : List Str), u.Pairwise (fun a b => ltStr a b = true) → (q.foldl (fun u p => keep ltStr (digs p.2) u) u).Pairwise (fun a b => ltStr a b = true) := by
    intro q
    induction q with
    | nil => intro u h; exact h
    | cons p q ih => intro u h; exact ih _ (keep_sorted lin_str h)
  exact this q [] .nil
theorem mfold_sorted (l : List Nat) (u : List Nat) (h : u.Pairwise (fun a b => ltN a b = true)) : (l.foldl (fun a p => keep ltN p a) u).Pairwise (fun a b => ltN a b = true) := by
  induction l generalizing u with
  | nil => exact h
  | cons p q ih => exact ih _ (keep_sorted lin_nat h)
theorem mfold_len (l : List Nat) (u : List Nat) : (l.foldl (fun a p => keep ltN p a) u).length ≤ u.length + l.length := by
  induction l generalizing u with
  | nil => simp
  | cons p q ih =>
    have h1 := ih (keep ltN p u)
    have h2 := keep_length (lt := ltN) p u
    rw [List.foldl_cons, List.length_cons]
    omega
/-- the queue in the heap -/
noncomputable def QIs (w : World) (ls : List (Addr × Obj)) : List Value → List (Int × Nat) → Prop
  | [], [] => True
  | v :: pv, p :: q => (∃ T a t vs e, v = .ref T ∧ (T, { cls := .type "tuple", data := .seq #[.int p.1 t, .ref a] }) ∈ ls ∧ (a, listOf vs.toArray e) ∈ ls ∧ Are (natKd w).is vs (mlist p.2)) ∧ QIs w ls pv q
  | _, _ => False
theorem QIs.mono {w : World} {ls ls' : List (Addr × Obj)} (h : ∀ p ∈ ls, p ∈ ls') : ∀ {pv : List Value} {q : List (Int × Nat)}, QIs w ls pv q → QIs w ls' pv q
  | [], [], x => x
  | v :: pv, p :: q, ⟨⟨T, a, t, vs, e, h1, h2, h3, h4⟩, x⟩ => ⟨⟨T, a, t, vs, e, h1, h _ h2, h _ h3, h4⟩, QIs.mono h x⟩
theorem QIs.snoc {w : World} {ls : List (Addr × Obj)} {v : Value} {p : Int × Nat} (h : ∃ T a t vs e, v = .ref T ∧ (T, { cls := .type "tuple", data := .seq #[.int p.1 t, .ref a] }) ∈ ls ∧ (a, listOf vs.toArray e) ∈ ls ∧ Are (natKd w).is vs (mlist p.2)) :
    ∀ {pv : List Value} {q : List (Int × Nat)}, QIs w ls pv q → QIs w ls (pv ++ [v]) (q ++ [p])
  | [], [], _ => ⟨h, trivial⟩
  | _ :: _, _ :: _, ⟨a, x⟩ => ⟨a, QIs.snoc h x⟩
theorem QIs.length {w : World} {ls : List (Addr × Obj)} : ∀ {pv : List Value} {q : List (Int × Nat)}, QIs w ls pv q → pv.length = q.length
  | [], [], _ => rfl
  | _ :: _, _ :: _, ⟨_, x⟩ => congrArg (· + 1) (QIs.length x)
theorem led_addr {w : World} {n : LX} {k : Int} {tk : Tok} {pv its : List Value} {pe se : Nat} {a : Addr} (ha : a ∈ n.addrs) : ∃ p ∈ n.led w k tk pv pe its se, p.1 = a := List.mem_map.mp (show a ∈ (n.led w k tk pv pe its se).map (·.1) from ha)
theorem led_mem {w : World} {n : LX} {k : Int} {tk : Tok} {pv its : List Value} {pe se : Nat} {p : Addr × Obj} (hp : p ∈ n.led w k tk pv pe its se) : p.1 ∈ n.addrs := List.mem_map_of_mem (f := (·.1)) hp
example : True := by w_top off; exact trivial
structure QS (w : World) (n : LX) (B : List (Addr × Obj)) (pv : List Value) (rest : List (Addr × Obj)) (q : List (Int × Nat)) : Prop where
  off : ∀ p ∈ rest, p.1 ∉ n.addrs
  base : ∀ p ∈ B, p ∈ rest
  que : QIs w rest pv q
theorem off_lt {w : World} {n : LX} {k : Int} {tk : Tok} {pv its : List Value} {pe se : Nat} {T : Addr} {r : List (Addr × Obj)} (h : AllLt T (n.led w k tk pv pe its se ++ r)) : T ∉ n.addrs := fun ha => by
  refine hid ?_; intro KK
  (obtain ⟨p, hp, e⟩ := led_addr (w := w) (k := k) (tk := tk) (pv := pv) (its := its) (pe := pe) (se := se) ha) <;> (k_unfold; clear KK)
  have := kst_ltOf h p (List.mem_append_left _ hp)
  rw [e] at this; exact Nat.lt_irrefl _ this
theorem for_list {w : World} {A : Around} {s : Shared} {g : Heap} {L l : Addr} {m : Str → Option Value} {news0 news : List (Addr × Obj)} {env : Env} {x : Str} {px : Pos} {body orelse : List Stmt} {Q : Flow → Shared → Prop} {E : Value → Shared → Prop} {vs : List Value} {ep : Nat}
    (J : Nat → (Str → Option Value) → List (Addr × Obj) → Prop) (hh : A.handled = none) (F : Fr g L s.heap m) (N : News g L s.heap news0) (hm : (l, listOf vs.toArray ep) ∈ news0) (hsub : ∀ p ∈ news, p ∈ news0) (hnl : ∀ p ∈ news, p.1 ≠ l) (h0 : J 0 m news)
    (step : ∀ I o i v m₁ news₁ h₁ tk₁, i < vs.length → vs[i]? = some v → J i m₁ news₁ → Fr g L h₁ m₁ → News g L h₁ ((I, o) :: (l, listOf vs.toArray ep) :: news₁) → (∀ p ∈ news₁, p.1 ≠ I ∧ p.1 ≠ l) →
      wpAny (model PySem.Challenge.rw_wn0058_01.row.prog w) A (assign (.Name x px) env v) (fun _ s₂ => wpAny (model PySem.Challenge.rw_wn0058_01.row.prog w) A (execs body env) (LStep g L s [I, l] [(I, o), (l, listOf vs.toArray ep)] (J (i + 1)) Q) (fun _ _ => False) s₂) (fun _ _ => False) { s with heap := h₁, toks := tk₁ })
    (done : ∀ m₁ news₁ h₁ tk₁, J vs.length m₁ news₁ → Fr g L h₁ m₁ → News g L h₁ ((l, listOf vs.toArray ep) :: news₁) → wpAny (model PySem.Challenge.rw_wn0058_01.row.prog w) A (execs orelse env) Q (fun _ _ => False) { s with heap := h₁, toks := tk₁ }) :
    wpAny (model PySem.Challenge.rw_wn0058_01.row.prog w) A (pyIter (.ref l)) (fun it s₂ => codeAny (model PySem.Challenge.rw_wn0058_01.row.prog w) A (.forLoop (.Name x px) it body orelse env) (fun r s' => match r with | .ok f => Q f s' | .error e => cameBackBy (model PySem.Challenge.rw_wn0058_01.row.prog w) A env E e s') s₂) (fun _ _ => False) s := by
  refine wpAny_pyIter_list (News.isList N hm) ?_
  have hlt : ∀ p ∈ news0, p.1 < s.heap.objs.size := fun p hp => Heap.lt_size (N p hp).1
  have N1 := News.push F N { cls := .type "list_iterator", data := .fields #[.ref l, .int 0 0] }
  refine for_it (iter_list w x px s.heap.objs.size l (Nat.ne_of_lt (hlt _ hm)) vs ep) { cls := .type "list_iterator", data := .fields #[.ref l, .int 0 0] } J hh ⟨rfl, rfl⟩ (F.push _) (news := news) ?_ ?_ h0 ?_ ?_
  · intro p hp
    refine N1 p ?_
    refine hid ?_; intro KK
    (rcases List.mem_cons.mp hp with rfl | hp) <;> (k_unfold; clear KK)
    · exact .head _
    · refine hid ?_; intro KK
      (rcases List.mem_cons.mp hp with rfl | hp) <;> (k_unfold; clear KK)
      · exact .tail _ hm
      · exact .tail _ (hsub p hp)
  · intro p hp q
    simp only [List.mem_cons, List.not_mem_nil, or_false] at q
    exact q.elim (Nat.ne_of_lt (hlt p (hsub p hp))) (hnl p hp)
  · rintro i o v ex m₁ news₁ h₁ tk₁ hi zz0
    refine hid ?_; intro KK
    (rcases zz0 with ⟨rfl, hv⟩) <;> (k_unfold; clear KK)
    rintro hJ _ F₁ N₁ _ hn₁
    exact step _ o i v m₁ news₁ h₁ tk₁ hi hv hJ F₁ N₁ (fun p hp => by simpa using hn₁ p hp)
  · intro m₁ news₁ h₁ tk₁ hJ F₁ N₁ _
    exact done m₁ news₁ h₁ tk₁ hJ F₁ N₁
section
local macro_rules | `(tactic| walk_at $s:str) => if ["pyIter ref", "call type:enumerate", "exec For Tuple Call cons nil", "exec For Name Call cons cons", "exec For Name Call cons nil", "exec For Name Subscript cons nil", "binaryOp Pow int int", "subscriptTail Name Name ref str", "eval ListComp", "call type:str", "call builtin:str.join", "call builtin:len"].contains s.getString then `(tactic| (refine hold_of ?_)) else Lean.Macro.throwUnsupported
local macro_rules | `(tactic| k_in) => `(tactic| first | with_reducible assumption | exact Frag.In.keeps (by with_reducible assumption) (Fr.keep (by with_reducible assumption)))
inductive NmsI (w : World) (n : LX) (k : Int) (tk0 : Tok) (its : List Value) (se : Nat) (nl cd : Addr) (od : Obj) (ls : List (Addr × Obj)) (cs : List Nat) (x y : Int) (tx ty : Tok) (i : Nat) (m : Str → Option Value) (news : List (Addr × Obj)) : Prop
  | mk (pv : List Value) (pe : Nat) (rest : List (Addr × Obj)) (h1 : news = n.led w k tk0 pv pe its se ++ rest) (h2 : QS w n ((cd, od) :: ls) pv rest (nmQ y (cs.take i) [(1, 0)])) (h3 : m "line" = some (.ref n.ln)) (h4 : m "names" = some (.ref nl)) (h5 : m "columns" = some (.ref cd)) (h6 : m "x" = some (.int x tx)) (h7 : m "y" = some (.int y ty)) : NmsI w n k tk0 its se nl cd od ls cs x y tx ty i m news
inductive NmsJ (w : World) (n : LX) (k : Int) (tk0 : Tok) (its : List Value) (se : Nat) (nl cd : Addr) (od : Obj) (nms : List Value) (e : Nat) (ls : List (Addr × Obj)) (e2 it : Addr) (i : Nat) (c : Obj × Value) (ci : Nat) (q0 : List (Int × Nat)) (x y : Int) (tx ty : Tok) (nm : Str) (tnm : Tok) (u : Nat) (m : Str → Option Value) (news : List (Addr × Obj)) : Prop
  | mk (pv : List Value) (pe : Nat) (rest : List (Addr × Obj)) (h1 : news = n.led w k tk0 pv pe its se ++ ((e2, enumObj it ((i + 1 : Nat) : Int) c.2) :: (it, c.1) :: (nl, listOf nms.toArray e) :: rest)) (h2 : QS w n ((cd, od) :: ls) pv rest (q0.drop u ++ nmStep ci y (q0.take u))) (h3 : (∀ p ∈ rest, p.1 ∉ [e2, it, nl])) (h4 : m "line" = some (.ref n.ln)) (h5 : m "names" = some (.ref nl)) (h6 : m "columns" = some (.ref cd)) (h7 : m "x" = some (.int x tx)) (h8 : m "y" = some (.int y ty)) (h9 : m "name" = some (.str nm tnm)) : NmsJ w n k tk0 its se nl cd od nms e ls e2 it i c ci q0 x y tx ty nm tnm u m news
inductive NmsU (w : World) (n : LX) (k : Int) (tk0 : Tok) (its : List Value) (se : Nat) (nl : Addr) (nms : List Value) (e : Nat) (rest : List (Addr × Obj)) (qf : List (Int × Nat)) (x : Int) (tx : Tok) (U : Addr) (u : Nat) (m : Str → Option Value) (news : List (Addr × Obj)) : Prop
  | mk (pv : List Value) (pe : Nat) (us : List Value) (eu : Nat) (t : Tok) (h1 : news = n.led w k tk0 pv pe its se ++ ((U, listOf us.toArray eu) :: (nl, listOf nms.toArray e) :: rest)) (h2 : QIs w rest pv (qf.drop u)) (h3 : Are (strKd w).is us (nmUni (qf.take u))) (h4 : m "line" = some (.ref n.ln)) (h5 : m "names" = some (.ref nl)) (h6 : m "x" = some (.int x tx)) (h7 : m "unions" = some (.ref U)) (h8 : m "total" = some (.int (nmTot x (qf.take u)) t)) : NmsU w n k tk0 its se nl nms e rest qf x tx U u m news
inductive NmsK (w : World) (n : LX) (nl cd : Addr) (x y : Int) (tx ty : Tok) (nm : Str) (tnm : Tok) (la b : Addr) (ci : Nat) (p : Int × Nat) (tp : Tok) (R0 : List (Addr × Obj)) (j : Nat) (m : Str → Option Value) (news : List (Addr × Obj)) : Prop
  | mk (us : List Value) (eu : Nat) (h1 : news = (b, listOf us.toArray eu) :: R0.filter (fun q => decide (q.1 ≠ la))) (h2 : Are (natKd w).is us (((mlist ci).take j).foldl (fun a p => keep ltN p a) (mlist p.2))) (h3 : m "line" = some (.ref n.ln)) (h4 : m "names" = some (.ref nl)) (h5 : m "columns" = some (.ref cd)) (h6 : m "x" = some (.int x tx)) (h7 : m "y" = some (.int y ty)) (h8 : m "name" = some (.str nm tnm)) (h9 : m "more" = some (.ref b)) (h10 : m "price" = some (.int p.1 tp)) : NmsK w n nl cd x y tx ty nm tnm la b ci p tp R0 j m news
theorem namesC (w : World) (n : LX) (k : Int) (tk0 : Tok) (pe : Nat) (its : List Value) (se : Nat) (nl cd : Addr) (od : Obj) (nms : List Value) (e : Nat) (ls : List (Addr × Obj)) (NC : List Str × (Str → List Nat)) (cs : List Nat) (x y : Int) (tx ty : Tok)
   (hO : n.Ok w) (hS : RdS w n cd nl od nms ls NC 400) (hcs : NC.1.map NC.2 = cs.map mlist) (hcne : ∀ nm ∈ NC.1, NC.2 nm ≠ []) (hc16 : ∀ c ∈ cs, c < 16) (hc4 : cs.length ≤ 4) (hx : -10 ≤ x ∧ x ≤ 10) (hy : -10 ≤ y ∧ y ≤ 10) :
   Con w (.ref 122) [.ref n.ln, .ref nl, .ref cd, .int x tx, .int y ty] 14 130 (RdS.news w n cd nl od nms e ls k tk0 pe its se) (fun _ => True) (fun h r led' => ∃ T t1 t2 pe', r = .ref T ∧
     led' = (T, { cls := .type "tuple", data := .seq #[.int (nmTot x (nmQ y cs [(1, 0)])) t1, .int (nmUni (nmQ y cs [(1, 0)])).length t2] }) :: (nl, listOf nms.toArray e) :: n.led w k tk0 [] pe' its se) := by
  refine' con_of [("line", .ref n.ln), ("names", .ref nl), ("columns", .ref cd), ("x", .int x tx), ("y", .int y ty)] ?o ?c ?b ?lo ?c2 ?c3 ?c4 ?c5 ?_
  case o => k_is
  case c => k_is
  case b => intro S; exact rfl
  case lo => exact rfl
  case c2 => exact rfl
  case c3 => exact rfl
  case c4 => exact rfl
  case c5 => decide
  intro A g L' h₁ tk hp0 gs dr os mean mg mb R hA hd hu F N X T hpre hk hlt hret
  have hlen : NC.1.length = cs.length := by have := congrArg List.length hcs; simpa using this
  have hnl : nms.length = cs.length := hS.are.length.trans hlen
  first | (refine fold_F ?_; intro qk) | k_fold | skip
  k_steps
  unfold Hold
  rename Fr _ _ _ _ => F1
  rename News _ _ _ _ => N1
  rename _ < _ ∧ cd < _ ∧ nl < _ ∧ AllLt _ _ => l1
  rename cd < _ ∧ nl < _ ∧ AllLt _ _ => l2
  rename_i a1 hA1 T1 hT1
  have oT := off_lt l1.2.2.2
  have oa := off_lt l2.2.2
  refine use (rest := (T1, { cls := .type "tuple", data := .seq #[.int 1 tk, .ref a1] }) :: (a1, listOf #[] 0) :: (cd, od) :: (nl, listOf nms.toArray e) :: ls) (pushC w n k tk0 _ [] pe its se hO (by simp)) F1 X T N1 (by simpa [Around.deeper] using hA) ?_ ?_ trivial (by simp only [Around.deeper]; omega) (by simp only [Around.deeper]; omega) ?_
  · intro q hq
    exact .tail _ (.tail _ (.tail _ (.tail _ (List.mem_append_left _ hq))))
  · intro q hq
    refine hid ?_; intro KK
    (rcases List.mem_cons.mp hq with rfl | hq) <;> (k_unfold; clear KK)
    · exact ⟨.head _, oT⟩
    · refine hid ?_; intro KK
      (rcases List.mem_cons.mp hq with rfl | hq) <;> (k_unfold; clear KK)
      · exact ⟨.tail _ (.head _), oa⟩
      · refine hid ?_; intro KK
        (rcases List.mem_cons.mp hq with rfl | hq) <;> (k_unfold; clear KK)
        · exact ⟨.tail _ (.tail _ (.head _)), fun x => (hS.d2 _ x).1 rfl⟩
        · refine hid ?_; intro KK
          (rcases List.mem_cons.mp hq with rfl | hq) <;> (k_unfold; clear KK)
          · exact ⟨.tail _ (.tail _ (.tail _ (.head _))), fun x => (hS.d2 _ x).2 rfl⟩
          · exact ⟨.tail _ (.tail _ (.tail _ (.tail _ (List.mem_append_right (n.led w k tk0 [] pe its se) hq)))), (hS.d3 q hq).2.2⟩
  · rintro r led' h2 tk2 zz0
    refine hid ?_; intro KK
    (rcases zz0 with ⟨rfl, rfl⟩) <;> (k_unfold; clear KK)
    rintro F2 N2 -
    clear F1 N1
    first | (refine fold_F ?_; intro qk) | k_fold | skip
    k_steps
    unfold Hold
    refine wpAny_For ?_
    k_steps
    unfold Hold
    rename Fr _ _ _ _ => F3
    rename News _ _ _ _ => N3
    refine enum_start F3 N3 (List.mem_append_right _ (.tail _ (.tail _ (.tail _ (.head _))))) fun e2 it o h5 F5 N5 ho hie hne5 => ?_
    clear F3 N3
    k_steps
    unfold Hold
    refine wpAny_pyIter_enum (N5 _ (.head _)).1 ?_
    have q1 := hne5 _ (List.mem_append_right _ (.tail _ (.tail _ (.tail _ (.head _)))))
    have hks : ∀ p ∈ n.led w k tk0 ([] ++ [Value.ref T1]) (pe + 1) its se ++ ((T1, { cls := .type "tuple", data := .seq #[.int 1 tk, .ref a1] }) :: (a1, listOf #[] 0) :: (cd, od) :: ls), p.1 ∉ [e2, it, nl] := by
      intro p hp hm
      simp only [List.mem_cons, List.not_mem_nil, or_false] at hm
      have hx : (p.1 ≠ e2 ∧ p.1 ≠ it) ∧ p.1 ≠ nl := by
        refine hid ?_; intro KK
        (rcases List.mem_append.mp hp with hp | hp) <;> (k_unfold; clear KK)
        · exact ⟨hne5 p (List.mem_append_left _ hp), (hS.d2 _ (led_mem hp)).2⟩
        · refine hid ?_; intro KK
          (rcases List.mem_cons.mp hp with rfl | hp) <;> (k_unfold; clear KK)
          · exact ⟨hne5 _ (List.mem_append_right _ (.head _)), Nat.ne_of_gt l1.2.2.1⟩
          · refine hid ?_; intro KK
            (rcases List.mem_cons.mp hp with rfl | hp) <;> (k_unfold; clear KK)
            · exact ⟨hne5 _ (List.mem_append_right _ (.tail _ (.head _))), Nat.ne_of_gt l2.2.1⟩
            · refine hid ?_; intro KK
              (rcases List.mem_cons.mp hp with rfl | hp) <;> (k_unfold; clear KK)
              · exact ⟨hne5 (cd, od) (List.mem_append_right _ (.tail _ (.tail _ (.head _)))), hS.d1⟩
              · exact ⟨hne5 p (List.mem_append_right _ (.tail _ (.tail _ (.tail _ (.tail _ hp))))), (hS.d3 p hp).2.1⟩
      refine hid ?_; intro KK
      (rcases hm with h | h | h) <;> (k_unfold; clear KK)
      · exact hx.1.1 h
      · exact hx.1.2 h
      · exact hx.2 h
    refine for_it (iter_enum w _ _ _ e2 it nl hie q1.1 q1.2 nms e) (o, Value.none)
      (NmsI w n k tk0 its se nl cd od ls cs x y tx ty)
      (by simpa [Around.deeper] using hA) ho F5 (news := n.led w k tk0 ([] ++ [Value.ref T1]) (pe + 1) its se ++ ((T1, { cls := .type "tuple", data := .seq #[.int 1 tk, .ref a1] }) :: (a1, listOf #[] 0) :: (cd, od) :: ls)) ?_ hks ?_ ?_ ?_
    · intro p hp
      refine N5 p ?_
      refine hid ?_; intro KK
      (rcases List.mem_cons.mp hp with rfl | hp) <;> (k_unfold; clear KK)
      · exact .head _
      · refine hid ?_; intro KK
        (rcases List.mem_cons.mp hp with rfl | hp) <;> (k_unfold; clear KK)
        · exact .tail _ (.head _)
        · refine hid ?_; intro KK
          (rcases List.mem_cons.mp hp with rfl | hp) <;> (k_unfold; clear KK)
          · exact .tail _ (.tail _ (List.mem_append_right _ (.tail _ (.tail _ (.tail _ (.head _))))))
          · refine .tail _ (.tail _ ?_)
            refine hid ?_; intro KK
            (rcases List.mem_append.mp (show p ∈ n.led w k tk0 ([] ++ [Value.ref T1]) (pe + 1) its se ++ _ from hp) with hp | hp) <;> (k_unfold; clear KK)
            · exact List.mem_append_left _ hp
            · refine List.mem_append_right _ ?_
              refine hid ?_; intro KK
              (rcases List.mem_cons.mp hp with rfl | hp) <;> (k_unfold; clear KK)
              · exact .head _
              · refine hid ?_; intro KK
                (rcases List.mem_cons.mp hp with rfl | hp) <;> (k_unfold; clear KK)
                · exact .tail _ (.head _)
                · refine hid ?_; intro KK
                  (rcases List.mem_cons.mp hp with rfl | hp) <;> (k_unfold; clear KK)
                  · exact .tail _ (.tail _ (.head _))
                  · exact .tail _ (.tail _ (.tail _ (.tail _ hp)))
    · refine ⟨_, _, _, rfl, { off := ?_, base := fun p hp => .tail _ (.tail _ hp), que := ⟨⟨T1, a1, tk, [], 0, rfl, .head _, .tail _ (.head _), trivial⟩, trivial⟩ }, rfl, rfl, rfl, rfl, rfl⟩
      intro p hp
      refine hid ?_; intro KK
      (rcases List.mem_cons.mp hp with rfl | hp) <;> (k_unfold; clear KK)
      · exact oT
      · refine hid ?_; intro KK
        (rcases List.mem_cons.mp hp with rfl | hp) <;> (k_unfold; clear KK)
        · exact oa
        · refine hid ?_; intro KK
          (rcases List.mem_cons.mp hp with rfl | hp) <;> (k_unfold; clear KK)
          · exact fun x => (hS.d2 _ x).1 rfl
          · exact (hS.d3 p hp).2.2
    · rintro i c v ex m₁ news₁ h₁ tk₁ hi zz0 zz1
      refine hid ?_; intro KK
      (rcases zz0 with ⟨TT, t1, xv, rfl, hxv, rfl⟩) <;> (rcases zz1 with ⟨pv, pe1, rest, rfl, hQ, m1, m2, m3, m4, m5⟩) <;> (k_unfold; clear KK)
      rintro hc F6 N6 hdj hne6
      refine opqF fun K1 hK1 => ?_
      have F7 := Fr.know F6 [("line", .ref n.ln), ("names", .ref nl), ("columns", .ref cd), ("x", .int x tx), ("y", .int y ty)] (by first | exact kn_cons m1 (kn_cons m2 (kn_cons m3 (kn_cons m4 (kn_cons m5 (kn_nil))))) | simp [m1, m2, m3, m4, m5])
      clear F6 F5 N5
      replace N6 : News g L' h₁ ((TT, { cls := .type "tuple", data := .seq #[.int i t1, xv] }) :: (e2, enumObj it ((i + 1 : Nat) : Int) c.2) :: (it, c.1) :: (nl, listOf nms.toArray e) :: (n.led w k tk0 pv pe1 its se ++ rest)) := N6
      refine hid ?_; intro KK
      (obtain ⟨v', nm, hv1, hnm, ⟨hok, tnm, rfl⟩⟩ := hS.are.get (i := i) (by omega)) <;> (k_unfold; clear KK)
      rw [hv1] at hxv
      cases hxv
      have hi4 : i ≤ 4 := by omega
      have hp2 : 2 ^ i ≤ 2 ^ 4 := Nat.pow_le_pow_right (by decide) hi4
      first | (refine fold_F ?_; intro qk) | k_fold | skip
      k_steps
      unfold Hold
      refine wpAny_For ?_
      k_steps
      unfold Hold
      refine pow_nat (a := 2) (i := i) (by decide) (by omega) (fun tP tkP => ?_)
      k_steps
      unfold Hold
      rename Fr _ _ _ _ => F8
      rename News _ _ _ _ => N8
      rename IsRange _ _ _ _ _ _ _ _ => hrg
      refine hid ?_; intro KK
      (obtain ⟨ci, hci⟩ : ∃ ci, cs[i]? = some ci := ⟨cs[i], List.getElem?_eq_getElem (by omega)⟩) <;> (k_unfold; clear KK)
      have hci16 := hc16 ci (List.mem_of_getElem? hci)
      have hcol : NC.2 nm = mlist ci := by
        have h1 := congrArg (fun l => l[i]?) hcs
        simp only [List.getElem?_map, hnm, hci, Option.map_some, Option.some.injEq] at h1
        exact h1
      have hq0 : ∀ p ∈ nmQ y (cs.take i) [(1, 0)], p.2 < 16 := nmQ_lt y (fun c hc => hc16 c (List.mem_of_mem_take hc)) (by simp)
      have hql : (nmQ y (cs.take i) [(1, 0)]).length = 2 ^ i := by rw [nmQ_length, List.length_take]; simp; congr 1; omega
      have hqn : nmQ y (cs.take (i + 1)) [(1, 0)] = nmStep ci y (nmQ y (cs.take i) [(1, 0)]) := by rw [List.take_add_one, hci]; exact nmQ_snoc y ci _ _
      generalize nmQ y (cs.take i) [(1, 0)] = q0 at hQ hq0 hql hqn ⊢
      refine for_range (2 ^ i) (NmsJ w n k tk0 its se nl cd od nms e ls e2 it i c ci q0 x y tx ty nm tnm)
        hrg (by omega) (by simpa [Around.deeper] using hA) F8 (news := n.led w k tk0 pv pe1 its se ++ ((e2, enumObj it ((i + 1 : Nat) : Int) c.2) :: (it, c.1) :: (nl, listOf nms.toArray e) :: rest)) ?_ ?_ ?_ ?_
      · intro p hp
        refine N8 p (.tail _ ?_)
        refine hid ?_; intro KK
        (rcases List.mem_append.mp hp with hp | hp) <;> (k_unfold; clear KK)
        · exact .tail _ (.tail _ (.tail _ (List.mem_append_left _ hp)))
        · refine hid ?_; intro KK
          (rcases List.mem_cons.mp hp with rfl | hp) <;> (k_unfold; clear KK)
          · exact .head _
          · refine hid ?_; intro KK
            (rcases List.mem_cons.mp hp with rfl | hp) <;> (k_unfold; clear KK)
            · exact .tail _ (.head _)
            · refine hid ?_; intro KK
              (rcases List.mem_cons.mp hp with rfl | hp) <;> (k_unfold; clear KK)
              · exact .tail _ (.tail _ (.head _))
              · exact .tail _ (.tail _ (.tail _ (List.mem_append_right _ hp)))
      · refine ⟨_, _, _, rfl, { hQ with que := ?_ }, fun p hp => hne6 p (List.mem_append_right (n.led w k tk0 pv pe1 its se) hp), rfl, rfl, rfl, rfl, rfl, rfl⟩
        simpa [nmStep] using hQ.que
      · rintro I u tu m₂ news₂ h₂ tk₂ hu2 zz0
        refine hid ?_; intro KK
        (rcases zz0 with ⟨pv2, pe2, rest1, rfl, hQ1, hof1, n1, n2, n3, n4, n5, n6⟩) <;> (k_unfold; clear KK)
        rintro F9 N9 hneI
        refine opqF fun K2 hK2 => ?_
        refine hid ?_; intro KK
        (obtain ⟨rest2, hrest⟩ : ∃ r, (e2, enumObj it ((i + 1 : Nat) : Int) c.2) :: (it, c.1) :: (nl, listOf nms.toArray e) :: rest1 = r := ⟨_, rfl⟩) <;> (k_unfold; clear KK)
        rw [hrest] at N9 hneI
        have hQ2 : QS w n ((e2, enumObj it ((i + 1 : Nat) : Int) c.2) :: (it, c.1) :: (nl, listOf nms.toArray e) :: (cd, od) :: ls) pv2 rest2 (q0.drop u ++ nmStep ci y (q0.take u)) := by
          refine hid ?_; intro KK
          (subst hrest) <;> (k_unfold; clear KK)
          refine { off := ?_, base := ?_, que := ?_ }
          · intro p hp
            refine hid ?_; intro KK
            (rcases List.mem_cons.mp hp with rfl | hp) <;> (k_unfold; clear KK)
            · intro ha
              refine hid ?_; intro KK
              (obtain ⟨q, hq, e⟩ := led_addr (w := w) (k := k) (tk := tk0) (pv := pv) (its := its) (pe := pe1) (se := se) ha) <;> (k_unfold; clear KK)
              exact hne6 q (List.mem_append_left _ hq) (by rw [e]; exact .head _)
            · refine hid ?_; intro KK
              (rcases List.mem_cons.mp hp with rfl | hp) <;> (k_unfold; clear KK)
              · intro ha
                refine hid ?_; intro KK
                (obtain ⟨q, hq, e⟩ := led_addr (w := w) (k := k) (tk := tk0) (pv := pv) (its := its) (pe := pe1) (se := se) ha) <;> (k_unfold; clear KK)
                exact hne6 q (List.mem_append_left _ hq) (by rw [e]; exact .tail _ (.head _))
              · refine hid ?_; intro KK
                (rcases List.mem_cons.mp hp with rfl | hp) <;> (k_unfold; clear KK)
                · exact fun x => (hS.d2 _ x).2 rfl
                · exact hQ1.off p hp
          · intro p hp
            refine hid ?_; intro KK
            (rcases List.mem_cons.mp hp with rfl | hp) <;> (k_unfold; clear KK)
            · exact .head _
            · refine hid ?_; intro KK
              (rcases List.mem_cons.mp hp with rfl | hp) <;> (k_unfold; clear KK)
              · exact .tail _ (.head _)
              · refine hid ?_; intro KK
                (rcases List.mem_cons.mp hp with rfl | hp) <;> (k_unfold; clear KK)
                · exact .tail _ (.tail _ (.head _))
                · exact .tail _ (.tail _ (.tail _ (hQ1.base p hp)))
          · exact QIs.mono (fun p hp => .tail _ (.tail _ (.tail _ hp))) hQ1.que
        have F10 := Fr.know F9 [("line", .ref n.ln), ("names", .ref nl), ("columns", .ref cd), ("x", .int x tx), ("y", .int y ty), ("name", .str nm tnm)] (by first | exact kn_cons n1 (kn_cons n2 (kn_cons n3 (kn_cons n4 (kn_cons n5 (kn_cons n6 (kn_nil)))))) | simp [n1, n2, n3, n4, n5, n6])
        clear F9 F8 N8
        refine hid ?_; intro KK
        (obtain ⟨p, hp⟩ : ∃ p, q0[u]? = some p := ⟨q0[u], List.getElem?_eq_getElem (by omega)⟩) <;> (k_unfold; clear KK)
        have hp16 := hq0 p (List.mem_of_getElem? hp)
        have hdr : q0.drop u = p :: q0.drop (u + 1) := by
          rw [List.drop_eq_getElem_cons (by omega)]
          congr 1
          have := List.getElem?_eq_getElem (l := q0) (i := u) (by omega)
          rw [this] at hp; exact Option.some.inj hp
        have htk : q0.take (u + 1) = q0.take u ++ [p] := by rw [List.take_add_one, hp]; rfl
        have hQ3 := hQ1.que
        rw [hdr, List.cons_append] at hQ3
        have hql2 := hQ2.que.length
        rw [List.length_append, nmStep_length, List.length_drop, List.length_take] at hql2
        obtain ⟨v, pv3, rfl⟩ : ∃ v pv3, pv2 = v :: pv3 := by
          cases pv2 with
          | nil => exact hQ3.elim
          | cons v r => exact ⟨v, r, rfl⟩
        refine hid ?_; intro KK
        (obtain ⟨⟨Tp, ap, tp, vsp, ep, rfl, hTp1, hap1, hvp⟩, hQ4⟩ := hQ3) <;> (k_unfold; clear KK)
        have hsub : ∀ q ∈ rest1, q ∈ rest2 := by
          refine hid ?_; intro KK
          (subst hrest) <;> (k_unfold; clear KK)
          exact fun q hq => .tail _ (.tail _ (.tail _ hq))
        have hTp := hsub _ hTp1
        have hap := hsub _ hap1
        have hl2 : (pv3.length) ≤ 100 := by rw [List.length_cons] at hql2; omega
        first | (refine fold_F ?_; intro qk) | k_fold | skip
        k_steps
        unfold Hold
        rename Fr _ _ _ _ => F11
        rename News _ _ _ _ => N11
        have hIo : I ∉ n.addrs := fun ha => by
          refine hid ?_; intro KK
          (obtain ⟨q, hq, e⟩ := led_addr (w := w) (k := k) (tk := tk0) (pv := Value.ref Tp :: pv3) (its := its) (pe := pe2) (se := se) ha) <;> (k_unfold; clear KK)
          exact hneI q (List.mem_append_left _ hq) e
        refine use (rest := (I, rIter ((u + 1 : Nat) : Int) ((2 ^ i : Nat) - ((u + 1 : Nat) : Int))) :: rest2) (getPushed w n k tk0 (.ref Tp) pv3 pe2 its se hO (by omega)) F11 X T N11 (by simpa [Around.deeper] using hA) ?_ ?_ trivial (by simp only [Around.deeper]; omega) (by simp only [Around.deeper]; omega) ?_
        · intro q hq; exact .tail _ (List.mem_append_left _ hq)
        · intro q hq
          refine hid ?_; intro KK
          (rcases List.mem_cons.mp hq with rfl | hq) <;> (k_unfold; clear KK)
          · exact ⟨.head _, hIo⟩
          · exact ⟨.tail _ (List.mem_append_right (n.led w k tk0 (Value.ref Tp :: pv3) pe2 its se) hq), hQ2.off q hq⟩
        · rintro r led' h12 tk12 zz0
          refine hid ?_; intro KK
          (rcases zz0 with ⟨rfl, rfl⟩) <;> (k_unfold; clear KK)
          rintro F12 N12 -
          clear F11 N11
          have N13 : News g L' h12 ((Tp, { cls := .type "tuple", data := .seq #[.int p.1 tp, .ref ap] }) :: (ap, listOf vsp.toArray ep) :: (n.led w k tk0 pv3 (pe2 + 1) its se ++ ((I, rIter ((u + 1 : Nat) : Int) ((2 ^ i : Nat) - ((u + 1 : Nat) : Int))) :: rest2))) := fun q hq => by
            refine hid ?_; intro KK
            (rcases List.mem_cons.mp hq with rfl | hq) <;> (k_unfold; clear KK)
            · exact N12 _ (List.mem_append_right _ (.tail _ hTp))
            · refine hid ?_; intro KK
              (rcases List.mem_cons.mp hq with rfl | hq) <;> (k_unfold; clear KK)
              · exact N12 _ (List.mem_append_right _ (.tail _ hap))
              · exact N12 _ hq
          clear N12
          first | (refine fold_F ?_; intro qk) | k_fold | skip
          k_steps
          unfold Hold
          rename Fr _ _ _ _ => F14
          rename News _ _ _ _ => N14
          rename _ < _ ∧ _ < _ ∧ AllLt _ _ => lT2
          rename_i T2 hT2
          have oT2 := off_lt lT2.2.2
          refine use (rest := (T2, { cls := .type "tuple", data := .seq #[.int p.1 tp, .ref ap] }) :: (I, rIter ((u + 1 : Nat) : Int) ((2 ^ i : Nat) - ((u + 1 : Nat) : Int))) :: rest2) (pushC w n k tk0 (.ref T2) pv3 (pe2 + 1) its se hO (by omega)) F14 X T N14 (by simpa [Around.deeper] using hA) ?_ ?_ trivial (by simp only [Around.deeper]; omega) (by simp only [Around.deeper]; omega) ?_
          · intro q hq; exact .tail _ (.tail _ (.tail _ (List.mem_append_left _ hq)))
          · intro q hq
            refine hid ?_; intro KK
            (rcases List.mem_cons.mp hq with rfl | hq) <;> (k_unfold; clear KK)
            · exact ⟨.head _, oT2⟩
            · refine ⟨.tail _ (.tail _ (.tail _ (List.mem_append_right (n.led w k tk0 pv3 (pe2 + 1) its se) hq))), ?_⟩
              refine hid ?_; intro KK
              (rcases List.mem_cons.mp hq with rfl | hq) <;> (k_unfold; clear KK)
              · exact hIo
              · exact hQ2.off q hq
          · rintro r led' h15 tk15 zz0
            refine hid ?_; intro KK
            (rcases zz0 with ⟨rfl, rfl⟩) <;> (k_unfold; clear KK)
            rintro F15 N15 -
            clear F14 N14
            first | (refine fold_F ?_; intro qk) | k_fold | skip
            k_steps
            unfold Hold
            rename Fr _ _ _ _ => F16
            rename News _ _ _ _ => N16
            refine slice_g (us := vsp) (s := ⟨_, _, _, _, _⟩) F16 N16 (News.isList N16 (List.mem_append_right _ (.tail _ (.tail _ hap)))) .none .none .none (by simp) (slicePick_all _) (by have := hvp.length; have := mlist_len _ hp16; omega) ?_
            intro b h17 F17 N17 lb
            clear F16 N16
            k_steps
            unfold Hold
            refine wpAny_For ?_
            refine hid ?_; intro KK
            (obtain ⟨kvs, hdd, hcols, hkl⟩ := hS.kvs) <;> (k_unfold; clear KK)
            have hck := hcols nm
            have hnmm := List.mem_of_getElem? hnm
            obtain ⟨la, vsl, el, hvl, hlm, hla⟩ : ∃ la vs e, valueAt kvs nm = some (.ref la) ∧ (la, listOf vs.toArray e) ∈ ls ∧ Are (natKd w).is vs (mlist ci) := by
              cases hv : valueAt kvs nm with
              | none => rw [hv] at hck; exact absurd hck (hcne nm hnmm)
              | some v =>
                rw [hv] at hck
                refine hid ?_; intro KK
                (obtain ⟨la, vs, e, rfl, h1, h2⟩ := hck) <;> (k_unfold; clear KK)
                exact ⟨la, vs, e, rfl, h1, hcol ▸ h2⟩
            have hlm2 : (la, listOf vsl.toArray el) ∈ rest2 := hQ2.base _ (.tail _ (.tail _ (.tail _ (.tail _ hlm))))
            have hcdm : (cd, od) ∈ rest2 := hQ2.base _ (.tail _ (.tail _ (.tail _ (.head _))))
            k_steps
            unfold Hold
            rename Fr _ _ _ _ => F18
            rename News _ _ _ _ => N18
            refine kda_item N18 (.tail _ (List.mem_append_right _ (.tail _ (.tail _ hcdm)))) hdd (strKind_is _ _ _ _) hvl ?_
            k_steps
            unfold Hold
            rename Fr _ _ _ _ => F19
            rename News _ _ _ _ => N19
            have hbla : b ≠ la := Nat.ne_of_gt (lb _ (List.mem_append_right _ (.tail _ (.tail _ hlm2))))
            generalize hR : (n.led w k tk0 (pv3 ++ [Value.ref T2]) (pe2 + 1 + 1) its se ++ ((T2, { cls := .type "tuple", data := .seq #[.int p.1 tp, .ref ap] }) :: (I, rIter ((u + 1 : Nat) : Int) ((2 ^ i : Nat) - ((u + 1 : Nat) : Int))) :: rest2)) = R0 at N19 lb
            have hRl : ∀ q ∈ R0.filter (fun q => decide (q.1 ≠ la)), q ∈ R0 ∧ q.1 ≠ la := fun q hq => by simpa using List.mem_filter.mp hq
            refine for_list (l := la) (news := (b, listOf vsp.toArray 0) :: R0.filter (fun q => decide (q.1 ≠ la))) (NmsK w n nl cd x y tx ty nm tnm la b ci p tp R0)
              (by simpa [Around.deeper] using hA) F19 N19 (show (la, listOf vsl.toArray el) ∈ _ from .tail _ (hR ▸ List.mem_append_right _ (.tail _ (.tail _ hlm2)))) ?_ ?_ ⟨vsp, 0, rfl, hvp, rfl, rfl, rfl, rfl, rfl, rfl, rfl, rfl⟩ ?_ ?_
            · intro q hq
              refine hid ?_; intro KK
              (rcases List.mem_cons.mp hq with rfl | hq) <;> (k_unfold; clear KK)
              · exact .head _
              · exact .tail _ (hRl q hq).1
            · intro q hq
              refine hid ?_; intro KK
              (rcases List.mem_cons.mp hq with rfl | hq) <;> (k_unfold; clear KK)
              · exact hbla
              · exact (hRl q hq).2
            · rintro I2 o2 j v2 m3 news3 h3 tk3 hj hv2 zz0
              refine hid ?_; intro KK
              (rcases zz0 with ⟨us, eu, rfl, hus, r1, r2, r3, r4, r5, r6, r7, r8⟩) <;> (k_unfold; clear KK)
              rintro F20 N20 hne20
              refine opqF fun K3 hK3 => ?_
              have F21 := Fr.know F20 [("line", .ref n.ln), ("names", .ref nl), ("columns", .ref cd), ("x", .int x tx), ("y", .int y ty), ("name", .str nm tnm), ("more", .ref b), ("price", .int p.1 tp)] (by first | exact kn_cons r1 (kn_cons r2 (kn_cons r3 (kn_cons r4 (kn_cons r5 (kn_cons r6 (kn_cons r7 (kn_cons r8 (kn_nil)))))))) | simp [r1, r2, r3, r4, r5, r6, r7, r8])
              clear F20 F19 N19
              have hll := hla.length
              refine hid ?_; intro KK
              (obtain ⟨v2', a2, hv2', ha2, ta2, rfl⟩ := hla.get (i := j) (by omega)) <;> (k_unfold; clear KK)
              rw [hv2'] at hv2
              cases hv2
              first | (refine fold_F ?_; intro qk) | k_fold | skip
              k_steps
              unfold Hold
              rename Fr _ _ _ _ => F22
              rename News _ _ _ _ => N22
              have hml := mlist_len _ hp16
              have hcl := mlist_len _ hci16
              have hne21 := hne20 _ (.head _)
              refine use (rest := (I2, o2) :: (la, listOf vsl.toArray el) :: R0.filter (fun q => decide (q.1 ≠ la))) (keptK w Nat (natKd w) lin_nat b eu us (((mlist ci).take j).foldl (fun a p => keep ltN p a) (mlist p.2)) a2 (.int (a2 : Int) ta2) hus ⟨ta2, rfl⟩ (by have := mfold_len ((mlist ci).take j) (mlist p.2); rw [List.length_take] at this; omega) (mfold_sorted _ _ (mlist_sorted _ hp16))) F22 X T N22 (by simpa [Around.deeper] using hA) ?_ ?_ trivial (by simp only [Around.deeper]; omega) (by simp only [Around.deeper]; omega) ?_
              · intro q hq
                rw [List.mem_singleton.mp hq]
                exact .tail _ (.tail _ (.head _))
              · intro q hq
                have h2 : q ∈ (I2, o2) :: (la, listOf vsl.toArray el) :: (b, listOf us.toArray eu) :: R0.filter (fun q => decide (q.1 ≠ la)) ∧ q.1 ≠ b := by
                  refine hid ?_; intro KK
                  (rcases List.mem_cons.mp hq with rfl | hq) <;> (k_unfold; clear KK)
                  · exact ⟨.head _, Ne.symm hne21.1⟩
                  · refine hid ?_; intro KK
                    (rcases List.mem_cons.mp hq with rfl | hq) <;> (k_unfold; clear KK)
                    · exact ⟨.tail _ (.head _), Ne.symm hne21.2⟩
                    · exact ⟨.tail _ (.tail _ (.tail _ hq)), Nat.ne_of_lt (lb _ (hRl q hq).1)⟩
                exact ⟨h2.1, by simpa using h2.2⟩
              · rintro r led' h23 tk23 zz0
                refine hid ?_; intro KK
                (rcases zz0 with ⟨rfl, us', eu', rfl, hus'⟩) <;> (k_unfold; clear KK)
                rintro F23 N23 -
                first | (refine fold_F ?_; intro qk) | k_fold | skip
                k_steps
                rename Fr _ _ _ _ => F24
                rename News _ _ _ _ => N24
                refine hK3 _ _ ⟨_, _, _, (b, listOf us'.toArray eu') :: R0.filter (fun q => decide (q.1 ≠ la)), rfl, F24, ?_, ?_, us', eu', rfl, ?_, rfl, rfl, rfl, rfl, rfl, rfl, rfl, rfl⟩
                · intro q hq
                  refine N24 q ?_
                  refine hid ?_; intro KK
                  (rcases List.mem_cons.mp hq with rfl | hq) <;> (k_unfold; clear KK)
                  · exact .tail _ (.head _)
                  · refine hid ?_; intro KK
                    (rcases List.mem_cons.mp hq with rfl | hq) <;> (k_unfold; clear KK)
                    · exact .tail _ (.tail _ (.head _))
                    · refine hid ?_; intro KK
                      (rcases List.mem_cons.mp hq with rfl | hq) <;> (k_unfold; clear KK)
                      · exact .head _
                      · exact .tail _ (.tail _ (.tail _ hq))
                · intro q hq
                  simp only [List.mem_cons, List.not_mem_nil, or_false, not_or]
                  refine hid ?_; intro KK
                  (rcases List.mem_cons.mp hq with rfl | hq) <;> (k_unfold; clear KK)
                  · exact hne21
                  · exact hne20 q (.tail _ hq)
                · rw [foldl_take _ _ _ _ _ ha2]
                  exact hus'
            · rintro m3 news3 h3 tk3 zz0
              refine hid ?_; intro KK
              (rcases zz0 with ⟨us, eu, rfl, hus, r1, r2, r3, r4, r5, r6, r7, r8⟩) <;> (k_unfold; clear KK)
              rintro F20 N20
              have F21 := Fr.know F20 [("line", .ref n.ln), ("names", .ref nl), ("columns", .ref cd), ("x", .int x tx), ("y", .int y ty), ("name", .str nm tnm), ("more", .ref b), ("price", .int p.1 tp)] (by first | exact kn_cons r1 (kn_cons r2 (kn_cons r3 (kn_cons r4 (kn_cons r5 (kn_cons r6 (kn_cons r7 (kn_cons r8 (kn_nil)))))))) | simp [r1, r2, r3, r4, r5, r6, r7, r8])
              have hll := hla.length
              rw [List.take_of_length_le (by omega), mlist_keep _ hp16 _ hci16] at hus
              have N21 : News g L' h3 ((b, listOf us.toArray eu) :: R0) := fun q hq => by
                refine hid ?_; intro KK
                (rcases List.mem_cons.mp hq with rfl | hq) <;> (k_unfold; clear KK)
                · exact N20 _ (.tail _ (.head _))
                · by_cases e : q.1 = la
                  · have e1 := (N19 q (.tail _ hq)).1
                    have e2 := (N19 _ (.tail _ (show (la, listOf vsl.toArray el) ∈ R0 from hR ▸ List.mem_append_right _ (.tail _ (.tail _ hlm2))))).1
                    rw [e, e2] at e1
                    have e3 : q = (la, listOf vsl.toArray el) := by
                      refine hid ?_; intro KK
                      (obtain ⟨qa, qo⟩ := q) <;> (k_unfold; clear KK)
                      dsimp only at e e1
                      rw [e, Option.some.inj e1]
                    rw [e3]
                    exact N20 _ (.head _)
                  · exact N20 q (.tail _ (.tail _ (List.mem_filter.mpr ⟨hq, by simpa using e⟩)))
              clear F20 N20 F19 N19
              refine hid ?_; intro KK
              (subst hR) <;> (k_unfold; clear KK)
              have hmul : IntMulOk p.1 y := IntMulOk.of_right (PySem.intBits_le_64 (by omega) (by omega))
              first | (refine fold_F ?_; intro qk) | k_fold | skip
              k_steps
              unfold Hold
              rename Fr _ _ _ _ => F25
              rename News _ _ _ _ => N25
              rename b < _ ∧ AllLt _ _ => lT3
              rename_i T3 hT3
              have oT3 := off_lt lT3.2
              have ob : b ∉ n.addrs := fun ha => by
                refine hid ?_; intro KK
                (obtain ⟨q, hq, e⟩ := led_addr (w := w) (k := k) (tk := tk0) (pv := pv3 ++ [Value.ref T2]) (its := its) (pe := pe2 + 1 + 1) (se := se) ha) <;> (k_unfold; clear KK)
                have := lb q (List.mem_append_left _ hq)
                rw [e] at this; exact Nat.lt_irrefl _ this
              refine use (rest := (T3, { cls := .type "tuple", data := .seq #[.int (p.1 * y) tk3, .ref b] }) :: (b, listOf us.toArray eu) :: (T2, { cls := .type "tuple", data := .seq #[.int p.1 tp, .ref ap] }) :: (I, rIter ((u + 1 : Nat) : Int) ((2 ^ i : Nat) - ((u + 1 : Nat) : Int))) :: rest2) (pushC w n k tk0 (.ref T3) (pv3 ++ [Value.ref T2]) (pe2 + 1 + 1) its se hO (by rw [List.length_append, List.length_singleton]; omega)) F25 X T N25 (by simpa [Around.deeper] using hA) ?_ ?_ trivial (by simp only [Around.deeper]; omega) (by simp only [Around.deeper]; omega) ?_
              · intro q hq; exact .tail _ (.tail _ (List.mem_append_left _ hq))
              · intro q hq
                refine hid ?_; intro KK
                (rcases List.mem_cons.mp hq with rfl | hq) <;> (k_unfold; clear KK)
                · exact ⟨.head _, oT3⟩
                · refine hid ?_; intro KK
                  (rcases List.mem_cons.mp hq with rfl | hq) <;> (k_unfold; clear KK)
                  · exact ⟨.tail _ (.head _), ob⟩
                  · refine ⟨.tail _ (.tail _ (List.mem_append_right (n.led w k tk0 (pv3 ++ [Value.ref T2]) (pe2 + 1 + 1) its se) hq)), ?_⟩
                    refine hid ?_; intro KK
                    (rcases List.mem_cons.mp hq with rfl | hq) <;> (k_unfold; clear KK)
                    · exact oT2
                    · refine hid ?_; intro KK
                      (rcases List.mem_cons.mp hq with rfl | hq) <;> (k_unfold; clear KK)
                      · exact hIo
                      · exact hQ2.off q hq
              · rintro r led' h26 tk26 zz0
                refine hid ?_; intro KK
                (rcases zz0 with ⟨rfl, rfl⟩) <;> (k_unfold; clear KK)
                rintro F26 N26 -
                clear F25 N25
                first | (refine fold_F ?_; intro qk) | k_fold | skip
                k_steps
                rename Fr _ _ _ _ => F27
                rename News _ _ _ _ => N27
                have lt3 := ktn_ltOf lT3.2
                have lt2 := ktn_ltOf lT2.2.2
                have hI2 : ∀ a ∈ n.addrs, a ≠ I := fun a ha e => hIo (e ▸ ha)
                refine hK2 _ _ ⟨_, _, _, n.led w k tk0 (pv3 ++ [Value.ref T2] ++ [Value.ref T3]) (pe2 + 1 + 1 + 1) its se ++ ((e2, enumObj it ((i + 1 : Nat) : Int) c.2) :: (it, c.1) :: (nl, listOf nms.toArray e) :: (T3, { cls := .type "tuple", data := .seq #[.int (p.1 * y) tk3, .ref b] }) :: (b, listOf us.toArray eu) :: (T2, { cls := .type "tuple", data := .seq #[.int p.1 tp, .ref ap] }) :: rest1), rfl, F27, ?_, ?_, _, _, _, rfl, { off := ?_, base := ?_, que := ?_ }, ?_, rfl, rfl, rfl, rfl, rfl, rfl⟩
                · refine hid ?_; intro KK
                  (subst hrest) <;> (k_unfold; clear KK)
                  intro q hq
                  refine N27 q ?_
                  refine hid ?_; intro KK
                  (rcases List.mem_cons.mp hq with rfl | hq) <;> (k_unfold; clear KK)
                  · exact List.mem_append_right _ (.tail _ (.tail _ (.tail _ (.head _))))
                  · refine hid ?_; intro KK
                    (rcases List.mem_append.mp (show q ∈ n.led w k tk0 (pv3 ++ [Value.ref T2] ++ [Value.ref T3]) (pe2 + 1 + 1 + 1) its se ++ _ from hq) with hq | hq) <;> (k_unfold; clear KK)
                    · exact List.mem_append_left _ hq
                    · refine List.mem_append_right _ ?_
                      refine hid ?_; intro KK
                      (rcases List.mem_cons.mp hq with rfl | hq) <;> (k_unfold; clear KK)
                      · exact .tail _ (.tail _ (.tail _ (.tail _ (.head _))))
                      · refine hid ?_; intro KK
                        (rcases List.mem_cons.mp hq with rfl | hq) <;> (k_unfold; clear KK)
                        · exact .tail _ (.tail _ (.tail _ (.tail _ (.tail _ (.head _)))))
                        · refine hid ?_; intro KK
                          (rcases List.mem_cons.mp hq with rfl | hq) <;> (k_unfold; clear KK)
                          · exact .tail _ (.tail _ (.tail _ (.tail _ (.tail _ (.tail _ (.head _))))))
                          · refine hid ?_; intro KK
                            (rcases List.mem_cons.mp hq with rfl | hq) <;> (k_unfold; clear KK)
                            · exact .head _
                            · refine hid ?_; intro KK
                              (rcases List.mem_cons.mp hq with rfl | hq) <;> (k_unfold; clear KK)
                              · exact .tail _ (.head _)
                              · refine hid ?_; intro KK
                                (rcases List.mem_cons.mp hq with rfl | hq) <;> (k_unfold; clear KK)
                                · exact .tail _ (.tail _ (.head _))
                                · exact .tail _ (.tail _ (.tail _ (.tail _ (.tail _ (.tail _ (.tail _ hq))))))
                · refine hid ?_; intro KK
                  (subst hrest) <;> (k_unfold; clear KK)
                  intro q hq
                  rw [List.mem_singleton]
                  refine hid ?_; intro KK
                  (rcases List.mem_append.mp hq with hq | hq) <;> (k_unfold; clear KK)
                  · exact hI2 _ (led_mem hq)
                  · refine hid ?_; intro KK
                    (rcases List.mem_cons.mp hq with rfl | hq) <;> (k_unfold; clear KK)
                    · exact hneI (e2, enumObj it ((i + 1 : Nat) : Int) c.2) (List.mem_append_right _ (.head _))
                    · refine hid ?_; intro KK
                      (rcases List.mem_cons.mp hq with rfl | hq) <;> (k_unfold; clear KK)
                      · exact hneI (it, c.1) (List.mem_append_right _ (.tail _ (.head _)))
                      · refine hid ?_; intro KK
                        (rcases List.mem_cons.mp hq with rfl | hq) <;> (k_unfold; clear KK)
                        · exact hneI (nl, listOf nms.toArray e) (List.mem_append_right _ (.tail _ (.tail _ (.head _))))
                        · refine hid ?_; intro KK
                          (rcases List.mem_cons.mp hq with rfl | hq) <;> (k_unfold; clear KK)
                          · exact Nat.ne_of_gt (lt3 _ (List.mem_append_right _ (.tail _ (.head _))))
                          · refine hid ?_; intro KK
                            (rcases List.mem_cons.mp hq with rfl | hq) <;> (k_unfold; clear KK)
                            · exact Nat.ne_of_gt (lb _ (List.mem_append_right _ (.tail _ (.head _))))
                            · refine hid ?_; intro KK
                              (rcases List.mem_cons.mp hq with rfl | hq) <;> (k_unfold; clear KK)
                              · exact Nat.ne_of_gt (lt2 _ (List.mem_append_right _ (.head _)))
                              · exact hneI q (List.mem_append_right _ (.tail _ (.tail _ (.tail _ hq))))
                · intro q hq
                  refine hid ?_; intro KK
                  (rcases List.mem_cons.mp hq with rfl | hq) <;> (k_unfold; clear KK)
                  · exact oT3
                  · refine hid ?_; intro KK
                    (rcases List.mem_cons.mp hq with rfl | hq) <;> (k_unfold; clear KK)
                    · exact ob
                    · refine hid ?_; intro KK
                      (rcases List.mem_cons.mp hq with rfl | hq) <;> (k_unfold; clear KK)
                      · exact oT2
                      · exact hQ1.off q hq
                · exact fun q hq => .tail _ (.tail _ (.tail _ (hQ1.base q hq)))
                · have e1 : q0.drop (u + 1) ++ nmStep ci y (q0.take (u + 1)) = (q0.drop (u + 1) ++ nmStep ci y (q0.take u) ++ [p]) ++ [(p.1 * y, p.2 ||| ci)] := by
                    rw [htk, nmStep, List.flatMap_append]
                    simp [nmStep]
                  rw [e1]
                  refine QIs.snoc (p := (p.1 * y, p.2 ||| ci)) ⟨T3, b, tk3, us, eu, rfl, .head _, .tail _ (.head _), hus⟩ (QIs.snoc (p := p) ⟨T2, ap, tp, vsp, ep, rfl, .tail _ (.tail _ (.head _)), .tail _ (.tail _ (.tail _ hap1)), hvp⟩ ?_)
                  exact QIs.mono (fun q hq => .tail _ (.tail _ (.tail _ hq))) hQ4
                · refine hid ?_; intro KK
                  (subst hrest) <;> (k_unfold; clear KK)
                  have key : ∀ (z : Addr), (∀ q ∈ (e2, enumObj it ((i + 1 : Nat) : Int) c.2) :: (it, c.1) :: (nl, listOf nms.toArray e) :: rest1, q.1 < z) → z ∉ [e2, it, nl] := by
                    intro z hz hm
                    simp only [List.mem_cons, List.not_mem_nil, or_false] at hm
                    refine hid ?_; intro KK
                    (rcases hm with rfl | rfl | rfl) <;> (k_unfold; clear KK)
                    · exact Nat.lt_irrefl _ (hz (z, enumObj it ((i + 1 : Nat) : Int) c.2) (.head _))
                    · exact Nat.lt_irrefl _ (hz (z, c.1) (.tail _ (.head _)))
                    · exact Nat.lt_irrefl _ (hz (z, listOf nms.toArray e) (.tail _ (.tail _ (.head _))))
                  intro q hq
                  refine hid ?_; intro KK
                  (rcases List.mem_cons.mp hq with rfl | hq) <;> (k_unfold; clear KK)
                  · exact key _ fun q hq => lt3 q (List.mem_append_right _ (.tail _ (.tail _ hq)))
                  · refine hid ?_; intro KK
                    (rcases List.mem_cons.mp hq with rfl | hq) <;> (k_unfold; clear KK)
                    · exact key _ fun q hq => lb q (List.mem_append_right _ (.tail _ (.tail _ hq)))
                    · refine hid ?_; intro KK
                      (rcases List.mem_cons.mp hq with rfl | hq) <;> (k_unfold; clear KK)
                      · exact key _ fun q hq => lt2 q (List.mem_append_right _ (.tail _ hq))
                      · exact hof1 q hq
      · rintro m₂ news₂ h₂ tk₂ zz0
        refine hid ?_; intro KK
        (rcases zz0 with ⟨pv2, pe2, rest1, rfl, hQ1, hof1, n1, n2, n3, n4, n5, n6⟩) <;> (k_unfold; clear KK)
        rintro F9 N9
        have F10 := Fr.know F9 [("line", .ref n.ln), ("names", .ref nl), ("columns", .ref cd), ("x", .int x tx), ("y", .int y ty)] (by first | exact kn_cons n1 (kn_cons n2 (kn_cons n3 (kn_cons n4 (kn_cons n5 (kn_nil))))) | simp [n1, n2, n3, n4, n5])
        clear F9
        have hQ2 := hQ1.que
        rw [List.drop_eq_nil_of_le (by omega), List.nil_append, List.take_of_length_le (by omega)] at hQ2
        first | (refine fold_F ?_; intro qk) | k_fold | skip
        k_steps
        rename Fr _ _ _ _ => F11
        rename News _ _ _ _ => N11
        refine hK1 _ _ ⟨_, _, _, n.led w k tk0 pv2 pe2 its se ++ rest1, rfl, F11, ?_, ?_, pv2, pe2, rest1, rfl, by rw [hqn]; exact ⟨hQ1.off, hQ1.base, hQ2⟩, rfl, rfl, rfl, rfl, rfl⟩
        · intro q hq
          refine N11 q ?_
          refine hid ?_; intro KK
          (rcases List.mem_cons.mp hq with rfl | hq) <;> (k_unfold; clear KK)
          · exact List.mem_append_right _ (.head _)
          · refine hid ?_; intro KK
            (rcases List.mem_cons.mp hq with rfl | hq) <;> (k_unfold; clear KK)
            · exact List.mem_append_right _ (.tail _ (.head _))
            · refine hid ?_; intro KK
              (rcases List.mem_cons.mp hq with rfl | hq) <;> (k_unfold; clear KK)
              · exact List.mem_append_right _ (.tail _ (.tail _ (.head _)))
              · refine hid ?_; intro KK
                (rcases List.mem_append.mp (show q ∈ n.led w k tk0 pv2 pe2 its se ++ rest1 from hq) with hq | hq) <;> (k_unfold; clear KK)
                · exact List.mem_append_left _ hq
                · exact List.mem_append_right _ (.tail _ (.tail _ (.tail _ hq)))
        · intro q hq
          refine hid ?_; intro KK
          (rcases List.mem_append.mp hq with hq | hq) <;> (k_unfold; clear KK)
          · refine hid ?_; intro KK
            (obtain ⟨q', hq', e'⟩ := led_addr (w := w) (k := k) (tk := tk0) (pv := pv) (its := its) (pe := pe1) (se := se) (led_mem hq)) <;> (k_unfold; clear KK)
            rw [← e']
            exact hne6 q' (List.mem_append_left _ hq')
          · exact hof1 q hq
    · rintro m₁ news₁ h₁ tk₁ zz0
      refine hid ?_; intro KK
      (rcases zz0 with ⟨pv, pe1, rest, rfl, hQ, m1, m2, m3, m4, m5⟩) <;> (k_unfold; clear KK)
      rintro F6 N6 hne6
      have F7 := Fr.know F6 [("line", .ref n.ln), ("names", .ref nl), ("columns", .ref cd), ("x", .int x tx), ("y", .int y ty)] (by first | exact kn_cons m1 (kn_cons m2 (kn_cons m3 (kn_cons m4 (kn_cons m5 (kn_nil))))) | simp [m1, m2, m3, m4, m5])
      clear F6 F5 N5
      rw [List.take_of_length_le (by omega)] at hQ
      replace N6 : News g L' h₁ ((nl, listOf nms.toArray e) :: (n.led w k tk0 pv pe1 its se ++ rest)) := N6
      first | (refine fold_F ?_; intro qk) | k_fold | skip
      k_steps
      rename_i U hU1 lU D hD1 lD hx1 hx2 hx3 F8' N8'
      unfold Hold
      refine wpAny_For ?_
      k_steps
      rename Fr _ _ _ _ => F8
      unfold Hold
      rename News _ _ _ _ => N8
      refine wpAny_len_news N8 (.tail _ (.tail _ (.head _))) (by simp only [List.size_toArray]; omega) fun tl tkl => ?_
      k_steps
      unfold Hold
      rw [List.size_toArray]
      refine pow_nat (a := 2) (i := nms.length) (by decide) (by omega) (fun tP tkP => ?_)
      have hp2 : 2 ^ nms.length ≤ 2 ^ 4 := Nat.pow_le_pow_right (by decide) (by omega)
      k_steps
      unfold Hold
      rename Fr _ _ _ _ => F9
      rename News _ _ _ _ => N9
      rename IsRange _ _ _ _ _ _ _ _ => hrg
      have hqf : ∀ p ∈ nmQ y cs [(1, 0)], p.2 < 16 := nmQ_lt y hc16 (by simp)
      have hqfl : (nmQ y cs [(1, 0)]).length = 2 ^ nms.length := by rw [nmQ_length, hnl]; simp
      generalize nmQ y cs [(1, 0)] = qf at hQ hqf hqfl hret ⊢
      have oU := off_lt lU.2
      have ltU := ktn_ltOf lU.2
      refine for_range (2 ^ nms.length) (NmsU w n k tk0 its se nl nms e rest qf x tx U)
        hrg (by omega) (by simpa [Around.deeper] using hA) F9 (news := n.led w k tk0 pv pe1 its se ++ ((U, listOf #[] 0) :: (nl, listOf nms.toArray e) :: rest)) ?_ ?_ ?_ ?_
      · intro q hq
        refine N9 q (.tail _ ?_)
        refine hid ?_; intro KK
        (rcases List.mem_append.mp hq with hq | hq) <;> (k_unfold; clear KK)
        · exact .tail _ (.tail _ (List.mem_append_left _ hq))
        · refine hid ?_; intro KK
          (rcases List.mem_cons.mp hq with rfl | hq) <;> (k_unfold; clear KK)
          · exact .head _
          · refine hid ?_; intro KK
            (rcases List.mem_cons.mp hq with rfl | hq) <;> (k_unfold; clear KK)
            · exact .tail _ (.head _)
            · exact .tail _ (.tail _ (List.mem_append_right _ hq))
      · exact ⟨pv, pe1, [], 0, _, rfl, hQ.que, trivial, rfl, rfl, rfl, rfl, rfl⟩
      · rintro I u tu m₂ news₂ h₂ tk₂ hu2 zz0
        refine hid ?_; intro KK
        (rcases zz0 with ⟨pv2, pe2, us, eu, tt, rfl, hQ2, hus, n1, n2, n3, n4, n5⟩) <;> (k_unfold; clear KK)
        rintro F10 N10 hneI
        refine opqF fun K4 hK4 => ?_
        have F11 := Fr.know F10 [("line", .ref n.ln), ("names", .ref nl), ("x", .int x tx), ("unions", .ref U), ("total", .int (nmTot x (qf.take u)) tt)] (by first | exact kn_cons n1 (kn_cons n2 (kn_cons n3 (kn_cons n4 (kn_cons n5 (kn_nil))))) | simp [n1, n2, n3, n4, n5])
        clear F10 F9 N9
        refine hid ?_; intro KK
        (obtain ⟨p, hp⟩ : ∃ p, qf[u]? = some p := ⟨qf[u], List.getElem?_eq_getElem (by omega)⟩) <;> (k_unfold; clear KK)
        have hp16 := hqf p (List.mem_of_getElem? hp)
        have hdr : qf.drop u = p :: qf.drop (u + 1) := by
          rw [List.drop_eq_getElem_cons (by omega)]
          congr 1
          have := List.getElem?_eq_getElem (l := qf) (i := u) (by omega)
          rw [this] at hp; exact Option.some.inj hp
        have hTk : nmTot x (qf.take (u + 1)) = nmTot x (qf.take u) + p.1 * (1 + x) ^ (4 - (mlist p.2).length) := foldl_take _ _ _ _ _ hp
        have hUk : nmUni (qf.take (u + 1)) = keep ltStr (digs p.2) (nmUni (qf.take u)) := foldl_take _ _ _ _ _ hp
        have hql2 := hQ2.length
        rw [hdr] at hQ2
        rw [List.length_drop] at hql2
        obtain ⟨v, pv3, rfl⟩ : ∃ v pv3, pv2 = v :: pv3 := by
          cases pv2 with
          | nil => exact hQ2.elim
          | cons v r => exact ⟨v, r, rfl⟩
        refine hid ?_; intro KK
        (obtain ⟨⟨Tp, ap, tp, vsp, ep, rfl, hTp, hap, hvp⟩, hQ4⟩ := hQ2) <;> (k_unfold; clear KK)
        have hl2 : (pv3.length) ≤ 100 := by rw [List.length_cons] at hql2; omega
        have hIo : I ∉ n.addrs := fun ha => by
          refine hid ?_; intro KK
          (obtain ⟨q, hq, e⟩ := led_addr (w := w) (k := k) (tk := tk0) (pv := Value.ref Tp :: pv3) (its := its) (pe := pe2) (se := se) ha) <;> (k_unfold; clear KK)
          exact hneI q (List.mem_append_left _ hq) e
        first | (refine fold_F ?_; intro qk) | k_fold | skip
        k_steps
        unfold Hold
        rename Fr _ _ _ _ => F12
        rename News _ _ _ _ => N12
        refine use (rest := (I, rIter ((u + 1 : Nat) : Int) ((2 ^ nms.length : Nat) - ((u + 1 : Nat) : Int))) :: (U, listOf us.toArray eu) :: (nl, listOf nms.toArray e) :: rest) (getPushed w n k tk0 (.ref Tp) pv3 pe2 its se hO (by omega)) F12 X T N12 (by simpa [Around.deeper] using hA) ?_ ?_ trivial (by simp only [Around.deeper]; omega) (by simp only [Around.deeper]; omega) ?_
        · intro q hq; exact .tail _ (List.mem_append_left _ hq)
        · intro q hq
          refine hid ?_; intro KK
          (rcases List.mem_cons.mp hq with rfl | hq) <;> (k_unfold; clear KK)
          · exact ⟨.head _, hIo⟩
          · refine ⟨.tail _ (List.mem_append_right (n.led w k tk0 (Value.ref Tp :: pv3) pe2 its se) hq), ?_⟩
            refine hid ?_; intro KK
            (rcases List.mem_cons.mp hq with rfl | hq) <;> (k_unfold; clear KK)
            · exact oU
            · refine hid ?_; intro KK
              (rcases List.mem_cons.mp hq with rfl | hq) <;> (k_unfold; clear KK)
              · exact fun x => (hS.d2 _ x).2 rfl
              · exact hQ.off q hq
        · rintro r led' h12 tk12 zz0
          refine hid ?_; intro KK
          (rcases zz0 with ⟨rfl, rfl⟩) <;> (k_unfold; clear KK)
          rintro F13 N13 -
          clear F12 N12
          have N14 : News g L' h12 ((Tp, { cls := .type "tuple", data := .seq #[.int p.1 tp, .ref ap] }) :: (ap, listOf vsp.toArray ep) :: (n.led w k tk0 pv3 (pe2 + 1) its se ++ ((I, rIter ((u + 1 : Nat) : Int) ((2 ^ nms.length : Nat) - ((u + 1 : Nat) : Int))) :: (U, listOf us.toArray eu) :: (nl, listOf nms.toArray e) :: rest))) := fun q hq => by
            refine hid ?_; intro KK
            (rcases List.mem_cons.mp hq with rfl | hq) <;> (k_unfold; clear KK)
            · exact N13 _ (List.mem_append_right _ (.tail _ (.tail _ (.tail _ hTp))))
            · refine hid ?_; intro KK
              (rcases List.mem_cons.mp hq with rfl | hq) <;> (k_unfold; clear KK)
              · exact N13 _ (List.mem_append_right _ (.tail _ (.tail _ (.tail _ hap))))
              · exact N13 _ hq
          clear N13
          have hml := mlist_len _ hp16
          have hvl := hvp.length
          first | (refine fold_F ?_; intro qk) | k_fold | skip
          k_steps
          unfold Hold
          rename News _ _ _ _ => N15
          refine wpAny_len_news N15 (.tail _ (.head _)) (by simp only [List.size_toArray]; omega) fun tl2 tkl2 => ?_
          rw [List.size_toArray, hvl]
          k_steps
          unfold Hold
          refine pow_int_small (by omega) (by omega) (by omega) ?_
          have hmul := pow_small hx (k := 4 - (mlist p.2).length) (by omega) p.1
          rw [show ((4 : Int) - (mlist p.2).length).toNat = 4 - (mlist p.2).length from by omega]
          k_steps
          unfold Hold
          rename Fr _ _ _ _ => F16
          rename News _ _ _ _ => N16
          refine comp_eval (cl := []) (closureFor_none (by decide)) rfl (by decide) ?_ (fun _ => rfl)
          k_steps
          unfold Hold
          refine comp_listE [] F16 N16 (.tail _ (.head _)) X T (by simpa [Around.deeper] using hA) rfl (by decide) (fun _ h => nomatch h) (fun i ys => StrsAre ys (((mlist p.2).take i).map pstr)) (fun i ys h => ?_) .nil ?_ ?_
          · have h1 := h.length
            rw [List.length_map, List.length_take] at h1
            omega
          · rintro I3 g' C D i o v ex ys e1 m₁ h₁ tk₁ X' T' hg' hi zz0
            refine hid ?_; intro KK
            (rcases zz0 with ⟨hex, hv⟩) <;> (k_unfold; clear KK)
            rintro hJ ho FC NC
            refine opqF fun K5 hK5 => ?_
            replace NC : News g' C h₁ [(I3, o), (ap, listOf vsp.toArray ep), (D, listOf ys.toArray e1)] := by rw [hex] at NC; exact NC
            refine hid ?_; intro KK
            (obtain ⟨v', a, hv', ha, ⟨ta, rfl⟩⟩ := hvp.get (i := i) (by omega)) <;> (k_unfold; clear KK)
            rw [hv'] at hv
            cases hv
            have ha4 := mlist_lt (List.mem_of_getElem? ha)
            clear F16 N16
            first | (refine fold_F ?_; intro qk) | k_fold | skip
            k_steps
            unfold Hold
            refine P.str_of_int (Nat.lt_of_le_of_lt (Nat.log2_le_self _) (by omega)) ?_
            k_steps
            rename Fr _ C _ _ => FD
            rename News _ C _ _ => ND
            refine hK5 _ _ ⟨_, _, _, rfl, FD, ND, ?_⟩
            dsimp only
            rw [List.take_add_one, ha, List.map_append]
            exact kct_snoc hJ
          · intro D ys e1 h20 tk20 hJ F20 N20 hlt20
            rw [List.take_of_length_le (by omega)] at hJ
            k_steps
            unfold Hold
            refine join_list (News.isList (by assumption) (.head _)) hJ (digs_sum _ hp16) (fun tj tkj => ?_)
            k_steps
            unfold Hold
            rename Fr _ _ _ _ => F21
            rename News _ _ _ _ => N21
            have hUne : ∀ q ∈ n.led w k tk0 pv3 (pe2 + 1) its se ++ rest, q.1 < U := fun q hq => by
              refine hid ?_; intro KK
              (rcases List.mem_append.mp hq with hq | hq) <;> (k_unfold; clear KK)
              · refine hid ?_; intro KK
                (obtain ⟨q', hq', e'⟩ := led_addr (w := w) (k := k) (tk := tk0) (pv := pv) (its := its) (pe := pe1) (se := se) (led_mem hq)) <;> (k_unfold; clear KK)
                rw [← e']
                exact ltU q' (List.mem_append_left _ hq')
              · exact ltU q (List.mem_append_right _ hq)
            have hIU := hneI (U, listOf us.toArray eu) (List.mem_append_right _ (.head _))
            have hul := nmUni_len (qf.take u)
            rw [List.length_take] at hul
            have hul2 := hus.length
            have hok := digs_ok _ hp16
            refine use (rest := (I, rIter ((u + 1 : Nat) : Int) ((2 ^ nms.length : Nat) - ((u + 1 : Nat) : Int))) :: (nl, listOf nms.toArray e) :: (n.led w k tk0 pv3 (pe2 + 1) its se ++ rest)) (keptK w Str (strKd w) lin_str U eu us (nmUni (qf.take u)) (digs p.2) _ hus ⟨hok.1, _, rfl⟩ (by omega) (nmUni_sorted _)) F21 X T N21 (by simpa [Around.deeper] using hA) ?_ ?_ trivial (by simp only [Around.deeper]; omega) (by simp only [Around.deeper]; omega) ?_
            · intro q hq
              rw [List.mem_singleton.mp hq]
              exact .tail _ (.tail _ (.tail _ (List.mem_append_right _ (.tail _ (.head _)))))
            · intro q hq
              have h2 : q ∈ n.led w k tk0 pv3 (pe2 + 1) its se ++ ((I, rIter ((u + 1 : Nat) : Int) ((2 ^ nms.length : Nat) - ((u + 1 : Nat) : Int))) :: (U, listOf us.toArray eu) :: (nl, listOf nms.toArray e) :: rest) ∧ q.1 ≠ U := by
                refine hid ?_; intro KK
                (rcases List.mem_cons.mp hq with rfl | hq) <;> (k_unfold; clear KK)
                · exact ⟨List.mem_append_right _ (.head _), Ne.symm hIU⟩
                · refine hid ?_; intro KK
                  (rcases List.mem_cons.mp hq with rfl | hq) <;> (k_unfold; clear KK)
                  · exact ⟨List.mem_append_right _ (.tail _ (.tail _ (.head _))), Nat.ne_of_lt lU.1⟩
                  · refine ⟨?_, Nat.ne_of_lt (hUne q hq)⟩
                    refine hid ?_; intro KK
                    (rcases List.mem_append.mp hq with hq | hq) <;> (k_unfold; clear KK)
                    · exact List.mem_append_left _ hq
                    · exact List.mem_append_right _ (.tail _ (.tail _ (.tail _ hq)))
              exact ⟨.tail _ (.tail _ (.tail _ h2.1)), by simpa using h2.2⟩
            · rintro r led' h22 tk22 zz0
              refine hid ?_; intro KK
              (rcases zz0 with ⟨rfl, us', eu', rfl, hus'⟩) <;> (k_unfold; clear KK)
              rintro F22 N22 -
              first | (refine fold_F ?_; intro qk) | k_fold | skip
              k_steps
              rename Fr _ _ _ _ => F23
              rename News _ _ _ _ => N23
              replace hus' : Are (strKd w).is us' (nmUni (qf.take (u + 1))) := by rw [hUk]; exact hus'
              rw [← hTk] at F23
              refine hK4 _ _ ⟨_, _, _, n.led w k tk0 pv3 (pe2 + 1) its se ++ ((U, listOf us'.toArray eu') :: (nl, listOf nms.toArray e) :: rest), rfl, F23, ?_, ?_, pv3, pe2 + 1, us', eu', _, rfl, hQ4, hus', rfl, rfl, rfl, rfl, rfl⟩
              · intro q hq
                refine N23 q ?_
                refine hid ?_; intro KK
                (rcases List.mem_cons.mp hq with rfl | hq) <;> (k_unfold; clear KK)
                · exact .tail _ (.head _)
                · refine hid ?_; intro KK
                  (rcases List.mem_append.mp (show q ∈ n.led w k tk0 pv3 (pe2 + 1) its se ++ _ from hq) with hq | hq) <;> (k_unfold; clear KK)
                  · exact .tail _ (.tail _ (.tail _ (List.mem_append_left _ hq)))
                  · refine hid ?_; intro KK
                    (rcases List.mem_cons.mp hq with rfl | hq) <;> (k_unfold; clear KK)
                    · exact .head _
                    · refine hid ?_; intro KK
                      (rcases List.mem_cons.mp hq with rfl | hq) <;> (k_unfold; clear KK)
                      · exact .tail _ (.tail _ (.head _))
                      · exact .tail _ (.tail _ (.tail _ (List.mem_append_right _ hq)))
              · intro q hq
                rw [List.mem_singleton]
                refine hid ?_; intro KK
                (rcases List.mem_append.mp hq with hq | hq) <;> (k_unfold; clear KK)
                · exact fun e => hIo (e ▸ led_mem hq)
                · refine hid ?_; intro KK
                  (rcases List.mem_cons.mp hq with rfl | hq) <;> (k_unfold; clear KK)
                  · exact hIU
                  · exact hneI q (List.mem_append_right _ (.tail _ hq))
      · rintro m₂ news₂ h₂ tk₂ zz0
        refine hid ?_; intro KK
        (rcases zz0 with ⟨pv2, pe2, us, eu, tt, rfl, hQ2, hus, n1, n2, n3, n4, n5⟩) <;> (k_unfold; clear KK)
        rintro F10 N10
        have F11 := Fr.know F10 [("line", .ref n.ln), ("names", .ref nl), ("x", .int x tx), ("unions", .ref U), ("total", .int (nmTot x (qf.take (2 ^ nms.length))) tt)] (by first | exact kn_cons n1 (kn_cons n2 (kn_cons n3 (kn_cons n4 (kn_cons n5 (kn_nil))))) | simp [n1, n2, n3, n4, n5])
        clear F10 F9 N9
        rw [List.take_of_length_le (by omega)] at hus F11
        rw [List.drop_eq_nil_of_le (by omega)] at hQ2
        have hul := nmUni_len qf
        have hul2 := hus.length
        obtain rfl : pv2 = [] := by
          cases pv2 with
          | nil => rfl
          | cons => exact hQ2.elim
        first | (refine fold_F ?_; intro qk) | k_fold | skip
        k_steps
        unfold Hold
        rename News _ _ _ _ => N12
        refine wpAny_len_news N12 (List.mem_append_right _ (.head _)) (by simp only [List.size_toArray]; omega) fun tl2 tkl2 => ?_
        rw [List.size_toArray, hul2]
        k_steps
        rename Fr _ _ _ _ => F13
        rename News _ _ _ _ => N13
        refine hret _ _ _ _ _ ⟨_, tt, tl2, pe2, rfl, rfl⟩ F13 fun q hq => N13 q ?_
        refine hid ?_; intro KK
        (rcases List.mem_cons.mp hq with rfl | hq) <;> (k_unfold; clear KK)
        · exact .head _
        · refine hid ?_; intro KK
          (rcases List.mem_cons.mp hq with rfl | hq) <;> (k_unfold; clear KK)
          · exact .tail _ (List.mem_append_right _ (.tail _ (.head _)))
          · exact .tail _ (List.mem_append_left _ hq)
end
section
variable {prog : Program} {w : World} {A : Around} {E : Value → Shared → Prop} {s : Shared}
theorem ref_not_none {a : Addr} : ¬ ((Value.ref a == Value.none) = true) := Bool.false_ne_true
noncomputable abbrev TI (t : Addr) (i : Nat) (o : Obj) : Prop := o.cls = .type "tuple_iterator" ∧ o.data = .fields #[.ref t, .int (i : Int) 0]
/-- a tuple's own iterator, asked by another -/
theorem nextT {it t : Addr} {i : Nat} {o ot : Obj} {items : Array Value} {k : Nat} {x : Value} {Q : Value → Shared → Prop} (ho : s.heap.get? it = some o) (hi : TI t i o)
    (hot : s.heap.get? t = some ot) (hdt : ot.data = .seq items k) (hx : items[i]? = some x)
    (hQ : ∀ h' o', h'.get? it = some o' → TI t (i + 1) o' → Heap.SameBut it s.heap h' → Q x { s with heap := h' }) :
    wpAny (model prog w) A (Builtin.SmallTypes.nextOf (.ref it)) Q E s := by
  refine hid ?_; intro KK
  (obtain ⟨hc, hd⟩ := hi) <;> (k_unfold; clear KK)
  have hT : s.TypeIs (.ref it) "tuple_iterator" := ⟨o, ho, hc⟩
  unfold Builtin.SmallTypes.nextOf
  refine wpAny_bind (wpAny_callSpecial?_slot (name := Str.ofString "__next__") hT F.slot_tuple_iterator_next (wpAny_call_entry F.slot_tuple_iterator_next hT F.entry_tuple_iterator_next ?_ (F.args_tuple_iterator_next_1 _)))
  show wpAny _ _ (field (.ref it) 0 >>= _) _ _ s
  refine wpAny_bind (wpAny_field ho hd (x := .ref t) rfl ?_)
  show wpAny _ _ (if (Value.ref t == Value.none) = true then _ else _) _ _ s
  rw [if_neg ref_not_none]
  show wpAny _ _ (field (.ref it) 1 >>= _) _ _ s
  refine wpAny_bind (wpAny_field ho hd (x := .int i 0) rfl ?_)
  show wpAny _ _ (seqItems? (.ref t) >>= _) _ _ s
  refine wpAny_bind (wpAny_seqItems hot hdt ?_)
  simp only [Int.toNat_natCast, hx]
  refine wpAny_bind (wpAny_setField ho hd (by simp) (wpAny_pure ⟨x, rfl, wpAny_pure (hQ _ _ (Heap.get?_update_self _ ho (Obj.isFreed_of_fields (Obj.data_mapFields hd _))) ⟨(Obj.cls_mapFields ..).trans hc, ?_⟩ (Heap.SameBut.update ..))⟩))
  rw [Obj.data_mapFields hd]; simp [rawInt]
theorem nextT_end {it t : Addr} {i : Nat} {o ot : Obj} {items : Array Value} {k : Nat} {Q : Value → Shared → Prop} (hh : A.handled = none) (ho : s.heap.get? it = some o) (hi : TI t i o)
    (hot : s.heap.get? t = some ot) (hdt : ot.data = .seq items k) (hx : items[i]? = none)
    (hE : ∀ h' e, Heap.ExtBut it s.heap h' → (∃ o, h'.get? e = some o ∧ o.cls = .type "StopIteration") → E (.ref e) { s with heap := h' }) :
    wpAny (model prog w) A (Builtin.SmallTypes.nextOf (.ref it)) Q E s := by
  refine hid ?_; intro KK
  (obtain ⟨hc, hd⟩ := hi) <;> (k_unfold; clear KK)
  have hT : s.TypeIs (.ref it) "tuple_iterator" := ⟨o, ho, hc⟩
  unfold Builtin.SmallTypes.nextOf
  refine wpAny_bind (wpAny_callSpecial?_slot (name := Str.ofString "__next__") hT F.slot_tuple_iterator_next (wpAny_call_entry F.slot_tuple_iterator_next hT F.entry_tuple_iterator_next ?_ (F.args_tuple_iterator_next_1 _)))
  show wpAny _ _ (field (.ref it) 0 >>= _) _ _ s
  refine wpAny_bind (wpAny_field ho hd (x := .ref t) rfl ?_)
  show wpAny _ _ (if (Value.ref t == Value.none) = true then _ else _) _ _ s
  rw [if_neg ref_not_none]
  show wpAny _ _ (field (.ref it) 1 >>= _) _ _ s
  refine wpAny_bind (wpAny_field ho hd (x := .int i 0) rfl ?_)
  show wpAny _ _ (seqItems? (.ref t) >>= _) _ _ s
  refine wpAny_bind (wpAny_seqItems hot hdt ?_)
  simp only [Int.toNat_natCast, hx]
  refine wpAny_bind (wpAny_rule (wpAny_bind (wpAny_setField ho hd (by simp) ?_)))
  show wpAny _ _ (newExc (.type "StopIteration") [] >>= _) _ _ _
  refine wpAny_bind ?_
  simp only [newExc, newTuple]
  refine wpAny_bind (wpAny_newObj_type ?_ (by size_fits))
  refine wpAny_bind (m := firstArgMember _ _) (wpAny_of_eq (a := Value.none) (by first | rfl | (simp only [firstArgMember]; rfl)) (wpAny_newObj_type ?_ (by size_fits)))
  simp only [raiseNew]
  refine wpAny_bind (wpAny_handled ?_)
  first | rw [show A.in1.handled = none from hh] | rw [hh]
  exact wpAny_bind (wpAny_pure (wpAny_throw (hE _ _ (((Heap.SameBut.update ..).extBut.push _).push _) ⟨_, Heap.get?_push_size _ rfl, rfl⟩)))
/-- enumerate over anything whose next item is told -/
theorem enumG_item {e it : Addr} {i : Nat} {x old : Value} {Good : Obj → Prop} {Q : Option Value → Shared → Prop} (he : s.heap.get? e = some (enumObj it (i : Int) old)) (hne : e ≠ it)
    (hnx : ∀ {B : Around} {E' : Value → Shared → Prop} (Q' : Value → Shared → Prop), (∀ h' o', h'.get? it = some o' → Good o' → Heap.SameBut it s.heap h' → Q' x { s with heap := h' }) → wpAny (model prog w) B (Builtin.SmallTypes.nextOf (.ref it)) Q' E' s)
    (hQ : ∀ h' o', h'.get? e = some { cls := .type "enumerate", data := .fields #[rawInt s.heap.objs.size, .bool false, .ref it, rawInt ((i : Int) + 1), .none, x] } → h'.get? it = some o' → Good o' → h'.get? s.heap.objs.size = some { cls := .type "tuple", data := .seq #[.int i s.toks, x] } →
      (∀ b o, b ≠ e → b ≠ it → s.heap.get? b = some o → h'.get? b = some o) → Q (some (.ref s.heap.objs.size)) { s with heap := h', toks := s.toks + 1 }) :
    wpAny (model prog w) A (pyNext (.ref e)) Q E s := by
  have hT : s.TypeIs (.ref e) "enumerate" := ⟨_, he, rfl⟩
  unfold pyNext
  refine wpAny_bind (wpAny_attempt (wpAny_callSpecial?_slot (name := Str.ofString "__next__") hT F.slot_enumerate_next (wpAny_call_entry F.slot_enumerate_next hT F.entry_enumerate_next ?_ (F.args_enumerate_next_1 _))))
  refine hid ?_; intro KK
  (obtain ⟨hp, gn, d, tk, os⟩ := s) <;> (k_unfold; clear KK)
  replace hQ := fun h' o' a b c d' k => wpAny_pure (M := model prog w) (A := A) (E := E) (hQ h' o' a b c d' k)
  have hel : e < hp.objs.size := Heap.lt_size he
  show wpAny _ _ (field (.ref e) 2 >>= _) _ _ _
  refine wpAny_bind (wpAny_field he rfl (x := .ref it) rfl (wpAny_bind (hnx _ fun h₁ o₁ hit₁ hg₁ hs₁ => ?_)))
  replace hs₁ : Heap.SameBut it hp h₁ := hs₁
  have he₁ : h₁.get? e = some (enumObj it (i : Int) old) := (hs₁.2 e hne).trans he
  show wpAny _ _ (field (.ref e) 3 >>= _) _ _ ⟨h₁, gn, d, tk, os⟩
  refine wpAny_bind (wpAny_field he₁ rfl (x := rawInt i) rfl ?_)
  show wpAny _ _ (field (.ref e) 4 >>= _) _ _ ⟨h₁, gn, d, tk, os⟩
  refine wpAny_bind (wpAny_field he₁ rfl (x := .none) rfl ?_)
  show wpAny _ _ (mkInt i >>= _) _ _ ⟨h₁, gn, d, tk, os⟩
  refine wpAny_bind (wpAny_mkInt ?_)
  show wpAny _ _ (setField (.ref e) 3 (rawInt ((i : Int) + 1)) >>= _) _ _ ⟨h₁, gn, d, tk + 1, os⟩
  refine wpAny_bind (wpAny_setField_rec he₁ (by simp) fun h₂ he₂ hs₂ => ?_)
  replace hs₂ : Heap.SameBut e h₁ h₂ := hs₂
  replace he₂ : h₂.get? e = some (enumObj it ((i : Int) + 1) old) := he₂
  show wpAny _ _ (setField (.ref e) 4 .none >>= _) _ _ ⟨h₂, gn, d, tk + 1, os⟩
  refine wpAny_bind (wpAny_setField_rec he₂ (by simp) fun h₃ he₃ hs₃ => ?_)
  replace hs₃ : Heap.SameBut e h₂ h₃ := hs₃
  replace he₃ : h₃.get? e = some (enumObj it ((i : Int) + 1) old) := he₃
  have hsz : h₃.objs.size = hp.objs.size := by rw [hs₃.1, hs₂.1, hs₁.1]
  show wpAny _ _ (newTuple [.int i tk, x] >>= _) _ _ ⟨h₃, gn, d, tk + 1, os⟩
  refine wpAny_bind (wpAny_newTuple ?_)
  have he₄ : (h₃.push { cls := .type "tuple", data := .seq #[.int i tk, x] }).get? e = some (enumObj it ((i : Int) + 1) old) := Heap.get?_push_of_some _ he₃
  have ht₄ : (h₃.push { cls := .type "tuple", data := .seq #[.int i tk, x] }).get? hp.objs.size = some { cls := .type "tuple", data := .seq #[.int i tk, x] } := by rw [← hsz]; exact Heap.get?_push_size _ rfl
  have hk₄ : ∀ b o, b ≠ e → b ≠ it → hp.get? b = some o → (h₃.push { cls := .type "tuple", data := .seq #[.int i tk, x] }).get? b = some o := fun b o q1 q2 hb => Heap.get?_push_of_some _ (hs₃.extBut b o q1 (hs₂.extBut b o q1 (hs₁.extBut b o q2 hb)))
  have hi₄ : (h₃.push { cls := .type "tuple", data := .seq #[.int i tk, x] }).get? it = some o₁ := Heap.get?_push_of_some _ (hs₃.extBut _ _ (Ne.symm hne) (hs₂.extBut _ _ (Ne.symm hne) hit₁))
  generalize h₃.push { cls := .type "tuple", data := .seq #[.int i tk, x] } = h₄ at he₄ ht₄ hk₄ hi₄
  show wpAny _ _ (Builtin.SmallTypes.ownedTupleIsFree (.ref e) >>= _) _ _ ⟨h₄, gn, d, tk + 1, os⟩
  rw [hsz]
  refine wpAny_bind ?_
  unfold Builtin.SmallTypes.ownedTupleIsFree
  refine wpAny_bind (wpAny_field he₄ rfl (x := .none) rfl (wpAny_pure ?_))
  simp only [if_true]
  refine wpAny_bind (wpAny_rule (wpAny_bind (wpAny_field he₄ rfl (x := old) rfl (wpAny_bind (wpAny_setField_rec he₄ (by simp) fun h₅ he₅ hs₅ => ?_)))))
  replace hs₅ : Heap.SameBut e h₄ h₅ := hs₅
  replace he₅ : h₅.get? e = some (enumObj it ((i : Int) + 1) x) := he₅
  show wpAny _ _ (Builtin.SmallTypes.ownedTupleHandOut (.ref e) (.ref hp.objs.size) >>= _) _ _ ⟨h₅, gn, d, tk + 1, os⟩
  refine wpAny_bind ?_
  unfold Builtin.SmallTypes.ownedTupleHandOut
  refine wpAny_bind (wpAny_setField_rec he₅ (by simp) fun h₆ he₆ hs₆ => ?_)
  replace hs₆ : Heap.SameBut e h₅ h₆ := hs₆
  refine wpAny_setField_rec he₆ (by simp) fun h₇ he₇ hs₇ => ?_
  replace hs₇ : Heap.SameBut e h₆ h₇ := hs₇
  exact wpAny_bind (wpAny_letGo (wpAny_pure ⟨_, rfl, hQ h₇ o₁ he₇ (hs₇.extBut _ _ (Ne.symm hne) (hs₆.extBut _ _ (Ne.symm hne) (hs₅.extBut _ _ (Ne.symm hne) hi₄))) hg₁
    (hs₇.extBut _ _ (Nat.ne_of_gt hel) (hs₆.extBut _ _ (Nat.ne_of_gt hel) (hs₅.extBut _ _ (Nat.ne_of_gt hel) ht₄)))
    fun b o q1 q2 hb => hs₇.extBut b o q1 (hs₆.extBut b o q1 (hs₅.extBut b o q1 (hk₄ b o q1 q2 hb)))⟩))
theorem enumG_end {e it : Addr} {i : Nat} {old : Value} {Q : Option Value → Shared → Prop} (he : s.heap.get? e = some (enumObj it (i : Int) old))
    (hnx : ∀ {B : Around} {E' : Value → Shared → Prop} (Q' : Value → Shared → Prop), B.handled = A.handled → (∀ h' e, Heap.ExtBut it s.heap h' → (∃ o, h'.get? e = some o ∧ o.cls = .type "StopIteration") → E' (.ref e) { s with heap := h' }) → wpAny (model prog w) B (Builtin.SmallTypes.nextOf (.ref it)) Q' E' s)
    (hQ : ∀ h', Heap.ExtBut it s.heap h' → Q none { s with heap := h' }) : wpAny (model prog w) A (pyNext (.ref e)) Q E s := by
  have hT : s.TypeIs (.ref e) "enumerate" := ⟨_, he, rfl⟩
  unfold pyNext
  refine wpAny_bind (wpAny_attempt (wpAny_callSpecial?_slot (name := Str.ofString "__next__") hT F.slot_enumerate_next (wpAny_call_entry F.slot_enumerate_next hT F.entry_enumerate_next ?_ (F.args_enumerate_next_1 _))))
  show wpAny _ _ (field (.ref e) 2 >>= _) _ _ _
  refine wpAny_bind (wpAny_field he rfl (x := .ref it) rfl (wpAny_bind (hnx _ rfl fun h' x he' hx' => ?_)))
  refine hid ?_; intro KK
  (obtain ⟨o, ho, hc⟩ := hx') <;> (k_unfold; clear KK)
  exact wpAny_bind (wpAny_isInstance (T := "StopIteration") (b := true) ⟨o, ho, hc⟩ isSubtype_stop (wpAny_pure (hQ _ he')))
end
open AutoSeq1 in
theorem enumT_new (l : Addr) (items : Array Value) (n : Nat) :
    Meets (Builtin.«enumerate.__new__» ⟨[.type "enumerate", .ref l], []⟩) (fun _ R s => s.heap.get? l = some { cls := .type "tuple", dict := none, data := .seq items n, slots := #[] } ∧
      R (.ok (.ret (.ref (s.heap.objs.size + 1)))) { s with heap := (s.heap.push { cls := .type "tuple_iterator", data := .fields #[.ref l, .int 0 0] }).push (enumObj s.heap.objs.size 0 .none) }) :=
  .of_wp fun prog w A R s h => by
    obtain ⟨hp, g, d, tk, os⟩ := s; obtain ⟨hl, h⟩ := h
    have hsub := sub_enumerate
    have hz : (hp.push { cls := .type "tuple_iterator", data := .fields #[.ref l, .int 0 0] }).objs.size = hp.objs.size + 1 := Heap.size_push ..
    have hL : Heap.IsTuple (Shared.heap ⟨hp, g, d, tk, os⟩) l items := ⟨_, hl, rfl, n, rfl⟩
    rw [show (Shared.heap ⟨hp, g, d, tk, os⟩).objs.size + 1 = (hp.push { cls := .type "tuple_iterator", data := .fields #[.ref l, .int 0 0] }).objs.size from hz.symm] at h
    wp_walk using wpAny_loadPart' hl
    refine wpAny_stack_any fun st => wpAny_pure ?_
    split
    · rename_i c _ _ _ _ _
      cases (c == Value.type "enumerate")
      all_goals
        wp_walk using wpAny_loadPart' hl, wpAny_pyIter_tuple hL
        exact ⟨_, rfl, h⟩
    · wp_walk using wpAny_loadPart' hl, wpAny_pyIter_tuple hL
      exact ⟨_, rfl, h⟩
noncomputable abbrev tupOf (vs : List Value) (n : Nat) : Obj := { cls := .type "tuple", data := .seq vs.toArray n }
theorem enumT_start {prog : Program} {w : World} {A : Around} {s : Shared} {E : Value → Shared → Prop} {g : Heap} {L l : Addr} {m : Str → Option Value} {news : List (Addr × Obj)} {vs : List Value} {n : Nat} {Q : Value → Shared → Prop} (F : Fr g L s.heap m) (N : News g L s.heap news) (hm : (l, tupOf vs n) ∈ news)
    (h : ∀ e it h', Fr g L h' m → News g L h' ((e, enumObj it 0 .none) :: (it, { cls := .type "tuple_iterator", data := .fields #[.ref l, .int 0 0] }) :: news) → it ≠ e → (∀ p ∈ news, p.1 < it ∧ p.1 < e) → Q (.ref e) { s with heap := h' }) :
    wpAny (model prog w) A (call (.type "enumerate") [.ref l]) Q E s := by
  refine callType_new PySem.F.called_enumerate (by decide) (PySem.F.typeCall_enumerate_1 _) (PySem.F.newCall_enumerate_1 _) (fun obj => PySem.F.args_object_init_2 obj _) PySem.F.entry_enumerate_new (enumT_new l vs.toArray n) ⟨(N _ hm).1, ?_⟩
  have hz : (s.heap.push { cls := .type "tuple_iterator", data := .fields #[.ref l, .int 0 0] }).objs.size = s.heap.objs.size + 1 := Heap.size_push ..
  have F1 := F.push { cls := .type "tuple_iterator", data := .fields #[.ref l, .int 0 0] }
  have N1 := News.push F N { cls := .type "tuple_iterator", data := .fields #[.ref l, .int 0 0] }
  have F2 := F1.push (enumObj s.heap.objs.size 0 .none)
  have N2 := News.push F1 N1 (enumObj s.heap.objs.size 0 .none)
  rw [hz] at N2
  refine ⟨⟨_, (N2 _ (.head _)).1, rfl⟩, h _ _ _ F2 N2 (Nat.ne_of_lt (Nat.lt_succ_self _)) fun p hp => ⟨Heap.lt_size (N p hp).1, Nat.lt_succ_of_lt (Heap.lt_size (N p hp).1)⟩⟩
/-- enumerate over a tuple of the ledger, its pairs unpacked -/
theorem iter_enumT (w : World) (elts : List Expr) (x1 : Nat) (pos : Pos) (e it l : Addr) (h1 : it ≠ e) (h2 : l ≠ e) (h3 : l ≠ it) (vs : List Value) (k : Nat) :
    Iter w (.Tuple elts x1 pos) (.ref e) (fun i (c : Obj × Value) => [(e, enumObj it (i : Int) c.2), (it, c.1), (l, tupOf vs k)]) (fun i c => TI l i c.1)
      [(l, tupOf vs k)] [e, it, l] vs.length (fun i v ex => ∃ T t x, v = .ref T ∧ vs[i]? = some x ∧ ex = [(T, { cls := .type "tuple", data := .seq #[.int i t, x] })]) where
  item := by
    rintro A g L m news s Q i zz0
    refine hid ?_; intro KK
    (rcases zz0 with ⟨o, old⟩) <;> (k_unfold; clear KK)
    rintro hh hi ho F N hn h
    have z := N _ (.head _)
    have z2 := N _ (.tail _ (.head _))
    have z3 := N _ (.tail _ (.tail _ (.head _)))
    refine enumG_item (x := vs[i]) (Good := TI l (i + 1)) z.1 (Ne.symm h1) (fun Q' hQ' => nextT z2.1 ho z3.1 rfl (by simp [hi]) hQ') fun h' o' hE hit hg hT hk => ?_
    refine wpAny_letOwnedTupleGo_enum hE fun h'' hE' hs => ?_
    have hkk : ∀ b ob, b ≠ e → b ≠ it → s.heap.get? b = some ob → h''.get? b = some ob := fun b ob q1 q2 e1 => (hs.2 b q1).trans (hk b ob q1 q2 e1)
    have hTe : s.heap.objs.size ≠ e := Nat.ne_of_gt (Heap.lt_size z.1)
    have hTi : s.heap.objs.size ≠ it := Nat.ne_of_gt (Heap.lt_size z2.1)
    have gne : ∀ b ob, g.get? b = some ob → b ≠ e ∧ b ≠ it := fun b ob e1 => ⟨fun q => (by rw [q, z.2.2] at e1; cases e1), fun q => (by rw [q, z2.2.2] at e1; cases e1)⟩
    have gT : g.get? s.heap.objs.size = none := by
      cases q : g.get? s.heap.objs.size with
      | none => rfl
      | some ob => exact absurd (Heap.lt_size (F.keep _ _ q)) (Nat.lt_irrefl _)
    refine hid ?_; intro KK
    (obtain ⟨oL, es, ep', hL, r⟩ := F.ns) <;> (k_unfold; clear KK)
    refine h _ [(s.heap.objs.size, { cls := .type "tuple", data := .seq #[.int i s.toks, vs[i]] })] (o', vs[i]) h'' _ ⟨_, _, _, rfl, by simp [hi], rfl⟩ hg
      ⟨⟨oL, es, ep', hkk _ _ (Ne.symm z.2.1) (Ne.symm z2.2.1) hL, r⟩, fun b ob e1 => hkk b ob (gne b ob e1).1 (gne b ob e1).2 (F.keep b ob e1), F.above⟩ ?_ ?_
    · intro p hp
      refine hid ?_; intro KK
      (rcases List.mem_cons.mp hp with rfl | hp) <;> (k_unfold; clear KK)
      · exact ⟨(hs.2 _ hTe).trans hT, Nat.ne_of_gt (Heap.lt_size hL), gT⟩
      · refine hid ?_; intro KK
        (rcases List.mem_cons.mp hp with rfl | hp) <;> (k_unfold; clear KK)
        · exact ⟨by simpa using hE', z.2⟩
        · refine hid ?_; intro KK
          (rcases List.mem_cons.mp hp with rfl | hp) <;> (k_unfold; clear KK)
          · exact ⟨(hs.2 _ h1).trans hit, z2.2⟩
          · refine hid ?_; intro KK
            (rcases List.mem_cons.mp hp with rfl | hp) <;> (k_unfold; clear KK)
            · exact ⟨hkk _ _ h2 h3 z3.1, z3.2⟩
            · have zp := N p (.tail _ (.tail _ (.tail _ hp)))
              have np := hn p hp
              simp only [List.mem_cons, List.not_mem_nil, or_false, not_or] at np
              exact ⟨hkk _ _ np.1 np.2.1 zp.1, zp.2⟩
    · intro p hp q hq
      have ep2 : p.1 = s.heap.objs.size := by rw [List.mem_singleton.mp hp]
      rw [ep2]
      refine hid ?_; intro KK
      (rcases List.mem_cons.mp hq with rfl | hq) <;> (k_unfold; clear KK)
      · exact Ne.symm hTe
      · refine hid ?_; intro KK
        (rcases List.mem_cons.mp hq with rfl | hq) <;> (k_unfold; clear KK)
        · exact Ne.symm hTi
        · exact Nat.ne_of_lt (Heap.lt_size (N q (.tail _ (.tail _ hq))).1)
  done := by
    rintro A g L m news s Q zz0
    refine hid ?_; intro KK
    (rcases zz0 with ⟨o, old⟩) <;> (k_unfold; clear KK)
    rintro hh ho F N hn h
    have z := N _ (.head _)
    have z2 := N _ (.tail _ (.head _))
    have z3 := N _ (.tail _ (.tail _ (.head _)))
    refine enumG_end (i := vs.length) z.1 (fun {B E'} Q' hB hE' => nextT_end (hB.trans hh) z2.1 ho z3.1 rfl (by simp) hE') fun h' hx => ?_
    have hn' : ∀ p ∈ (l, tupOf vs k) :: news, p.1 ≠ it := fun p hp e1 => by
      refine hid ?_; intro KK
      (rcases List.mem_cons.mp hp with rfl | hp) <;> (k_unfold; clear KK)
      · exact h3 e1
      · exact hn p hp (by simp [e1])
    exact h h' _ (fr_ext F hx z2.2.1 z2.2.2) (news_ext (fun p hp => N p (.tail _ (.tail _ hp))) hx hn')
/-- a name with a cell is stored -/
theorem storeZ_C {M : Model} {A : Around} {E : Value → Shared → Prop} {s : Shared} {h₀ : Heap} {L : Addr} {m : Str → Option Value} {env : Env} {x : Str} {v : Value} {news : List (Addr × Obj)} {c : Addr} {o : Obj} {v₀ : Option Value} {Q : Unit → Shared → Prop} (rest : List (Addr × Obj)) (F : Fr h₀ L s.heap m) (N : News h₀ L s.heap news)
    (hk : env.scope.kind = .function) (hx : env.kindOf x = some .cell) (hc : env.cells.lookup x = some c) (hm : (c, o) ∈ news) (hd : o.data = .cell v₀) (hr : ∀ p ∈ rest, p ∈ news ∧ p.1 ≠ c)
    (h : ∀ h' o', Fr h₀ L h' m → News h₀ L h' ((c, o') :: rest) → o'.data = .cell (some v) → Q () { s with heap := h' }) : wpAny M A (storeName env x v) Q E s := by
  have z := N _ hm
  refine wpAny_storeName_cell hk hx hc ⟨o, z.1, hd⟩ fun h' hv hs => ?_
  refine hid ?_; intro KK
  (obtain ⟨o', ho', hd'⟩ := hv) <;> (k_unfold; clear KK)
  refine h h' o' (fr_ext F hs.extBut z.2.1 z.2.2) (fun p hp => ?_) hd'
  refine hid ?_; intro KK
  (rcases List.mem_cons.mp hp with rfl | hp) <;> (k_unfold; clear KK)
  · exact ⟨ho', z.2⟩
  · have q := hr p hp
    exact ⟨hs.extBut _ _ q.2 (N p q.1).1, (N p q.1).2⟩
noncomputable abbrev zipObj (TI TO : Addr) : Obj := { cls := .type "zip", data := .fields #[.none, .bool false, .bool false, .ref TI, .ref TO] }
noncomputable abbrev pairObj (a b : Value) : Obj := { cls := .type "tuple", data := .seq #[a, b] }
noncomputable abbrev LI (l : Addr) (i : Nat) (o : Obj) : Prop := o.cls = .type "list_iterator" ∧ o.data = .fields #[.ref l, .int (i : Int) 0]
/-- zip over two lists of the ledger, its pairs unpacked -/
theorem iter_zip (w : World) (elts : List Expr) (x1 : Nat) (pos : Pos) (z TI TO i1 i2 l1 l2 : Addr) (D : ZipApart z TI TO i1 i2 l1 l2) (xs ys : List Value) (e1 e2 : Nat) (hlen : xs.length ≤ ys.length) :
    Iter w (.Tuple elts x1 pos) (.ref z) (fun i (c : (Value × Value) × Obj × Obj) => [(z, zipObj TI TO), (TI, pairObj (.ref i1) (.ref i2)), (TO, pairObj c.1.1 c.1.2), (i1, c.2.1), (i2, c.2.2), (l1, listOf xs.toArray e1), (l2, listOf ys.toArray e2)])
      (fun i c => LI l1 i c.2.1 ∧ LI l2 i c.2.2) [(l1, listOf xs.toArray e1), (l2, listOf ys.toArray e2)] [z, TI, TO, i1, i2, l1, l2] xs.length
      (fun i v ex => ∃ T x y, v = .ref T ∧ xs[i]? = some x ∧ ys[i]? = some y ∧ ex = [(T, pairObj x y)]) where
  item := by
    rintro A g L m news s Q i zz0
    refine hid ?_; intro KK
    (rcases zz0 with ⟨⟨a, b⟩, o1, o2⟩) <;> (k_unfold; clear KK)
    rintro hh hi zz1
    refine hid ?_; intro KK
    (rcases zz1 with ⟨ho1, ho2⟩) <;> (k_unfold; clear KK)
    rintro F N hn h
    have hi2 : i < ys.length := Nat.lt_of_lt_of_le hi hlen
    have n1 := N _ (.head _)
    have n2 := N _ (.tail _ (.head _))
    have n3 := N _ (.tail _ (.tail _ (.head _)))
    have n4 := N _ (.tail _ (.tail _ (.tail _ (.head _))))
    have n5 := N _ (.tail _ (.tail _ (.tail _ (.tail _ (.head _)))))
    have n6 := N _ (.tail _ (.tail _ (.tail _ (.tail _ (.tail _ (.head _))))))
    have n7 := N _ (.tail _ (.tail _ (.tail _ (.tail _ (.tail _ (.tail _ (.head _)))))))
    refine wpAny_pyNext_zip_item (x := xs[i]) (y := ys[i]) D n1.1 n2.1 n3.1 ⟨o1, n4.1, ho1⟩ ⟨o2, n5.1, ho2⟩ ⟨_, n6.1, rfl, _, rfl⟩ ⟨_, n7.1, rfl, _, rfl⟩ (by simp [hi]) (by simp [hi2]) fun h' a1 a2 a3 a4 a5 a6 hk => ?_
    refine wpAny_letOwnedTupleGo_zip a1 fun h'' hz' hs' => ?_
    have lt : ∀ {c : Addr} {o : Obj}, s.heap.get? c = some o → s.heap.objs.size ≠ c := fun e => Nat.ne_of_gt (Heap.lt_size e)
    have hkk : ∀ c o, c ≠ z → c ≠ TO → c ≠ i1 → c ≠ i2 → s.heap.get? c = some o → h''.get? c = some o := fun c o q1 q2 q3 q4 e => hs'.extBut _ _ q1 (hk c o q1 q2 q3 q4 e)
    refine hid ?_; intro KK
    (obtain ⟨o1', p1, p1', p1''⟩ := a3) <;> (k_unfold; clear KK)
    refine hid ?_; intro KK
    (obtain ⟨o2', p2, p2', p2''⟩ := a4) <;> (k_unfold; clear KK)
    have gne : ∀ c o, g.get? c = some o → c ≠ z ∧ c ≠ TO ∧ c ≠ i1 ∧ c ≠ i2 := fun c o e => ⟨fun q => (by rw [q, n1.2.2] at e; cases e), fun q => (by rw [q, n3.2.2] at e; cases e), fun q => (by rw [q, n4.2.2] at e; cases e), fun q => (by rw [q, n5.2.2] at e; cases e)⟩
    have gT : g.get? s.heap.objs.size = none := by
      cases q : g.get? s.heap.objs.size with
      | none => rfl
      | some ob => exact absurd (Heap.lt_size (F.keep _ _ q)) (Nat.lt_irrefl _)
    refine hid ?_; intro KK
    (obtain ⟨oL, es, ep', hL, r⟩ := F.ns) <;> (k_unfold; clear KK)
    refine h _ [(s.heap.objs.size, pairObj xs[i] ys[i])] ((xs[i], ys[i]), o1', o2') h'' _ ⟨_, _, _, rfl, by simp [hi], by simp [hi2], rfl⟩ ⟨⟨p1', p1''⟩, p2', p2''⟩
      ⟨⟨oL, es, ep', hkk _ _ (Ne.symm n1.2.1) (Ne.symm n3.2.1) (Ne.symm n4.2.1) (Ne.symm n5.2.1) hL, r⟩, fun b ob e => (fun q => hkk b ob q.1 q.2.1 q.2.2.1 q.2.2.2 (F.keep b ob e)) (gne b ob e), F.above⟩ ?_ ?_
    · intro p hp
      refine hid ?_; intro KK
      (rcases List.mem_cons.mp hp with rfl | hp) <;> (k_unfold; clear KK)
      · exact ⟨hs'.extBut _ _ (lt n1.1) a5, Nat.ne_of_gt (Heap.lt_size hL), gT⟩
      · refine hid ?_; intro KK
        (rcases List.mem_cons.mp hp with rfl | hp) <;> (k_unfold; clear KK)
        · exact ⟨hz', n1.2⟩
        · refine hid ?_; intro KK
          (rcases List.mem_cons.mp hp with rfl | hp) <;> (k_unfold; clear KK)
          · exact ⟨hkk _ _ D.TIz D.TITO D.TIi1 D.TIi2 n2.1, n2.2⟩
          · refine hid ?_; intro KK
            (rcases List.mem_cons.mp hp with rfl | hp) <;> (k_unfold; clear KK)
            · exact ⟨hs'.extBut _ _ D.TOz a2, n3.2⟩
            · refine hid ?_; intro KK
              (rcases List.mem_cons.mp hp with rfl | hp) <;> (k_unfold; clear KK)
              · exact ⟨hs'.extBut _ _ D.i1z p1, n4.2⟩
              · refine hid ?_; intro KK
                (rcases List.mem_cons.mp hp with rfl | hp) <;> (k_unfold; clear KK)
                · exact ⟨hs'.extBut _ _ D.i2z p2, n5.2⟩
                · refine hid ?_; intro KK
                  (rcases List.mem_cons.mp hp with rfl | hp) <;> (k_unfold; clear KK)
                  · exact ⟨hkk _ _ D.l1z D.l1TO D.l1i1 D.l1i2 n6.1, n6.2⟩
                  · refine hid ?_; intro KK
                    (rcases List.mem_cons.mp hp with rfl | hp) <;> (k_unfold; clear KK)
                    · exact ⟨hkk _ _ D.l2z D.l2TO D.l2i1 D.l2i2 n7.1, n7.2⟩
                    · have zp := N p (.tail _ (.tail _ (.tail _ (.tail _ (.tail _ (.tail _ (.tail _ hp)))))))
                      have np := hn p hp
                      simp only [List.mem_cons, List.not_mem_nil, or_false, not_or] at np
                      exact ⟨hkk _ _ np.1 np.2.2.1 np.2.2.2.1 np.2.2.2.2.1 zp.1, zp.2⟩
    · intro p hp q hq
      have ep2 : p.1 = s.heap.objs.size := by rw [List.mem_singleton.mp hp]
      rw [ep2]
      refine hid ?_; intro KK
      (rcases List.mem_cons.mp hq with rfl | hq) <;> (k_unfold; clear KK)
      · exact Ne.symm (lt n1.1)
      · refine hid ?_; intro KK
        (rcases List.mem_cons.mp hq with rfl | hq) <;> (k_unfold; clear KK)
        · exact Ne.symm (lt n2.1)
        · refine hid ?_; intro KK
          (rcases List.mem_cons.mp hq with rfl | hq) <;> (k_unfold; clear KK)
          · exact Ne.symm (lt n3.1)
          · refine hid ?_; intro KK
            (rcases List.mem_cons.mp hq with rfl | hq) <;> (k_unfold; clear KK)
            · exact Ne.symm (lt n4.1)
            · refine hid ?_; intro KK
              (rcases List.mem_cons.mp hq with rfl | hq) <;> (k_unfold; clear KK)
              · exact Ne.symm (lt n5.1)
              · exact Ne.symm (lt (N q (.tail _ (.tail _ (.tail _ (.tail _ (.tail _ hq)))))).1)
  done := by
    rintro A g L m news s Q zz0
    refine hid ?_; intro KK
    (rcases zz0 with ⟨⟨a, b⟩, o1, o2⟩) <;> (k_unfold; clear KK)
    rintro hh zz1
    refine hid ?_; intro KK
    (rcases zz1 with ⟨ho1, ho2⟩) <;> (k_unfold; clear KK)
    rintro F N hn h
    have n1 := N _ (.head _)
    have n2 := N _ (.tail _ (.head _))
    have n3 := N _ (.tail _ (.tail _ (.head _)))
    have n4 := N _ (.tail _ (.tail _ (.tail _ (.head _))))
    have n5 := N _ (.tail _ (.tail _ (.tail _ (.tail _ (.head _)))))
    have n6 := N _ (.tail _ (.tail _ (.tail _ (.tail _ (.tail _ (.head _))))))
    have n7 := N _ (.tail _ (.tail _ (.tail _ (.tail _ (.tail _ (.tail _ (.head _)))))))
    refine wpAny_pyNext_zip_end hh D n1.1 n2.1 n3.1 ⟨o1, n4.1, ho1⟩ ⟨o2, n5.1, ho2⟩ (xs := xs.toArray) (ys := ys.toArray) ⟨_, n6.1, rfl, _, rfl⟩ ⟨_, n7.1, rfl, _, rfl⟩ (.inl (by simp)) fun h' hk => ?_
    have gne : ∀ c o, g.get? c = some o → c ≠ z ∧ c ≠ TO ∧ c ≠ i1 ∧ c ≠ i2 := fun c o e => ⟨fun q => (by rw [q, n1.2.2] at e; cases e), fun q => (by rw [q, n3.2.2] at e; cases e), fun q => (by rw [q, n4.2.2] at e; cases e), fun q => (by rw [q, n5.2.2] at e; cases e)⟩
    refine hid ?_; intro KK
    (obtain ⟨oL, es, ep', hL, r⟩ := F.ns) <;> (k_unfold; clear KK)
    refine h h' _ ⟨⟨oL, es, ep', hk _ _ (Ne.symm n1.2.1) (Ne.symm n3.2.1) (Ne.symm n4.2.1) (Ne.symm n5.2.1) hL, r⟩, fun b ob e => (fun q => hk b ob q.1 q.2.1 q.2.2.1 q.2.2.2 (F.keep b ob e)) (gne b ob e), F.above⟩ ?_
    intro p hp
    refine hid ?_; intro KK
    (rcases List.mem_cons.mp hp with rfl | hp) <;> (k_unfold; clear KK)
    · exact ⟨hk _ _ D.l1z D.l1TO D.l1i1 D.l1i2 n6.1, n6.2⟩
    · refine hid ?_; intro KK
      (rcases List.mem_cons.mp hp with rfl | hp) <;> (k_unfold; clear KK)
      · exact ⟨hk _ _ D.l2z D.l2TO D.l2i1 D.l2i2 n7.1, n7.2⟩
      · have zp := N p (.tail _ (.tail _ (.tail _ (.tail _ (.tail _ (.tail _ (.tail _ hp)))))))
        have np := hn p hp
        simp only [List.mem_cons, List.not_mem_nil, or_false, not_or] at np
        exact ⟨hk _ _ np.1 np.2.2.1 np.2.2.2.1 np.2.2.2.2.1 zp.1, zp.2⟩
theorem zip_start {prog : Program} {w : World} {A : Around} {s : Shared} {E : Value → Shared → Prop} {g : Heap} {L l1 l2 : Addr} {m : Str → Option Value} {news : List (Addr × Obj)} {xs ys : List Value} {e1 e2 : Nat} {Q : Value → Shared → Prop} (F : Fr g L s.heap m) (N : News g L s.heap news) (hm1 : (l1, listOf xs.toArray e1) ∈ news) (hm2 : (l2, listOf ys.toArray e2) ∈ news)
    (h : ∀ z TI TO i1 i2 o1 o2 h', Fr g L h' m → News g L h' ((z, zipObj TI TO) :: (TI, pairObj (.ref i1) (.ref i2)) :: (TO, pairObj .none .none) :: (i1, o1) :: (i2, o2) :: news) → LI l1 0 o1 → LI l2 0 o2 → ZipApart z TI TO i1 i2 l1 l2 → (∀ p ∈ news, p.1 < i1 ∧ p.1 < i2 ∧ p.1 < TI ∧ p.1 < TO ∧ p.1 < z) → Q (.ref z) { s with heap := h' }) :
    wpAny (model prog w) A (call (.type "zip") [.ref l1, .ref l2]) Q E s := by
  have q1 := Heap.lt_size (N _ hm1).1
  have q2 := Heap.lt_size (N _ hm2).1
  refine call_zip_2 (News.isList N hm1) (News.isList N hm2) fun h' a1 a2 a3 ⟨o1, b1, b1'⟩ ⟨o2, b2, b2'⟩ _ hk => ?_
  refine hid ?_; intro KK
  (obtain ⟨oL, es, ep', hL, r⟩ := F.ns) <;> (k_unfold; clear KK)
  have hLz := Heap.lt_size hL
  have gN : ∀ b, s.heap.objs.size ≤ b → g.get? b = none := fun b hb => Heap.get?_none_of_le (Nat.le_trans F.above (Nat.le_trans (Nat.le_of_lt hLz) hb))
  have key : ∀ k, s.heap.objs.size + k ≠ L ∧ g.get? (s.heap.objs.size + k) = none := fun k => ⟨Nat.ne_of_gt (Nat.lt_of_lt_of_le hLz (Nat.le_add_right _ _)), gN _ (Nat.le_add_right _ _)⟩
  have up : ∀ (a k : Nat), a < s.heap.objs.size → a < s.heap.objs.size + k := fun a k h => Nat.lt_of_lt_of_le h (Nat.le_add_right _ _)
  refine h _ (s.heap.objs.size + 2) (s.heap.objs.size + 3) s.heap.objs.size (s.heap.objs.size + 1) o1 o2 h' ⟨⟨oL, es, ep', hk _ _ hL, r⟩, fun b ob e => hk _ _ (F.keep b ob e), F.above⟩ ?_ b1' b2' ?_ fun p hp => ?_
  · intro p hp
    refine hid ?_; intro KK
    (rcases List.mem_cons.mp hp with rfl | hp) <;> (k_unfold; clear KK)
    · exact ⟨a1, key 4⟩
    · refine hid ?_; intro KK
      (rcases List.mem_cons.mp hp with rfl | hp) <;> (k_unfold; clear KK)
      · exact ⟨a2, key 2⟩
      · refine hid ?_; intro KK
        (rcases List.mem_cons.mp hp with rfl | hp) <;> (k_unfold; clear KK)
        · exact ⟨a3, key 3⟩
        · refine hid ?_; intro KK
          (rcases List.mem_cons.mp hp with rfl | hp) <;> (k_unfold; clear KK)
          · exact ⟨b1, key 0⟩
          · refine hid ?_; intro KK
            (rcases List.mem_cons.mp hp with rfl | hp) <;> (k_unfold; clear KK)
            · exact ⟨b2, key 1⟩
            · exact ⟨hk _ _ (N p hp).1, (N p hp).2⟩
  · have a4 : ∀ (a k j : Nat), k ≠ j → a + k ≠ a + j := fun a k j h => by omega
    have b4 : ∀ (a k : Nat), 0 < k → a ≠ a + k := fun a k h => by omega
    have ne : ∀ (a k : Nat), a < s.heap.objs.size → a ≠ s.heap.objs.size + k := fun a k h => Nat.ne_of_lt (up a k h)
    exact ⟨a4 _ 2 4 (by decide), a4 _ 3 4 (by decide), b4 _ 4 (by decide), a4 _ 1 4 (by decide), a4 _ 2 3 (by decide), (b4 _ 2 (by decide)).symm, a4 _ 2 1 (by decide), (b4 _ 3 (by decide)).symm, a4 _ 3 1 (by decide), b4 _ 1 (by decide),
      ne _ 4 q1, ne _ 3 q1, ne _ 0 q1, ne _ 1 q1, ne _ 4 q2, ne _ 3 q2, ne _ 0 q2, ne _ 1 q2⟩
  · have q := Heap.lt_size (N p hp).1
    exact ⟨q, up _ 1 q, up _ 2 q, up _ 3 q, up _ 4 q⟩
/-- two sorted lists with the same members are one -/
theorem nodup_of_sorted {a : List Str} (h : a.Pairwise (fun x y => ltStr x y = true)) : a.Nodup := h.imp fun {x y} hxy e => by rw [e, lin_str.irr] at hxy; cases hxy
theorem sorted_ext {a b : List Str} (ha : a.Pairwise (fun x y => ltStr x y = true)) (hb : b.Pairwise (fun x y => ltStr x y = true)) (h : ∀ x, x ∈ a ↔ x ∈ b) : a = b := by
  refine List.Perm.eq_of_pairwise (fun x y _ _ h1 h2 => ?_) ha hb ((List.perm_ext_iff_of_nodup (nodup_of_sorted ha) (nodup_of_sorted hb)).mpr h)
  have := lin_str.tr h1 h2
  rw [lin_str.irr] at this; cases this
noncomputable def insJ (h j : Nat) : List Nat → List Nat
  | [] => [j]
  | k :: r => if ltStr (flagName (h + k)) (flagName (h + j)) then k :: insJ h j r else j :: k :: r
/-- the four names' order -/
noncomputable def ord (h : Nat) : List Nat := (List.range 4).foldl (fun a j => insJ h j a) []
noncomputable def ordOk (h : Nat) : Bool := decide ((ord h).Pairwise (fun a b => ltStr (flagName (h + a)) (flagName (h + b)) = true)) && (decide (∀ j ∈ ord h, j < 4) && decide (∀ j ∈ List.range 4, j ∈ ord h))
theorem ord_ok : ∀ h, h < 11 → ordOk h = true := by decide +kernel
theorem ord_sorted {h : Nat} (hh : h < 11) : (ord h).Pairwise (fun a b => ltStr (flagName (h + a)) (flagName (h + b)) = true) := by
  have := ord_ok h hh
  simp only [ordOk, Bool.and_eq_true, decide_eq_true_eq] at this
  exact this.1
theorem mem_ord {h : Nat} (hh : h < 11) (j : Nat) : j ∈ ord h ↔ j < 4 := by
  have := ord_ok h hh
  simp only [ordOk, Bool.and_eq_true, decide_eq_true_eq] at this
  exact ⟨this.2.1 j, fun hj => this.2.2 j (List.mem_range.mpr hj)⟩
noncomputable def srtJ (h S : Nat) : List Nat := (ord h).filter fun j => S.testBit j
noncomputable def srt (h S : Nat) : List Str := (srtJ h S).map fun j => flagName (h + j)
theorem mem_srtJ {h : Nat} (hh : h < 11) {S j : Nat} : j ∈ srtJ h S ↔ j < 4 ∧ S.testBit j = true := by rw [srtJ, List.mem_filter, mem_ord hh]
theorem mem_srt {h : Nat} (hh : h < 11) {S : Nat} {nm : Str} : nm ∈ srt h S ↔ ∃ j, (j < 4 ∧ S.testBit j = true) ∧ flagName (h + j) = nm := by
  rw [srt, List.mem_map]
  exact ⟨fun ⟨j, a, b⟩ => ⟨j, (mem_srtJ hh).mp a, b⟩, fun ⟨j, a, b⟩ => ⟨j, (mem_srtJ hh).mpr a, b⟩⟩
theorem mem_nms {h S : Nat} {nm : Str} : nm ∈ nms h S ↔ ∃ j, (j < 4 ∧ S.testBit j = true) ∧ flagName (h + j) = nm := by
  rw [nms, List.mem_map]
  refine ⟨fun ⟨j, a, b⟩ => ⟨j, ?_, b⟩, fun ⟨j, a, b⟩ => ⟨j, ?_, b⟩⟩
  · rw [List.mem_filter, List.mem_range] at a; exact a
  · rw [List.mem_filter, List.mem_range]; exact a
theorem srt_sorted {h : Nat} (hh : h < 11) (S : Nat) : (srt h S).Pairwise (fun a b => ltStr a b = true) := by
  rw [srt, List.pairwise_map]
  exact (ord_sorted hh).sublist List.filter_sublist
theorem srt_zero (h : Nat) : srt h 0 = [] := by simp [srt, srtJ]
theorem mem_keeps {y : Str} : ∀ (l a : List Str), y ∈ l.foldl (fun a nm => keep ltStr nm a) a ↔ y ∈ l ∨ y ∈ a
  | [], a => by simp
  | nm :: r, a => by
    rw [List.foldl_cons, mem_keeps r, mem_keep, List.mem_cons]
    constructor
    · rintro (h | h | h) <;> simp [h]
    · rintro ((h | h) | h) <;> simp [h]
theorem keeps_sorted : ∀ (l a : List Str), a.Pairwise (fun x y => ltStr x y = true) → (l.foldl (fun a nm => keep ltStr nm a) a).Pairwise (fun x y => ltStr x y = true)
  | [], _, h => h
  | _ :: r, _, h => keeps_sorted r _ (keep_sorted lin_str h)
theorem keeps_nms {h : Nat} (hh : h < 11) (W S : Nat) : (nms h S).foldl (fun a nm => keep ltStr nm a) (srt h W) = srt h (W ||| S) := by
  refine sorted_ext (keeps_sorted _ _ (srt_sorted hh W)) (srt_sorted hh _) fun x => ?_
  rw [mem_keeps, mem_nms, mem_srt hh, mem_srt hh]
  constructor
  · rintro zz0
    refine hid ?_; intro KK
    (rcases zz0 with ⟨j, a, b⟩ | ⟨j, a, b⟩) <;> (k_unfold; clear KK)
    · exact ⟨j, ⟨a.1, by simp [a.2]⟩, b⟩
    · exact ⟨j, ⟨a.1, by simp [a.2]⟩, b⟩
  · rintro zz0
    refine hid ?_; intro KK
    (rcases zz0 with ⟨j, ⟨a1, a2⟩, b⟩) <;> (k_unfold; clear KK)
    rw [Nat.testBit_or, Bool.or_eq_true] at a2
    exact a2.elim (fun a2 => .inr ⟨j, ⟨a1, a2⟩, b⟩) fun a2 => .inl ⟨j, ⟨a1, a2⟩, b⟩
theorem flag_inj : ∀ h, h < 11 → ∀ i, i < 4 → ∀ j, j < 4 → flagName (h + i) = flagName (h + j) → i = j := by
  intro h hh i hi j hj e
  have key : ∀ {l : List Nat}, l.Pairwise (fun a b => ltStr (flagName (h + a)) (flagName (h + b)) = true) → i ∈ l → j ∈ l → i = j := by
    intro l hl
    induction l with
    | nil => intro h; cases h
    | cons a r ih =>
      rw [List.pairwise_cons] at hl
      intro h1 h2
      refine hid ?_; intro KK
      (rcases List.mem_cons.mp h1 with e1 | h3) <;> (k_unfold; clear KK)
      · refine hid ?_; intro KK
        (rcases List.mem_cons.mp h2 with e2 | h4) <;> (k_unfold; clear KK)
        · rw [e1, e2]
        · have := hl.1 j h4; rw [← e1, e, lin_str.irr] at this; cases this
      · refine hid ?_; intro KK
        (rcases List.mem_cons.mp h2 with e2 | h4) <;> (k_unfold; clear KK)
        · have := hl.1 i h3; rw [← e2, e, lin_str.irr] at this; cases this
        · exact ih hl.2 h3 h4
  exact key (ord_sorted hh) ((mem_ord hh i).mpr hi) ((mem_ord hh j).mpr hj)
theorem flag_ne : ∀ i, i < 14 → flagName i ≠ Str.ofString "0x0" := by decide +kernel
theorem nms_nodup {h : Nat} (hh : h < 11) (S : Nat) : (nms h S).Nodup := by
  rw [nms, List.Nodup, List.pairwise_map]
  have h1 : ((List.range 4).filter fun j => S.testBit j).Pairwise (· ≠ ·) := List.Pairwise.sublist List.filter_sublist List.nodup_range
  refine List.Pairwise.imp_of_mem (fun {a b} ha hb hne e => hne ?_) h1
  rw [List.mem_filter, List.mem_range] at ha hb
  exact flag_inj h hh a ha.1 b hb.1 e
theorem addNames (i : Nat) : ∀ (l : List Str) (NC : List Str × (Str → List Nat)), l.Nodup → (∀ nm ∈ l, nm ≠ Str.ofString "0x0") →
    (l.foldl (addName i) NC).1 = l.foldl (fun a nm => keep ltStr nm a) NC.1 ∧ ∀ k, (l.foldl (addName i) NC).2 k = if k ∈ l then NC.2 k ++ [i] else NC.2 k
  | [], NC, _, _ => ⟨rfl, fun k => by simp⟩
  | nm :: r, NC, hn, hz => by
    rw [List.nodup_cons] at hn
    have e : addName i NC nm = (keep ltStr nm NC.1, fun k => if k = nm then NC.2 nm ++ [i] else NC.2 k) := if_neg (hz nm (.head _))
    refine hid ?_; intro KK
    (obtain ⟨h1, h2⟩ := addNames i r (addName i NC nm) hn.2 (fun x hx => hz x (.tail _ hx))) <;> (k_unfold; clear KK)
    rw [List.foldl_cons]
    refine ⟨by rw [h1, e]; rfl, fun k => ?_⟩
    rw [h2 k, e]
    dsimp only
    by_cases hk : k = nm
    · refine hid ?_; intro KK
      (subst hk) <;> (k_unfold; clear KK)
      rw [if_neg hn.1, if_pos rfl, if_pos (.head _)]
    · rw [if_neg hk]
      simp only [List.mem_cons, hk, false_or]
theorem addNames0 {h : Nat} (hh : h < 11) (i S : Nat) (NC : List Str × (Str → List Nat)) :
    ((nms0 h S).foldl (addName i) NC).1 = (nms h S).foldl (fun a nm => keep ltStr nm a) NC.1 ∧ ∀ k, ((nms0 h S).foldl (addName i) NC).2 k = if k ∈ nms h S then NC.2 k ++ [i] else NC.2 k := by
  by_cases hS : S = 0
  · refine hid ?_; intro KK
    (subst hS) <;> (k_unfold; clear KK)
    have e : addName i NC (Str.ofString "0x0") = NC := if_pos rfl
    have e2 : nms h 0 = [] := by simp [nms]
    rw [e2, show nms0 h 0 = [Str.ofString "0x0"] from if_pos rfl, List.foldl_cons, e]
    exact ⟨rfl, fun k => by simp⟩
  · rw [show nms0 h S = nms h S from if_neg hS]
    refine addNames i _ NC (nms_nodup hh S) fun nm hm => ?_
    refine hid ?_; intro KK
    (obtain ⟨j, ⟨a, _⟩, rfl⟩ := mem_nms.mp hm) <;> (k_unfold; clear KK)
    exact flag_ne _ (by omega)
/-- the rows laid together up to i -/
noncomputable def upW (Ss : List Nat) : Nat → Nat
  | 0 => 0
  | i + 1 => upW Ss i ||| Ss.getD i 0
theorem stAt_is {h : Nat} (hh : h < 11) {rs : List (List Wd)} {Ss : List Nat} : ∀ i, (∀ k, k < i → ((rs.getD k []).map fun p => p.2.2) = nms0 h (Ss.getD k 0)) →
    (stAt rs i).1 = srt h (upW Ss i) ∧ ∀ j, j < 4 → (stAt rs i).2 (flagName (h + j)) = (List.range i).filter fun p => (Ss.getD p 0).testBit j
  | 0, _ => ⟨(srt_zero h).symm, fun _ _ => rfl⟩
  | i + 1, hW => by
    refine hid ?_; intro KK
    (obtain ⟨h1, h2⟩ := stAt_is hh i fun k hk => hW k (Nat.lt_succ_of_lt hk)) <;> (k_unfold; clear KK)
    refine hid ?_; intro KK
    (obtain ⟨h3, h4⟩ := addNames0 hh i (Ss.getD i 0) (stAt rs i)) <;> (k_unfold; clear KK)
    have e : stAt rs (i + 1) = (nms0 h (Ss.getD i 0)).foldl (addName i) (stAt rs i) := by rw [stAt, readRow, hW i (Nat.lt_succ_self _)]
    rw [e]
    refine ⟨by rw [h3, h1, upW]; exact keeps_nms hh _ _, fun j hj => ?_⟩
    rw [h4, h2 j hj, List.range_succ, List.filter_append]
    have hm : flagName (h + j) ∈ nms h (Ss.getD i 0) ↔ (Ss.getD i 0).testBit j = true := by
      rw [mem_nms]
      constructor
      · rintro zz0
        refine hid ?_; intro KK
        (rcases zz0 with ⟨j', ⟨a, b⟩, e⟩) <;> (k_unfold; clear KK)
        rw [← flag_inj h hh j' a j hj e]; exact b
      · exact fun b => ⟨j, ⟨hj, b⟩, rfl⟩
    cases hb : (Ss.getD i 0).testBit j with
    | true => rw [if_pos (hm.mpr hb), List.filter_cons_of_pos (by exact hb), List.filter_nil]
    | false => rw [if_neg (fun q => by rw [hm.mp q] at hb; cases hb), List.filter_cons_of_neg (by rw [hb]; exact Bool.false_ne_true), List.filter_nil, List.append_nil]
/-- the places of a name -/
noncomputable def colm (Ss : List Nat) (j : Nat) : Nat := ((Ss.getD 0 0).testBit j).toNat + 2 * ((Ss.getD 1 0).testBit j).toNat + 4 * ((Ss.getD 2 0).testBit j).toNat + 8 * ((Ss.getD 3 0).testBit j).toNat
theorem bits4 : ∀ a b c d : Bool, (a.toNat + 2 * b.toNat + 4 * c.toNat + 8 * d.toNat < 16) ∧ (a.toNat + 2 * b.toNat + 4 * c.toNat + 8 * d.toNat).testBit 0 = a ∧ (a.toNat + 2 * b.toNat + 4 * c.toNat + 8 * d.toNat).testBit 1 = b ∧
    (a.toNat + 2 * b.toNat + 4 * c.toNat + 8 * d.toNat).testBit 2 = c ∧ (a.toNat + 2 * b.toNat + 4 * c.toNat + 8 * d.toNat).testBit 3 = d := by decide
theorem colm_lt (Ss : List Nat) (j : Nat) : colm Ss j < 16 := (bits4 _ _ _ _).1
theorem colm_bit (Ss : List Nat) (j : Nat) : ∀ i, i < 4 → (colm Ss j).testBit i = (Ss.getD i 0).testBit j
  | 0, _ => (bits4 _ _ _ _).2.1
  | 1, _ => (bits4 _ _ _ _).2.2.1
  | 2, _ => (bits4 _ _ _ _).2.2.2.1
  | 3, _ => (bits4 _ _ _ _).2.2.2.2
  | _ + 4, h => absurd h (by omega)
theorem mlist_colm (Ss : List Nat) (j : Nat) : mlist (colm Ss j) = (List.range 4).filter fun p => (Ss.getD p 0).testBit j := by
  rw [mlist]
  exact List.filter_congr fun p hp => colm_bit Ss j p (List.mem_range.mp hp)
section
variable (H : Nat → Nat → Bool) (x y : Int)
noncomputable def sumA : List Nat → List Nat → Int
  | [], M => (1 + y) ^ M.length
  | i :: R, M => sumA R M + x * sumA R (M.filter fun j => !H i j)
noncomputable def sumB : List Nat → List Nat → Int
  | R, [] => (1 + x) ^ R.length
  | R, j :: M => sumB R M + y * sumB (R.filter fun i => !H i j) M
theorem sumA_nil : ∀ R, sumA H x y R [] = (1 + x) ^ R.length
  | [] => by simp [sumA]
  | i :: R => by
    rw [sumA, List.filter_nil, sumA_nil R, List.length_cons, Int.pow_succ]
    grind
theorem sumA_cons (j : Nat) : ∀ R M, sumA H x y R (j :: M) = sumA H x y R M + y * sumA H x y (R.filter fun i => !H i j) M
  | [], M => by
    simp only [sumA, List.filter_nil, List.length_cons, Int.pow_succ]
    grind
  | i :: R, M => by
    rw [sumA, sumA_cons j R M, List.filter_cons]
    cases h : H i j with
    | true =>
      rw [List.filter_cons]
      simp only [h, Bool.not_true, Bool.false_eq_true, if_false]
      rw [sumA]
      grind
    | false =>
      rw [List.filter_cons]
      simp only [h, Bool.not_false, if_true]
      rw [sumA_cons j R, sumA, sumA]
      grind
theorem dowker : ∀ M R, sumA H x y R M = sumB H x y R M
  | [], R => by rw [sumB, sumA_nil]
  | j :: M, R => by rw [sumB, sumA_cons, dowker M R, dowker M _]
end
/-- an injective relation -/
theorem length_le_of_rel {α β : Type} [DecidableEq β] (R : α → β → Prop) : ∀ (K₁ : List α) (K₂ : List β), K₁.Nodup → (∀ s ∈ K₁, ∃ t ∈ K₂, R s t) → (∀ s s' t, s ∈ K₁ → s' ∈ K₁ → R s t → R s' t → s = s') → K₁.length ≤ K₂.length
  | [], _, _, _, _ => Nat.zero_le _
  | s :: K₁, K₂, hn, ht, hi => by
    obtain ⟨t, htm, hR⟩ := ht s (.head _)
    rw [List.nodup_cons] at hn
    have h := length_le_of_rel R K₁ (K₂.erase t) hn.2 (fun s' hs' => by
      obtain ⟨t', ht', hR'⟩ := ht s' (.tail _ hs')
      refine ⟨t', ?_, hR'⟩
      refine (List.mem_erase_of_ne ?_).mpr ht'
      rintro rfl
      exact hn.1 (hi s s' _ (.head _) (.tail _ hs') hR hR' ▸ hs')) (fun a b t ha hb => hi a b t (.tail _ ha) (.tail _ hb))
    rw [List.length_erase_of_mem htm] at h
    have := List.length_pos_of_mem htm
    simp only [List.length_cons]
    omega
noncomputable def splOk (h S : Nat) : Bool := decide (Txt.split (pflags (S * 2 ^ h)) (Str.ofString ", ") = nms0 h S)
theorem spl0 : ∀ S, S < 16 → splOk 0 S = true := by decide +kernel
theorem spl1 : ∀ S, S < 16 → splOk 1 S = true := by decide +kernel
theorem spl2 : ∀ S, S < 16 → splOk 2 S = true := by decide +kernel
theorem spl3 : ∀ S, S < 16 → splOk 3 S = true := by decide +kernel
theorem spl4 : ∀ S, S < 16 → splOk 4 S = true := by decide +kernel
theorem spl5 : ∀ S, S < 16 → splOk 5 S = true := by decide +kernel
theorem spl6 : ∀ S, S < 16 → splOk 6 S = true := by decide +kernel
theorem spl7 : ∀ S, S < 16 → splOk 7 S = true := by decide +kernel
theorem spl8 : ∀ S, S < 16 → splOk 8 S = true := by decide +kernel
theorem spl9 : ∀ S, S < 16 → splOk 9 S = true := by decide +kernel
theorem spl10 : ∀ S, S < 16 → splOk 10 S = true := by decide +kernel
theorem spl_ok : ∀ h, h < 11 → ∀ S, S < 16 → Txt.split (pflags (S * 2 ^ h)) (Str.ofString ", ") = nms0 h S := by
  have : ∀ h, h < 11 → ∀ S, S < 16 → splOk h S = true
    | 0, _ => spl0 | 1, _ => spl1 | 2, _ => spl2 | 3, _ => spl3 | 4, _ => spl4 | 5, _ => spl5 | 6, _ => spl6 | 7, _ => spl7 | 8, _ => spl8 | 9, _ => spl9 | 10, _ => spl10
  exact fun h hh S hS => of_decide_eq_true (this h hh S hS)
theorem bit16 {S j : Nat} (hS : S < 16) (hj : 4 ≤ j) : S.testBit j = false := Nat.testBit_lt_two_pow (Nat.lt_of_lt_of_le (show S < 2 ^ 4 from hS) (Nat.pow_le_pow_right (by decide) hj))
theorem mask_ext {a b : Nat} (ha : a < 16) (hb : b < 16) (h : ∀ i, i < 4 → a.testBit i = b.testBit i) : a = b := Nat.eq_of_testBit_eq fun i => by
  by_cases hi : i < 4
  · exact h i hi
  · rw [bit16 ha (by omega), bit16 hb (by omega)]
theorem mem_nms0 {h S j : Nat} (hh : h < 11) (hj : j < 4) : flagName (h + j) ∈ nms0 h S ↔ S.testBit j = true := by
  have hm : flagName (h + j) ∈ nms h S ↔ S.testBit j = true := by
    rw [mem_nms]
    constructor
    · rintro zz0
      refine hid ?_; intro KK
      (rcases zz0 with ⟨j', ⟨a, b⟩, e⟩) <;> (k_unfold; clear KK)
      rw [← flag_inj h hh j' a j hj e]; exact b
    · exact fun b => ⟨j, ⟨hj, b⟩, rfl⟩
  rw [nms0]
  split
  · rename_i hS
    refine hid ?_; intro KK
    (subst hS) <;> (k_unfold; clear KK)
    simp only [List.mem_singleton, Nat.zero_testBit, Bool.false_eq_true, iff_false]
    exact flag_ne _ (by omega)
  · exact hm
theorem pflags_inj {h a b : Nat} (hh : h < 11) (ha : a < 16) (hb : b < 16) (e : pflags (a * 2 ^ h) = pflags (b * 2 ^ h)) : a = b := by
  have e2 : nms0 h a = nms0 h b := by rw [← spl_ok h hh a ha, ← spl_ok h hh b hb, e]
  refine mask_ext ha hb fun j hj => ?_
  have h1 := mem_nms0 (S := a) hh hj
  have h2 := mem_nms0 (S := b) hh hj
  rw [e2] at h1
  rw [Bool.eq_iff_iff, ← h1, ← h2]
noncomputable def pop4 (U : Nat) : Nat := ((List.range 4).filter fun j => U.testBit j).length
theorem comma_len : ∀ l : List Str, (comma l).length = l.length
  | [] => rfl
  | [_] => rfl
  | _ :: b :: r => by rw [comma, List.length_cons, comma_len (b :: r)]; rfl
theorem have_is {h U : Nat} (hh : h < 11) (hU : U < 16) : haveOf (U * 2 ^ h) = pop4 U := by
  refine hid ?_; intro KK
  (obtain ⟨S, hS, e, hw, _, _⟩ := Fam.ok hh ⟨U, hU, rfl⟩) <;> (k_unfold; clear KK)
  have hUS : U = S := Nat.eq_of_mul_eq_mul_right (Nat.two_pow_pos h) e
  refine hid ?_; intro KK
  (subst hUS) <;> (k_unfold; clear KK)
  rw [haveOf]
  by_cases h0 : U = 0
  · subst h0; rw [if_pos (by simp)]; decide
  · rw [if_neg (Nat.mul_ne_zero h0 (Nat.ne_of_gt (Nat.two_pow_pos h))), hw, comma_len, nms0, if_neg h0, nms, List.length_map, pop4]
theorem ord_perm {h : Nat} (hh : h < 11) : (ord h).Perm (List.range 4) := by
  refine (List.perm_ext_iff_of_nodup ?_ List.nodup_range).mpr fun j => by rw [mem_ord hh, List.mem_range]
  exact (ord_sorted hh).imp fun {a b} hab e => by rw [e, lin_str.irr] at hab; cases hab
theorem pop_dec : ∀ W, W < 16 → ∀ U, U < 16 → W ||| U = W → ((List.range 4).filter fun j => W.testBit j).length - pop4 U = (((List.range 4).filter fun j => W.testBit j).filter fun j => !U.testBit j).length := by decide +kernel
theorem srtJ_perm {h : Nat} (hh : h < 11) (W : Nat) : (srtJ h W).Perm ((List.range 4).filter fun j => W.testBit j) := (ord_perm hh).filter _
theorem left_is {h W U : Nat} (hh : h < 11) (hW : W < 16) (hU : U < 16) (hs : W ||| U = W) : (srtJ h W).length - pop4 U = ((srtJ h W).filter fun j => !U.testBit j).length := by
  rw [(srtJ_perm hh W).length_eq, ((srtJ_perm hh W).filter _).length_eq]
  exact pop_dec W hW U hU hs
/-- the union of a choice -/
noncomputable def selU (Ss : List Nat) (c : Nat) : Nat → Nat
  | 0 => 0
  | i + 1 => if c / 2 ^ i % 2 = 0 then selU Ss c i else selU Ss c i ||| Ss.getD i 0
theorem getD_mul (Ss : List Nat) (h i : Nat) : (Ss.map (· * 2 ^ h)).getD i 0 = Ss.getD i 0 * 2 ^ h := by
  rw [List.getD_eq_getElem?_getD, List.getD_eq_getElem?_getD, List.getElem?_map]
  cases Ss[i]? <;> simp
theorem upTo_is (Ss : List Nat) (h : Nat) (x : Int) (c : Nat) : ∀ i, (upTo (Ss.map (· * 2 ^ h)) x c i).1 = selU Ss c i * 2 ^ h
  | 0 => by simp [upTo, selU]
  | i + 1 => by
    have ih := upTo_is Ss h x c i
    rw [upTo, selU]
    split
    · exact ih
    · dsimp only
      rw [ih, getD_mul, or_mul]
theorem selU_lt {Ss : List Nat} (hS : ∀ i, Ss.getD i 0 < 16) (c : Nat) : ∀ i, selU Ss c i < 16
  | 0 => (by decide : 0 < 16)
  | i + 1 => by
    rw [selU]
    split
    · exact selU_lt hS c i
    · exact Nat.or_lt_two_pow (n := 4) (selU_lt hS c i) (hS i)
theorem upW_lt {Ss : List Nat} (hS : ∀ i, Ss.getD i 0 < 16) : ∀ i, upW Ss i < 16
  | 0 => (by decide : 0 < 16)
  | i + 1 => Nat.or_lt_two_pow (n := 4) (upW_lt hS i) (hS i)
theorem bit_c (c i : Nat) : (c / 2 ^ i % 2 = 0) ↔ c.testBit i = false := by
  rw [Nat.testBit, Nat.shiftRight_eq_div_pow, Nat.and_comm, Nat.and_one_is_mod]
  simp
theorem selU_bit (Ss : List Nat) (c j : Nat) : ∀ i, (selU Ss c i).testBit j = true ↔ ∃ k, k < i ∧ c.testBit k = true ∧ (Ss.getD k 0).testBit j = true
  | 0 => by simp [selU]
  | i + 1 => by
    have ih := selU_bit Ss c j i
    rw [selU]
    split
    · rename_i h
      rw [bit_c] at h
      rw [ih]
      constructor
      · rintro ⟨k, a, b⟩; exact ⟨k, Nat.lt_succ_of_lt a, b⟩
      · rintro zz0
        refine hid ?_; intro KK
        (rcases zz0 with ⟨k, a, b, d⟩) <;> (k_unfold; clear KK)
        by_cases e : k = i
        · subst e; rw [h] at b; cases b
        · exact ⟨k, by omega, b, d⟩
    · rename_i h
      rw [bit_c, Bool.not_eq_false] at h
      rw [Nat.testBit_or, Bool.or_eq_true, ih]
      constructor
      · rintro zz0
        refine hid ?_; intro KK
        (rcases zz0 with ⟨k, a, b⟩ | e) <;> (k_unfold; clear KK)
        · exact ⟨k, Nat.lt_succ_of_lt a, b⟩
        · exact ⟨i, Nat.lt_succ_self _, h, e⟩
      · rintro zz0
        refine hid ?_; intro KK
        (rcases zz0 with ⟨k, a, b, d⟩) <;> (k_unfold; clear KK)
        by_cases e : k = i
        · subst e; exact .inr d
        · exact .inl ⟨k, by omega, b, d⟩
theorem upW_bit (Ss : List Nat) (j : Nat) : ∀ i, (upW Ss i).testBit j = true ↔ ∃ k, k < i ∧ (Ss.getD k 0).testBit j = true
  | 0 => by simp [upW]
  | i + 1 => by
    rw [upW, Nat.testBit_or, Bool.or_eq_true, upW_bit Ss j i]
    constructor
    · rintro zz0
      refine hid ?_; intro KK
      (rcases zz0 with ⟨k, a, b⟩ | e) <;> (k_unfold; clear KK)
      · exact ⟨k, Nat.lt_succ_of_lt a, b⟩
      · exact ⟨i, Nat.lt_succ_self _, e⟩
    · rintro zz0
      refine hid ?_; intro KK
      (rcases zz0 with ⟨k, a, b⟩) <;> (k_unfold; clear KK)
      by_cases e : k = i
      · subst e; exact .inr b
      · exact .inl ⟨k, by omega, b⟩
theorem sel_sub (Ss : List Nat) (c i : Nat) : upW Ss i ||| selU Ss c i = upW Ss i := by
  refine Nat.eq_of_testBit_eq fun j => ?_
  rw [Nat.testBit_or]
  cases h : (selU Ss c i).testBit j with
  | false => simp
  | true =>
    refine hid ?_; intro KK
    (obtain ⟨k, a, _, b⟩ := (selU_bit Ss c j i).mp h) <;> (k_unfold; clear KK)
    rw [(upW_bit Ss j i).mpr ⟨k, a, b⟩]; rfl
section
variable (Ss : List Nat) (h : Nat) (x y : Int)
noncomputable abbrev HH (Ss : List Nat) (i j : Nat) : Bool := (Ss.getD i 0).testBit j
noncomputable def sumK (M : List Nat) : List Nat → Nat → Int
  | [], U => (1 + y) ^ (M.filter fun j => !U.testBit j).length
  | i :: R, U => sumK M R U + x * sumK M R (U ||| Ss.getD i 0)
theorem sumA_K (M : List Nat) : ∀ (R : List Nat) (U : Nat), sumA (HH Ss) x y R (M.filter fun j => !U.testBit j) = sumK Ss x y M R U
  | [], U => rfl
  | i :: R, U => by
    rw [sumA, sumK, sumA_K M R U, List.filter_filter, ← sumA_K M R (U ||| Ss.getD i 0)]
    rw [List.filter_congr (q := fun j => !(U ||| Ss.getD i 0).testBit j) fun j _ => by simp only [Nat.testBit_or, Bool.not_or]; exact Bool.and_comm _ _]
noncomputable def sumTo (f : Nat → Int) : Nat → Int
  | 0 => 0
  | n + 1 => sumTo f n + f n
theorem sumTo_add (f : Nat → Int) (a : Nat) : ∀ b, sumTo f (a + b) = sumTo f a + sumTo (fun c => f (a + c)) b
  | 0 => (Int.add_zero _).symm
  | b + 1 => by
    show sumTo f (a + b) + f (a + b) = sumTo f a + (sumTo (fun c => f (a + c)) b + f (a + b))
    rw [sumTo_add f a b, Int.add_assoc]
theorem sumTo_congr {f g : Nat → Int} : ∀ n, (∀ c, c < n → f c = g c) → sumTo f n = sumTo g n
  | 0, _ => rfl
  | n + 1, h => by rw [sumTo, sumTo, sumTo_congr n fun c hc => h c (Nat.lt_succ_of_lt hc), h n (Nat.lt_succ_self n)]
theorem sumTo_both (f g : Nat → Int) : ∀ n, sumTo f n + sumTo g n = sumTo (fun c => f c + g c) n
  | 0 => rfl
  | n + 1 => by rw [sumTo, sumTo, sumTo, ← sumTo_both f g n]; omega
theorem bit_same {c i j : Nat} (hj : j < i) : (2 ^ i + c) / 2 ^ j % 2 = c / 2 ^ j % 2 := by
  have e : 2 ^ i = 2 ^ j * (2 * 2 ^ (i - j - 1)) := by
    rw [← Nat.pow_succ', ← Nat.pow_add]
    congr 1
    omega
  rw [e, Nat.mul_add_div (Nat.two_pow_pos j)]
  omega
theorem upTo_same (rs : List Nat) (c i : Nat) : ∀ j, j ≤ i → upTo rs x (2 ^ i + c) j = upTo rs x c j
  | 0, _ => rfl
  | j + 1, hj => by rw [upTo, upTo, bit_same (by omega), upTo_same rs c i j (by omega)]
theorem selU_same (c i : Nat) : ∀ j, j ≤ i → selU Ss (2 ^ i + c) j = selU Ss c j
  | 0, _ => rfl
  | j + 1, hj => by rw [selU, selU, bit_same (by omega), selU_same c i j (by omega)]
/-- the choices with and without row i -/
theorem half (rs : List Nat) (K : Nat → Int) (i : Nat) : sumTo (fun c => (upTo rs x c (i + 1)).2 * K (selU Ss c (i + 1))) (2 ^ (i + 1)) =
    sumTo (fun c => (upTo rs x c i).2 * (K (selU Ss c i) + x * K (selU Ss c i ||| Ss.getD i 0))) (2 ^ i) := by
  rw [Nat.pow_succ, Nat.mul_two, sumTo_add, sumTo_both]
  refine sumTo_congr _ fun c hc => ?_
  have b0 : c / 2 ^ i % 2 = 0 := by rw [Nat.div_eq_of_lt hc]
  have b1 : ¬ (2 ^ i + c) / 2 ^ i % 2 = 0 := by
    rw [Nat.add_div_left _ (Nat.two_pow_pos i), Nat.div_eq_of_lt hc]
    decide
  simp only [upTo, selU, if_pos b0, if_neg b1, upTo_same x rs c i i (Nat.le_refl i), selU_same Ss c i i (Nat.le_refl i)]
  rw [Int.mul_add, Int.mul_assoc]
theorem rowTot_is (rs : List Nat) (size : Nat) : ∀ n, rowTot rs size x y n = sumTo (fun c => (upTo rs x c rs.length).2 * (1 + y) ^ (size - haveOf (upTo rs x c rs.length).1)) n
  | 0 => rfl
  | n + 1 => by rw [rowTot, sumTo, rowTot_is rs size n]
/-- by rows -/
theorem rows_sum (hh : h < 11) (hS : ∀ i, Ss.getD i 0 < 16) (hl : Ss.length = 4) :
    rowTot (Ss.map (· * 2 ^ h)) (srtJ h (upW Ss 4)).length x y 16 = sumA (HH Ss) x y [0, 1, 2, 3] (srtJ h (upW Ss 4)) := by
  have e0 : srtJ h (upW Ss 4) = (srtJ h (upW Ss 4)).filter fun j => !(0 : Nat).testBit j := (List.filter_eq_self.mpr fun j _ => by simp).symm
  have term : ∀ c, (upTo (Ss.map (· * 2 ^ h)) x c 4).2 * (1 + y) ^ ((srtJ h (upW Ss 4)).length - haveOf (upTo (Ss.map (· * 2 ^ h)) x c 4).1) =
      (upTo (Ss.map (· * 2 ^ h)) x c 4).2 * (1 + y) ^ ((srtJ h (upW Ss 4)).filter fun j => !(selU Ss c 4).testBit j).length := fun c => by
    rw [upTo_is, have_is hh (selU_lt hS c 4), left_is hh (upW_lt hS 4) (selU_lt hS c 4) (sel_sub Ss c 4)]
  rw [e0, sumA_K, ← e0]
  have hlen : (Ss.map (· * 2 ^ h)).length = 4 := by rw [List.length_map, hl]
  rw [rowTot_is, hlen, sumTo_congr 16 fun c _ => term c]
  have h4 := half Ss x (Ss.map (· * 2 ^ h)) (sumK Ss x y (srtJ h (upW Ss 4)) []) 3
  have h3 := half Ss x (Ss.map (· * 2 ^ h)) (sumK Ss x y (srtJ h (upW Ss 4)) [3]) 2
  have h2 := half Ss x (Ss.map (· * 2 ^ h)) (sumK Ss x y (srtJ h (upW Ss 4)) [2, 3]) 1
  have h1 := half Ss x (Ss.map (· * 2 ^ h)) (sumK Ss x y (srtJ h (upW Ss 4)) [1, 2, 3]) 0
  refine (h4.trans (h3.trans (h2.trans (h1.trans ?_))))
  show 0 + 1 * _ = _
  rw [Int.zero_add, Int.one_mul]
  rfl
end
noncomputable def tsum (f : Int × Nat → Int) : List (Int × Nat) → Int
  | [] => 0
  | a :: q => f a + tsum f q
theorem tsum_append (f : Int × Nat → Int) : ∀ a b, tsum f (a ++ b) = tsum f a + tsum f b
  | [], b => by rw [List.nil_append, tsum, Int.zero_add]
  | p :: a, b => by rw [List.cons_append, tsum, tsum, tsum_append f a b, Int.add_assoc]
theorem tsum_foldl (f : Int × Nat → Int) : ∀ (q : List (Int × Nat)) (b : Int), q.foldl (fun t p => t + f p) b = b + tsum f q
  | [], b => by rw [List.foldl_nil, tsum, Int.add_zero]
  | p :: q, b => by rw [List.foldl_cons, tsum_foldl f q, tsum, Int.add_assoc]
theorem tsum_congr {f g : Int × Nat → Int} : ∀ {q : List (Int × Nat)}, (∀ p ∈ q, f p = g p) → tsum f q = tsum g q
  | [], _ => rfl
  | p :: q, h => by rw [tsum, tsum, h p (.head _), tsum_congr fun p hp => h p (.tail _ hp)]
theorem out_is : ∀ m, m < 16 → 4 - (mlist m).length = ((List.range 4).filter fun i => !m.testBit i).length := by decide +kernel
section
variable (Ss : List Nat) (h : Nat) (x y : Int)
noncomputable def FF (M : List Nat) (p : Int × Nat) : Int := p.1 * sumB (HH Ss) x y ((List.range 4).filter fun i => !p.2.testBit i) M
theorem step_sum (j : Nat) (M : List Nat) : ∀ q, tsum (FF Ss x y M) (nmStep (colm Ss j) y q) = tsum (FF Ss x y (j :: M)) q
  | [] => rfl
  | p :: q => by
    have ih := step_sum j M q
    rw [nmStep] at ih ⊢
    rw [List.flatMap_cons, tsum_append, ih, tsum, tsum, tsum, tsum]
    have e : FF Ss x y (j :: M) p = FF Ss x y M p + FF Ss x y M (p.1 * y, p.2 ||| colm Ss j) := by
      rw [FF, FF, FF, sumB, List.filter_filter]
      dsimp only
      rw [List.filter_congr (p := fun i => !HH Ss i j && !p.2.testBit i) (q := fun i => !(p.2 ||| colm Ss j).testBit i) fun i hi => by rw [Nat.testBit_or, colm_bit Ss j i (List.mem_range.mp hi), Bool.not_or]; exact Bool.and_comm _ _]
      grind
    rw [e]
    grind
theorem all_sum : ∀ (M : List Nat) (q : List (Int × Nat)), tsum (FF Ss x y []) (nmQ y (M.map (colm Ss)) q) = tsum (FF Ss x y M) q
  | [], _ => rfl
  | j :: M, q => by rw [List.map_cons, nmQ, all_sum M, step_sum]
/-- by names -/
theorem names_sum (M : List Nat) : nmTot x (nmQ y (M.map (colm Ss)) [(1, 0)]) = sumB (HH Ss) x y [0, 1, 2, 3] M := by
  rw [nmTot, tsum_foldl (fun p => p.1 * (1 + x) ^ (4 - (mlist p.2).length))]
  rw [tsum_congr (g := FF Ss x y []) fun p hp => ?_, all_sum, tsum, tsum, FF]
  · have e : ((List.range 4).filter fun i => !(0 : Nat).testBit i) = [0, 1, 2, 3] := by decide
    dsimp only
    rw [e]
    grind
  · have := nmQ_lt y (fun c hc => by obtain ⟨j, _, rfl⟩ := List.mem_map.mp hc; exact colm_lt Ss j) (q := [(1, 0)]) (by simp) p hp
    rw [FF, sumB, out_is _ this]
/-- Dowker: both sums are one -/
theorem sums_one (hh : h < 11) (hS : ∀ i, Ss.getD i 0 < 16) (hl : Ss.length = 4) :
    nmTot x (nmQ y ((srtJ h (upW Ss 4)).map (colm Ss)) [(1, 0)]) = rowTot (Ss.map (· * 2 ^ h)) (srtJ h (upW Ss 4)).length x y 16 := by
  rw [names_sum, rows_sum Ss h x y hh hS hl, dowker]
theorem q_all : ∀ (M : List Nat) (q : List (Int × Nat)) (p : Int × Nat), p ∈ q → ∀ n : Nat → Bool, ∃ p' ∈ nmQ y (M.map (colm Ss)) q, ∀ i, p'.2.testBit i = (p.2.testBit i || M.any fun j => n j && (colm Ss j).testBit i)
  | [], q, p, hp, n => ⟨p, hp, fun i => by simp⟩
  | j :: M, q, p, hp, n => by
    rw [List.map_cons, nmQ]
    cases hj : n j with
    | false =>
      refine hid ?_; intro KK
      (obtain ⟨p', h1, h2⟩ := q_all M (nmStep (colm Ss j) y q) p (List.mem_flatMap.mpr ⟨p, hp, .head _⟩) n) <;> (k_unfold; clear KK)
      exact ⟨p', h1, fun i => by rw [h2 i, List.any_cons, hj]; simp⟩
    | true =>
      refine hid ?_; intro KK
      (obtain ⟨p', h1, h2⟩ := q_all M (nmStep (colm Ss j) y q) (p.1 * y, p.2 ||| colm Ss j) (List.mem_flatMap.mpr ⟨p, hp, .tail _ (.head _)⟩) n) <;> (k_unfold; clear KK)
      exact ⟨p', h1, fun i => by rw [h2 i, List.any_cons, hj]; simp [Bool.or_assoc]⟩
theorem q_only : ∀ (M : List Nat) (q : List (Int × Nat)) (p' : Int × Nat), M.Nodup → p' ∈ nmQ y (M.map (colm Ss)) q → ∃ p ∈ q, ∃ n : Nat → Bool, ∀ i, p'.2.testBit i = (p.2.testBit i || M.any fun j => n j && (colm Ss j).testBit i)
  | [], q, p', _, hp => ⟨p', hp, fun _ => false, fun i => by simp⟩
  | j :: M, q, p', hM, hp => by
    rw [List.nodup_cons] at hM
    rw [List.map_cons, nmQ] at hp
    refine hid ?_; intro KK
    (obtain ⟨p1, h1, n, h2⟩ := q_only M _ p' hM.2 hp) <;> (k_unfold; clear KK)
    refine hid ?_; intro KK
    (obtain ⟨p, hpq, h3⟩ := List.mem_flatMap.mp h1) <;> (k_unfold; clear KK)
    have other : ∀ (b : Bool) (i : Nat), (M.any fun k => (if k = j then b else n k) && (colm Ss k).testBit i) = M.any fun k => n k && (colm Ss k).testBit i := fun b i => by
      rw [Bool.eq_iff_iff, List.any_eq_true, List.any_eq_true]
      constructor
      · rintro ⟨k, hk, e⟩; exact ⟨k, hk, by rw [if_neg (fun e' : k = j => hM.1 (by rw [← e']; exact hk))] at e; exact e⟩
      · rintro ⟨k, hk, e⟩; exact ⟨k, hk, by rw [if_neg (fun e' : k = j => hM.1 (by rw [← e']; exact hk))]; exact e⟩
    refine hid ?_; intro KK
    (rcases List.mem_cons.mp h3 with rfl | h3) <;> (k_unfold; clear KK)
    · refine ⟨p1, hpq, fun k => if k = j then false else n k, fun i => ?_⟩
      rw [h2 i, List.any_cons, other]
      simp
    · rw [List.mem_singleton] at h3
      refine hid ?_; intro KK
      (subst h3) <;> (k_unfold; clear KK)
      refine ⟨p, hpq, fun k => if k = j then true else n k, fun i => ?_⟩
      rw [h2 i, List.any_cons, other]
      simp [Bool.or_assoc]
end
theorem mem_uni {s : Str} (f : Int × Nat → Str) : ∀ (q : List (Int × Nat)) (u : List Str), s ∈ q.foldl (fun u p => keep ltStr (f p) u) u ↔ (∃ p ∈ q, f p = s) ∨ s ∈ u
  | [], u => by simp
  | p :: q, u => by
    rw [List.foldl_cons, mem_uni f q, mem_keep]
    constructor
    · rintro zz0
      refine hid ?_; intro KK
      (rcases zz0 with ⟨p', a, b⟩ | h | h) <;> (k_unfold; clear KK)
      · exact .inl ⟨p', .tail _ a, b⟩
      · exact .inl ⟨p, .head _, h.symm⟩
      · exact .inr h
    · rintro zz0
      refine hid ?_; intro KK
      (rcases zz0 with ⟨p', a, b⟩ | h) <;> (k_unfold; clear KK)
      · refine hid ?_; intro KK
        (rcases List.mem_cons.mp a with rfl | a) <;> (k_unfold; clear KK)
        · exact .inr (.inl b.symm)
        · exact .inl ⟨p', a, b⟩
      · exact .inr (.inr h)
theorem mem_rowUni {s : Str} (rs : List Nat) (x : Int) : ∀ c, s ∈ rowUni rs x c ↔ ∃ c', c' < c ∧ pflags (upTo rs x c' rs.length).1 = s
  | 0 => by simp [rowUni]
  | c + 1 => by
    rw [rowUni, mem_keep, mem_rowUni rs x c]
    constructor
    · rintro zz0
      refine hid ?_; intro KK
      (rcases zz0 with h | ⟨c', a, b⟩) <;> (k_unfold; clear KK)
      · exact ⟨c, Nat.lt_succ_self _, h.symm⟩
      · exact ⟨c', Nat.lt_succ_of_lt a, b⟩
    · rintro zz0
      refine hid ?_; intro KK
      (rcases zz0 with ⟨c', a, b⟩) <;> (k_unfold; clear KK)
      by_cases e : c' = c
      · subst e; exact .inl b.symm
      · exact .inr ⟨c', by omega, b⟩
/-- a union of rows and a union of columns that belong together -/
noncomputable def Rel (Ss : List Nat) (u v : Nat) : Prop := (∀ i, i < 4 → (v.testBit i = true ↔ ∃ j, j < 4 ∧ u.testBit j = false ∧ HH Ss i j = true)) ∧ ∀ j, j < 4 → (u.testBit j = true ↔ ∃ i, i < 4 ∧ v.testBit i = false ∧ HH Ss i j = true)
theorem Rel.left {Ss : List Nat} {u u' v : Nat} (hu : u < 16) (hu' : u' < 16) (h : Rel Ss u v) (h' : Rel Ss u' v) : u = u' := mask_ext hu hu' fun j hj => by rw [Bool.eq_iff_iff, h.2 j hj, h'.2 j hj]
theorem Rel.right {Ss : List Nat} {u v v' : Nat} (hv : v < 16) (hv' : v' < 16) (h : Rel Ss u v) (h' : Rel Ss u v') : v = v' := mask_ext hv hv' fun i hi => by rw [Bool.eq_iff_iff, h.1 i hi, h'.1 i hi]
section
variable (Ss : List Nat) (h : Nat) (x y : Int)
theorem unions_one (hh : h < 11) (hS : ∀ i, Ss.getD i 0 < 16) (hl : Ss.length = 4) :
    (nmUni (nmQ y ((srtJ h (upW Ss 4)).map (colm Ss)) [(1, 0)])).length = (rowUni (Ss.map (· * 2 ^ h)) x 16).length := by
  have hM : ∀ i j, i < 4 → HH Ss i j = true → j ∈ srtJ h (upW Ss 4) := fun i j hi e => by
    refine (mem_srtJ hh).mpr ⟨?_, (upW_bit Ss j 4).mpr ⟨i, hi, e⟩⟩
    refine Classical.byContradiction fun q => ?_
    have : HH Ss i j = false := bit16 (hS i) (by omega)
    rw [this] at e; cases e
  have hM4 : ∀ j, j ∈ srtJ h (upW Ss 4) → j < 4 := fun j hj => ((mem_srtJ hh).mp hj).1
  have hMn : (srtJ h (upW Ss 4)).Nodup := (srtJ_perm hh _).nodup_iff.mpr (List.Pairwise.sublist List.filter_sublist List.nodup_range)
  have q16 : ∀ p ∈ nmQ y ((srtJ h (upW Ss 4)).map (colm Ss)) [(1, 0)], p.2 < 16 := nmQ_lt y (fun c hc => by obtain ⟨j, _, rfl⟩ := List.mem_map.mp hc; exact colm_lt Ss j) (by simp)
  have hlen : (Ss.map (· * 2 ^ h)).length = 4 := by rw [List.length_map, hl]
  have anyM : ∀ (n : Nat → Bool) (i : Nat), i < 4 → (((srtJ h (upW Ss 4)).any fun j => n j && (colm Ss j).testBit i) = true ↔ ∃ j, j < 4 ∧ n j = true ∧ HH Ss i j = true) := fun n i hi => by
    rw [List.any_eq_true]
    constructor
    · rintro zz0
      refine hid ?_; intro KK
      (rcases zz0 with ⟨j, a, b⟩) <;> (k_unfold; clear KK)
      rw [Bool.and_eq_true, colm_bit Ss j i hi] at b
      exact ⟨j, hM4 j a, b⟩
    · rintro zz0
      refine hid ?_; intro KK
      (rcases zz0 with ⟨j, a, b, d⟩) <;> (k_unfold; clear KK)
      exact ⟨j, hM i j hi d, by rw [Bool.and_eq_true, colm_bit Ss j i hi]; exact ⟨b, d⟩⟩
  generalize hq : nmQ y ((srtJ h (upW Ss 4)).map (colm Ss)) [(1, 0)] = q at q16
  have memN : ∀ {t}, t ∈ nmUni q ↔ ∃ p ∈ q, digs p.2 = t := fun {t} => by rw [nmUni, mem_uni]; simp
  have memR : ∀ {s}, s ∈ rowUni (Ss.map (· * 2 ^ h)) x 16 ↔ ∃ c, c < 16 ∧ pflags (selU Ss c 4 * 2 ^ h) = s := fun {s} => by
    rw [mem_rowUni, hlen]
    simp only [upTo_is]
  have toN : ∀ c, c < 16 → ∃ p ∈ q, Rel Ss (selU Ss c 4) p.2 := fun c hc => by
    refine hid ?_; intro KK
    (obtain ⟨p, hp, hb⟩ := q_all Ss y (srtJ h (upW Ss 4)) [(1, 0)] (1, 0) (.head _) (fun j => !(selU Ss c 4).testBit j)) <;> (k_unfold; clear KK)
    rw [hq] at hp
    have hv : ∀ i, i < 4 → (p.2.testBit i = true ↔ ∃ j, j < 4 ∧ (selU Ss c 4).testBit j = false ∧ HH Ss i j = true) := fun i hi => by
      rw [hb i, Nat.zero_testBit, Bool.false_or, anyM _ i hi]
      simp
    refine ⟨p, hp, hv, fun j hj => ?_⟩
    constructor
    · intro hu
      refine hid ?_; intro KK
      (obtain ⟨i, hi, hc', e⟩ := (selU_bit Ss c j 4).mp hu) <;> (k_unfold; clear KK)
      refine ⟨i, hi, ?_, e⟩
      cases hpi : p.2.testBit i with
      | false => rfl
      | true =>
        refine hid ?_; intro KK
        (obtain ⟨j', _, hf, e'⟩ := (hv i hi).mp hpi) <;> (k_unfold; clear KK)
        rw [(selU_bit Ss c j' 4).mpr ⟨i, hi, hc', e'⟩] at hf; cases hf
    · rintro zz0
      refine hid ?_; intro KK
      (rcases zz0 with ⟨i, hi, hf, e⟩) <;> (k_unfold; clear KK)
      cases hu : (selU Ss c 4).testBit j with
      | true => rfl
      | false => rw [(hv i hi).mpr ⟨j, hj, hu, e⟩] at hf; cases hf
  have toR : ∀ p ∈ q, ∃ c, c < 16 ∧ Rel Ss (selU Ss c 4) p.2 := fun p hp => by
    rw [← hq] at hp
    refine hid ?_; intro KK
    (obtain ⟨p0, hp0, n, hb⟩ := q_only Ss y (srtJ h (upW Ss 4)) [(1, 0)] p hMn hp) <;> (k_unfold; clear KK)
    rw [List.mem_singleton.mp hp0] at hb
    have hv : ∀ i, i < 4 → (p.2.testBit i = true ↔ ∃ j, j < 4 ∧ n j = true ∧ HH Ss i j = true) := fun i hi => by
      rw [hb i, Nat.zero_testBit, Bool.false_or, anyM _ i hi]
    have hc := bits4 (!p.2.testBit 0) (!p.2.testBit 1) (!p.2.testBit 2) (!p.2.testBit 3)
    generalize (!p.2.testBit 0).toNat + 2 * (!p.2.testBit 1).toNat + 4 * (!p.2.testBit 2).toNat + 8 * (!p.2.testBit 3).toNat = c at hc
    have cb : ∀ i, i < 4 → c.testBit i = !p.2.testBit i
      | 0, _ => hc.2.1
      | 1, _ => hc.2.2.1
      | 2, _ => hc.2.2.2.1
      | 3, _ => hc.2.2.2.2
      | _ + 4, h => absurd h (by omega)
    have hu : ∀ j, j < 4 → ((selU Ss c 4).testBit j = true ↔ ∃ i, i < 4 ∧ p.2.testBit i = false ∧ HH Ss i j = true) := fun j _ => by
      rw [selU_bit]
      constructor
      · rintro ⟨i, a, b, d⟩; exact ⟨i, a, by rw [cb i a] at b; simpa using b, d⟩
      · rintro ⟨i, a, b, d⟩; exact ⟨i, a, by rw [cb i a, b]; rfl, d⟩
    refine ⟨c, hc.1, fun i hi => ?_, hu⟩
    constructor
    · intro hpi
      refine hid ?_; intro KK
      (obtain ⟨j, hj, hn, e⟩ := (hv i hi).mp hpi) <;> (k_unfold; clear KK)
      refine ⟨j, hj, ?_, e⟩
      cases hf : (selU Ss c 4).testBit j with
      | false => rfl
      | true =>
        refine hid ?_; intro KK
        (obtain ⟨i', hi', hf', e'⟩ := (hu j hj).mp hf) <;> (k_unfold; clear KK)
        rw [(hv i' hi').mpr ⟨j, hj, hn, e'⟩] at hf'; cases hf'
    · rintro zz0
      refine hid ?_; intro KK
      (rcases zz0 with ⟨j, hj, hf, e⟩) <;> (k_unfold; clear KK)
      cases hpi : p.2.testBit i with
      | true => rfl
      | false => rw [(hu j hj).mpr ⟨i, hi, hpi, e⟩] at hf; cases hf
  have s16 := fun c => selU_lt hS c 4
  refine Nat.le_antisymm ?_ ?_
  · refine length_le_of_rel (fun t s => ∃ u v, u < 16 ∧ v < 16 ∧ pflags (u * 2 ^ h) = s ∧ digs v = t ∧ Rel Ss u v) _ _ (nodup_of_sorted (nmUni_sorted q)) (fun t ht => ?_) ?_
    · refine hid ?_; intro KK
      (obtain ⟨p, hp, rfl⟩ := memN.mp ht) <;> (k_unfold; clear KK)
      refine hid ?_; intro KK
      (obtain ⟨c, hc, hr⟩ := toR p hp) <;> (k_unfold; clear KK)
      exact ⟨_, memR.mpr ⟨c, hc, rfl⟩, _, _, s16 c, q16 p hp, rfl, rfl, hr⟩
    · rintro t t' s - - zz0 zz1
      refine hid ?_; intro KK
      (rcases zz0 with ⟨u, v, hu, hv, rfl, rfl, hr⟩) <;> (rcases zz1 with ⟨u', v', hu', hv', e, rfl, hr'⟩) <;> (k_unfold; clear KK)
      rw [pflags_inj hh hu' hu e] at hr'
      rw [hr.right hv hv' hr']
  · refine length_le_of_rel (fun s t => ∃ u v, u < 16 ∧ v < 16 ∧ pflags (u * 2 ^ h) = s ∧ digs v = t ∧ Rel Ss u v) _ _ (nodup_of_sorted (rowUni_sorted _ x 16)) (fun s hs => ?_) ?_
    · refine hid ?_; intro KK
      (obtain ⟨c, hc, rfl⟩ := memR.mp hs) <;> (k_unfold; clear KK)
      refine hid ?_; intro KK
      (obtain ⟨p, hp, hr⟩ := toN c hc) <;> (k_unfold; clear KK)
      exact ⟨_, memN.mpr ⟨p, hp, rfl⟩, _, _, s16 c, q16 p hp, rfl, rfl, hr⟩
    · rintro s s' t - - zz0 zz1
      refine hid ?_; intro KK
      (rcases zz0 with ⟨u, v, hu, hv, rfl, rfl, hr⟩) <;> (rcases zz1 with ⟨u', v', hu', hv', rfl, e, hr'⟩) <;> (k_unfold; clear KK)
      rw [digs_inj _ hv' _ hv e] at hr'
      rw [hr.left hu hu' hr']
end
theorem signs_app (a b : Str) : signs (a ++ b) = signs a ++ signs b := by
  unfold signs
  rw [show (a ++ b).cps = a.cps ++ b.cps from rfl, Array.toList_append, List.map_append]
noncomputable def mkRow (num : Nat) : Nat → List Str → List Wd
  | _, [] => []
  | i, w :: r => (num / 3 ^ i % 3, w, Txt.rstripChars w (Str.ofString ",")) :: mkRow num (i + 1) r
theorem piece_signs (num i : Nat) (w : Str) : signs (wpiece num i w) = piece (num / 3 ^ i % 3) (signs w) := by
  have hm : num / 3 ^ i % 3 < 3 := Nat.mod_lt _ (by decide)
  unfold wpiece piece
  split
  · rw [signs_app]; rfl
  · split
    · rw [signs_app, signs_app, List.append_assoc]; rfl
    · rw [signs_app, signs_app, List.append_assoc]; rfl
theorem wchars_mk (num : Nat) : ∀ (ws : List Str) (i : Nat), wchars (mkRow num i ws) = (ws.zipIdx i).flatMap fun p => piece (num / 3 ^ p.2 % 3) (signs p.1)
  | [], _ => rfl
  | w :: r, i => by
    have ih := wchars_mk num r (i + 1)
    rw [mkRow, wchars, List.flatMap_cons, List.zipIdx_cons, List.flatMap_cons]
    rw [wchars] at ih
    rw [ih]
theorem wr_signs (ws : List Str) (num : Nat) : ∀ i, i ≤ ws.length → signs (wrTo ws num i) = ((ws.take i).zipIdx 0).flatMap fun p => piece (num / 3 ^ p.2 % 3) (signs p.1)
  | 0, _ => by rw [List.take_zero]; rfl
  | i + 1, hi => by
    have e : ws.take (i + 1) = ws.take i ++ [ws.getD i (Str.ofString "")] := by
      rw [List.take_add_one, List.getElem?_eq_getElem (by omega), List.getD_eq_getElem?_getD, List.getElem?_eq_getElem (by omega)]; rfl
    rw [wrTo, signs_app, wr_signs ws num i (by omega), e, List.zipIdx_append, List.flatMap_append, List.length_take, Nat.min_eq_left (by omega), piece_signs]
    simp
theorem row_signs (ws : List Str) (num : Nat) : signs (wrTo ws num ws.length) = wchars (mkRow num 0 ws) := by
  rw [wr_signs ws num _ (Nat.le_refl _), List.take_length, wchars_mk]
theorem signs_nil : signs (Str.ofString "") = [] := rfl
theorem tjoin (sep x y : Str) (r : List Str) : Txt.join sep (x :: y :: r) = x ++ sep ++ Txt.join sep (y :: r) := by
  unfold Txt.join
  rw [PySem.StrLaws.glued_eq_join, PySem.StrLaws.glued_eq_join]; rfl
theorem join_signs : ∀ l : List Str, signs (Txt.join (Str.ofString "") l) = l.flatMap signs
  | [] => rfl
  | [a] => by show signs a = _; simp
  | a :: b :: r => by
    rw [tjoin, signs_app, signs_app, join_signs (b :: r), List.flatMap_cons, List.flatMap_cons, List.flatMap_cons, signs_nil, List.append_nil]
/-- what the reading asks of a name -/
structure NmOk (nm : Str) : Prop where
  ne : signs nm ≠ []
  al : ∀ c ∈ signs nm, c ∈ alpha
  ok : PyData.strOk nm = true
  len : nm.length ≤ 30
  s1 : Txt.rstripChars nm (Str.ofString ",") = nm
  s2 : Txt.rstripChars (nm ++ Str.ofString ",") (Str.ofString ",") = nm
  c1 : lastComma nm = false
  c2 : lastComma (nm ++ Str.ofString ",") = true
noncomputable def nmOk (nm : Str) : Bool := !(signs nm).isEmpty && (signs nm).all (fun c => alpha.contains c) && PyData.strOk nm && decide (nm.length ≤ 30) && decide (Txt.rstripChars nm (Str.ofString ",") = nm) && decide (Txt.rstripChars (nm ++ Str.ofString ",") (Str.ofString ",") = nm) &&
  !lastComma nm && lastComma (nm ++ Str.ofString ",")
theorem NmOk.of {nm : Str} (h : nmOk nm = true) : NmOk nm := by
  simp only [nmOk, Bool.and_eq_true, Bool.not_eq_true', decide_eq_true_eq, List.all_eq_true, List.contains_iff_mem] at h
  refine hid ?_; intro KK
  (obtain ⟨⟨⟨⟨⟨⟨⟨a, b⟩, c⟩, d⟩, e⟩, f⟩, g⟩, i⟩ := h) <;> (k_unfold; clear KK)
  exact ⟨fun q => (by rw [q] at a; cases a), b, c, d, e, f, g, i⟩
theorem flag_nm : ∀ i, i < 14 → nmOk (flagName i) = true := by decide +kernel
theorem zero_nm : nmOk (Str.ofString "0x0") = true := by decide +kernel
theorem nms0_nm {h S : Nat} (hh : h < 11) : ∀ nm ∈ nms0 h S, NmOk nm := by
  intro nm hm
  rw [nms0] at hm
  split at hm
  · rw [List.mem_singleton.mp hm]; exact .of zero_nm
  · refine hid ?_; intro KK
    (obtain ⟨j, ⟨a, _⟩, rfl⟩ := mem_nms.mp hm) <;> (k_unfold; clear KK)
    exact .of (flag_nm _ (by omega))
theorem comma_mem : Str.ofString "," ∈ alpha := by decide +kernel
theorem row_ok (num : Nat) : ∀ (l : List Str) (i : Nat), (∀ nm ∈ l, NmOk nm) → RowT (mkRow num i (comma l)) ∧ ((mkRow num i (comma l)).map fun p => p.2.2) = l
  | [], _, _ => ⟨trivial, rfl⟩
  | [a], i, h => by
    have n := h a (.head _)
    refine ⟨⟨n.c1, by have := n.len; show a.length ≤ 1000; omega, ⟨Nat.mod_lt _ (by decide), n.ne, n.al, by rw [n.s1]; exact n.ok, rfl⟩, trivial⟩, ?_⟩
    show [Txt.rstripChars a (Str.ofString ",")] = [a]
    rw [n.s1]
  | a :: b :: r, i, h => by
    have n := h a (.head _)
    refine hid ?_; intro KK
    (obtain ⟨h1, h2⟩ := row_ok num (b :: r) (i + 1) fun nm hm => h nm (.tail _ hm)) <;> (k_unfold; clear KK)
    have hsg : signs (a ++ Str.ofString ",") = signs a ++ [Str.ofString ","] := by rw [signs_app]; rfl
    have hne : mkRow num (i + 1) (comma (b :: r)) ≠ [] := by
      cases r <;> rw [comma, mkRow] <;> exact List.cons_ne_nil _ _
    refine ⟨⟨?_, ?_, ⟨Nat.mod_lt _ (by decide), ?_, ?_, ?_, rfl⟩, h1⟩, ?_⟩
    · rw [show lastComma (a ++ Str.ofString ",") = true from n.c2]
      cases q : mkRow num (i + 1) (comma (b :: r)) with
      | nil => exact absurd q hne
      | cons => rfl
    · have := n.len
      show (a ++ Str.ofString ",").length ≤ 1000
      rw [str_len_app, show (Str.ofString ",").length = 1 from by decide +kernel]; omega
    · show signs (a ++ Str.ofString ",") ≠ []
      rw [hsg]; simp
    · show ∀ c ∈ signs (a ++ Str.ofString ","), c ∈ alpha
      rw [hsg]
      intro c hc
      refine hid ?_; intro KK
      (rcases List.mem_append.mp hc with hc | hc) <;> (k_unfold; clear KK)
      · exact n.al c hc
      · rw [List.mem_singleton.mp hc]; exact comma_mem
    · show PyData.strOk (Txt.rstripChars (a ++ Str.ofString ",") (Str.ofString ",")) = true
      rw [n.s2]; exact n.ok
    · show Txt.rstripChars (a ++ Str.ofString ",") (Str.ofString ",") :: _ = _
      rw [n.s2, h2]
theorem nms0_len {h S : Nat} (hS : S < 16) : (nms0 h S).length ≤ 4 ∧ nms0 h S ≠ [] := by
  rw [nms0]
  split
  · exact ⟨by simp, by simp⟩
  · rename_i hS0
    refine ⟨?_, fun q => hS0 (mask_ext hS (by decide) fun j hj => ?_)⟩
    · rw [nms, List.length_map]
      exact Nat.le_trans (List.length_filter_le _ _) (by simp)
    · rw [Nat.zero_testBit]
      cases hb : S.testBit j with
      | false => rfl
      | true =>
        have : flagName (h + j) ∈ nms h S := mem_nms.mpr ⟨j, ⟨hj, hb⟩, rfl⟩
        rw [q] at this; cases this
theorem cnt_app (c : Nat) : ∀ a b : List Nat, cnt c (a ++ b) = cnt c a + cnt c b
  | [], b => by rw [List.nil_append, cnt_nil, Int.zero_add]
  | x :: a, b => by rw [List.cons_append, cnt_cons, cnt_cons, cnt_app c a b, Int.add_assoc]
theorem alpha_nl : ∀ c ∈ alpha, c ≠ Str.ofString "\n" := fun c hc => (alpha_ok c hc).2.2.2.2.1
theorem cnt_nm {w : Str} (h : ∀ c ∈ signs w, c ∈ alpha) : cnt 10 w.cps.toList = 0 := by
  have : ∀ l : List Nat, (∀ c ∈ l.map (fun n => (⟨#[n]⟩ : Str)), c ∈ alpha) → cnt 10 l = 0 := by
    intro l
    induction l with
    | nil => intro _; rfl
    | cons n r ih =>
      intro h
      rw [cnt_cons, ih fun c hc => h c (.tail _ hc), if_neg]
      · rfl
      · rintro zz0
        refine hid ?_; intro KK
        (rcases zz0 with rfl) <;> (k_unfold; clear KK)
        exact alpha_nl _ (h _ (.head _)) rfl
  exact this _ h
theorem cnt_wpiece (num i : Nat) (w : Str) (h : ∀ c ∈ signs w, c ∈ alpha) : cnt 10 (wpiece num i w).cps.toList = if num / 3 ^ i % 3 = 2 then 1 else 0 := by
  have hw := cnt_nm h
  have app : ∀ a b : Str, (a ++ b).cps.toList = a.cps.toList ++ b.cps.toList := fun a b => by rw [show (a ++ b).cps = a.cps ++ b.cps from rfl, Array.toList_append]
  have hm : num / 3 ^ i % 3 < 3 := Nat.mod_lt _ (by decide)
  unfold wpiece
  split
  · rename_i e
    rw [app, cnt_app, hw, if_neg (by omega)]; decide
  · split
    · rw [app, app, cnt_app, cnt_app, hw, if_neg (by omega)]; decide
    · rw [app, app, cnt_app, cnt_app, hw, if_pos (by omega)]; decide
theorem wnl_take (num : Nat) : ∀ (ws : List Str) (i : Nat), wnl (mkRow num i ws) = ((ws.zipIdx i).map fun p => if num / 3 ^ p.2 % 3 = 2 then (1 : Int) else 0).sum
  | [], _ => rfl
  | w :: r, i => by rw [mkRow, wnl, wnl_take num r (i + 1), List.zipIdx_cons, List.map_cons, List.sum_cons]
theorem wr_cnt (ws : List Str) (num : Nat) (h : ∀ w ∈ ws, ∀ c ∈ signs w, c ∈ alpha) : ∀ i, i ≤ ws.length → cnt 10 (wrTo ws num i).cps.toList = (((ws.take i).zipIdx 0).map fun p => if num / 3 ^ p.2 % 3 = 2 then (1 : Int) else 0).sum
  | 0, _ => by rw [List.take_zero]; rfl
  | i + 1, hi => by
    have e : ws.take (i + 1) = ws.take i ++ [ws.getD i (Str.ofString "")] := by
      rw [List.take_add_one, List.getElem?_eq_getElem (by omega), List.getD_eq_getElem?_getD, List.getElem?_eq_getElem (by omega)]; rfl
    have hm : ws.getD i (Str.ofString "") ∈ ws := by
      rw [List.getD_eq_getElem?_getD, List.getElem?_eq_getElem (by omega)]
      exact List.getElem_mem _
    rw [wrTo, show ∀ a b : Str, (a ++ b).cps.toList = a.cps.toList ++ b.cps.toList from fun a b => by rw [show (a ++ b).cps = a.cps ++ b.cps from rfl, Array.toList_append], cnt_app, wr_cnt ws num h i (by omega), cnt_wpiece num i _ (h _ hm), e, List.zipIdx_append, List.map_append, List.sum_append, List.length_take, Nat.min_eq_left (by omega)]
    simp
theorem row_cnt (ws : List Str) (num : Nat) (h : ∀ w ∈ ws, ∀ c ∈ signs w, c ∈ alpha) : cnt 10 (wrTo ws num ws.length).cps.toList = wnl (mkRow num 0 ws) := by
  rw [wr_cnt ws num h _ (Nat.le_refl _), List.take_length, wnl_take]
theorem join_cnt : ∀ l : List Str, cnt 10 (Txt.join (Str.ofString "") l).cps.toList = (l.map fun s => cnt 10 s.cps.toList).sum
  | [] => rfl
  | [a] => by show cnt 10 a.cps.toList = _; simp
  | a :: b :: r => by
    have app : ∀ a b : Str, (a ++ b).cps.toList = a.cps.toList ++ b.cps.toList := fun a b => by rw [show (a ++ b).cps = a.cps ++ b.cps from rfl, Array.toList_append]
    rw [tjoin, app, app, cnt_app, cnt_app, join_cnt (b :: r), List.map_cons, List.sum_cons, List.map_cons, List.sum_cons, List.map_cons, List.sum_cons, show cnt 10 (Str.ofString "").cps.toList = 0 from rfl, Int.add_zero]
theorem comma_al {l : List Str} (h : ∀ nm ∈ l, NmOk nm) : ∀ w ∈ comma l, ∀ c ∈ signs w, c ∈ alpha := by
  induction l with
  | nil => intro w hw; cases hw
  | cons a r ih =>
    have n := h a (.head _)
    cases r with
    | nil => intro w hw; rw [List.mem_singleton.mp hw]; exact n.al
    | cons b r =>
      intro w hw c hc
      refine hid ?_; intro KK
      (rcases List.mem_cons.mp (show w ∈ (a ++ Str.ofString ",") :: comma (b :: r) from hw) with rfl | hw) <;> (k_unfold; clear KK)
      · have hsg : signs (a ++ Str.ofString ",") = signs a ++ [Str.ofString ","] := by rw [signs_app]; rfl
        rw [hsg] at hc
        refine hid ?_; intro KK
        (rcases List.mem_append.mp hc with hc | hc) <;> (k_unfold; clear KK)
        · exact n.al c hc
        · rw [List.mem_singleton.mp hc]; exact comma_mem
      · exact ih (fun nm hm => h nm (.tail _ hm)) w hw c hc
theorem comma_short {l : List Str} (h : ∀ nm ∈ l, NmOk nm) : ∀ w ∈ comma l, w.length ≤ 40 := by
  induction l with
  | nil => intro w hw; cases hw
  | cons a r ih =>
    have n := (h a (.head _)).len
    cases r with
    | nil => intro w hw; rw [List.mem_singleton.mp hw]; omega
    | cons b r =>
      intro w hw
      refine hid ?_; intro KK
      (rcases List.mem_cons.mp (show w ∈ (a ++ Str.ofString ",") :: comma (b :: r) from hw) with rfl | hw) <;> (k_unfold; clear KK)
      · rw [str_len_app, show (Str.ofString ",").length = 1 from by decide +kernel]; omega
      · exact ih (fun nm hm => h nm (.tail _ hm)) w hw
/-- a written row, read -/
structure RowOk (h S num : Nat) (r : List Wd) : Prop where
  ne : r ≠ []
  len : r.length ≤ 100
  ok : RowT r
  nm : (r.map fun p => p.2.2) = nms0 h S
  sg : signs (wrTo (words (S * 2 ^ h)) num (words (S * 2 ^ h)).length) = wchars r
  ct : cnt 10 (wrTo (words (S * 2 ^ h)) num (words (S * 2 ^ h)).length).cps.toList = wnl r
  w1 : (words (S * 2 ^ h)).length ≤ 20
  w2 : ∀ x ∈ words (S * 2 ^ h), x.length ≤ 40
theorem row_all {h S : Nat} (hh : h < 11) (hS : S < 16) (num : Nat) : RowOk h S num (mkRow num 0 (comma (nms0 h S))) := by
  refine hid ?_; intro KK
  (obtain ⟨S', hS', e, hw, _, _⟩ := Fam.ok hh ⟨S, hS, rfl⟩) <;> (k_unfold; clear KK)
  have hSS : S = S' := Nat.eq_of_mul_eq_mul_right (Nat.two_pow_pos h) e
  refine hid ?_; intro KK
  (subst hSS) <;> (k_unfold; clear KK)
  have hn := nms0_nm (S := S) hh
  refine hid ?_; intro KK
  (obtain ⟨h1, h2⟩ := row_ok num (nms0 h S) 0 hn) <;> (k_unfold; clear KK)
  refine hid ?_; intro KK
  (obtain ⟨h3, h4⟩ := nms0_len (h := h) hS) <;> (k_unfold; clear KK)
  have hl : (mkRow num 0 (comma (nms0 h S))).length = (nms0 h S).length := by
    have := congrArg List.length h2
    rw [List.length_map] at this; exact this
  refine ⟨fun q => ?_, by omega, h1, h2, by rw [hw]; exact row_signs _ _, by rw [hw]; exact row_cnt _ _ (comma_al hn), by rw [hw, comma_len]; omega, by rw [hw]; exact comma_short hn⟩
  rw [q] at hl
  exact h4 (List.eq_nil_of_length_eq_zero hl.symm)
theorem signs_len (x : Str) : (signs x).length = x.length := by
  unfold signs
  rw [List.length_map, Array.length_toList]; rfl
theorem four_text {h a b c d na nb nc nd : Nat} {A B C D : Str} {Ya Yb Yc Yd : List Wd} (ra : RowOk h a na Ya) (rb : RowOk h b nb Yb) (rc : RowOk h c nc Yc) (rd : RowOk h d nd Yd)
    (ea : wrTo (words (a * 2 ^ h)) na (words (a * 2 ^ h)).length = A) (eb : wrTo (words (b * 2 ^ h)) nb (words (b * 2 ^ h)).length = B) (ec : wrTo (words (c * 2 ^ h)) nc (words (c * 2 ^ h)).length = C) (ed : wrTo (words (d * 2 ^ h)) nd (words (d * 2 ^ h)).length = D) :
    signs (Txt.join (Str.ofString "") [A, B, C, D]) = [Ya, Yb, Yc, Yd].flatMap wchars ∧ (Txt.join (Str.ofString "") [A, B, C, D]).length ≤ 100000 ∧ (A.length ≤ 1000 ∧ B.length ≤ 1000 ∧ C.length ≤ 1000 ∧ D.length ≤ 1000) ∧
      cnt 10 (Txt.join (Str.ofString "") [A, B, C, D]).cps.toList = nlAt [Ya, Yb, Yc, Yd] 4 := by
  have len : ∀ {a na : Nat} {Ya : List Wd} {A : Str}, RowOk h a na Ya → wrTo (words (a * 2 ^ h)) na (words (a * 2 ^ h)).length = A → A.length ≤ 1000 := fun {a na Ya A} ra ea => by
    have h1 := wrTo_le na ra.w2 (words (a * 2 ^ h)).length
    rw [ea] at h1
    have := ra.w1
    omega
  have la := len ra ea
  have lb := len rb eb
  have lc := len rc ec
  have ld := len rd ed
  have hs := join_signs [A, B, C, D]
  refine ⟨?_, ?_, ⟨la, lb, lc, ld⟩, ?_⟩
  · rw [hs, ← ea, ← eb, ← ec, ← ed]
    simp only [List.flatMap_cons, List.flatMap_nil, ra.sg, rb.sg, rc.sg, rd.sg]
  · rw [← signs_len, hs]
    simp only [List.flatMap_cons, List.flatMap_nil, List.length_append, signs_len, List.length_nil]
    omega
  · rw [join_cnt, ← ea, ← eb, ← ec, ← ed]
    simp only [List.map_cons, List.map_nil, List.sum_cons, List.sum_nil, ra.ct, rb.ct, rc.ct, rd.ct]
    show _ = (((0 + wnl Ya) + wnl Yb) + wnl Yc) + wnl Yd
    omega
theorem rising_sorted : ∀ (l : List Str) (p : Str), risingS p l = true → (p :: l).Nodup → (p :: l).Pairwise (fun a b => ltStr a b = true)
  | [], p, _, _ => by simp
  | x :: r, p, h, hn => by
    rw [risingS, Bool.and_eq_true, Bool.not_eq_true'] at h
    rw [List.nodup_cons] at hn
    have ih := rising_sorted r x h.2 hn.2
    have hpx : ltStr p x = true := lin_str.tot (a := x) (b := p) (fun e => hn.1 (e ▸ .head _)) (by rw [ltStr, lt_meets]; exact h.1)
    refine List.pairwise_cons.mpr ⟨fun b hb => ?_, ih⟩
    refine hid ?_; intro KK
    (rcases List.mem_cons.mp hb with rfl | hb) <;> (k_unfold; clear KK)
    · exact hpx
    · exact lin_str.tr hpx ((List.pairwise_cons.mp ih).1 b hb)
theorem sortedS_is {h W : Nat} (hh : h < 11) {ss : List Str} (hp : ss.Perm (nms h W)) (hs : sortedS ss = true) : ss = srt h W := by
  have hn : ss.Nodup := hp.nodup_iff.mpr (nms_nodup hh W)
  refine sorted_ext ?_ (srt_sorted hh W) fun x => by rw [hp.mem_iff, mem_srt hh, mem_nms]
  cases ss with
  | nil => exact .nil
  | cons p l => exact rising_sorted l p hs hn
theorem nms0_ok {h W : Nat} (hh : h < 11) : ∀ x ∈ nms0 h W, PyData.strOk x = true := fun x hx => (nms0_nm hh x hx).ok
theorem srt_ok {h W : Nat} (hh : h < 11) : ∀ x ∈ srt h W, PyData.strOk x = true := by
  intro x hx
  refine hid ?_; intro KK
  (obtain ⟨j, ⟨a, _⟩, rfl⟩ := (mem_srt hh).mp hx) <;> (k_unfold; clear KK)
  exact (NmOk.of (flag_nm _ (by omega))).ok
theorem ints_mem {vs : List Value} {ns : List Int} (h : IntsAre vs ns) {v : Value} (hv : v ∈ vs) : ∃ (a : Int) (t : Tok), v = .int a t := by
  induction h with
  | nil => cases hv
  | cons n t _ ih =>
    refine hid ?_; intro KK
    (rcases List.mem_cons.mp hv with rfl | hv) <;> (k_unfold; clear KK)
    · exact ⟨n, t, rfl⟩
    · exact ih hv
theorem are_ints {w : World} : ∀ {vs : List Value} {xs : List Nat}, Are (natKd w).is vs xs → IntsAre vs (xs.map fun n : Nat => (n : Int))
  | [], [], _ => .nil
  | _ :: _, _ :: _, ⟨⟨t, e⟩, h⟩ => by rw [e]; exact .cons _ t (are_ints h)
theorem nat_sum (xs : List Nat) : (xs.map fun n : Nat => (n : Int)).sum = ((xs.sum : Nat) : Int) := by
  induction xs with
  | nil => rfl
  | cons a r ih => rw [List.map_cons, List.sum_cons, ih, List.sum_cons]; omega
theorem are_all {w : World} {M : Nat} {vs : List Value} {xs : List Nat} (h : Are (natKd w).is vs xs) (hM : ∀ a ∈ xs, a < M) : ∀ v ∈ vs, ∃ (a : Nat) (t : Tok), v = .int (a : Int) t ∧ a < M := by
  intro v hv
  refine hid ?_; intro KK
  (obtain ⟨i, hi⟩ := List.getElem?_of_mem hv) <;> (k_unfold; clear KK)
  have hl : i < xs.length := by
    rw [← h.length]
    exact (List.getElem?_eq_some_iff.mp hi).1
  refine hid ?_; intro KK
  (obtain ⟨v', a, h1, h2, t, e⟩ := h.get hl) <;> (k_unfold; clear KK)
  rw [h1] at hi
  cases hi
  exact ⟨a, t, e, hM a (List.mem_of_getElem? h2)⟩
theorem all_are {w : World} {M : Nat} : ∀ {vs : List Value}, (∀ v ∈ vs, ∃ (a : Nat) (t : Tok), v = .int (a : Int) t ∧ a < M) → ∃ xs : List Nat, Are (natKd w).is vs xs ∧ ∀ a ∈ xs, a < M
  | [], _ => ⟨[], trivial, fun _ h => nomatch h⟩
  | v :: r, h => by
    refine hid ?_; intro KK
    (obtain ⟨a, t, e, ha⟩ := h v (.head _)) <;> (k_unfold; clear KK)
    refine hid ?_; intro KK
    (obtain ⟨xs, h1, h2⟩ := all_are (w := w) fun v hv => h v (.tail _ hv)) <;> (k_unfold; clear KK)
    refine ⟨a :: xs, ⟨⟨t, e⟩, h1⟩, fun b hb => ?_⟩
    refine hid ?_; intro KK
    (rcases List.mem_cons.mp hb with rfl | hb) <;> (k_unfold; clear KK)
    · exact ha
    · exact h2 b hb
theorem slice_mem {items : List Value} {lo hi st : Option Int} {v : Value} (h : v ∈ (slicePick items.toArray lo hi st).toList) : v ∈ items := by
  unfold slicePick at h
  rw [List.mem_filterMap] at h
  refine hid ?_; intro KK
  (obtain ⟨i, _, h⟩ := h) <;> (k_unfold; clear KK)
  simp only [List.getElem?_toArray] at h
  exact List.mem_of_getElem? h
theorem sum_le {M : Nat} : ∀ {xs : List Nat}, (∀ a ∈ xs, a < M) → xs.sum ≤ xs.length * M
  | [], _ => Nat.zero_le _
  | a :: r, h => by
    have := sum_le fun b hb => h b (.tail _ hb)
    have h1 := h a (.head _)
    rw [List.sum_cons, List.length_cons, Nat.succ_mul]
    omega
theorem are_one {w : World} {ys : List Value} {a : Nat} {r : List Nat} (h : Are (natKd w).is ys (a :: r)) : ∃ (t : Tok) (y : List Value), ys = .int (a : Int) t :: y ∧ Are (natKd w).is y r := by
  cases ys with
  | nil => exact h.elim
  | cons v y =>
    refine hid ?_; intro KK
    (obtain ⟨⟨t, h1⟩, h2⟩ := h) <;> (k_unfold; clear KK)
    exact ⟨t, y, by rw [h1], h2⟩
theorem are_nil {w : World} {ys : List Value} (h : Are (natKd w).is ys []) : ys = [] := by
  cases ys with
  | nil => rfl
  | cons v y => exact h.elim
theorem len_one {hs : List Nat} {k : Nat} (h : hs.length = k + 1) : ∃ (a : Nat) (r : List Nat), hs = a :: r ∧ r.length = k := by
  cases hs with
  | nil => cases h
  | cons a r => exact ⟨a, r, rfl, Nat.succ.inj h⟩
theorem are_six {w : World} {ys : List Value} {hs : List Nat} (h : Are (natKd w).is ys hs) (hl : hs.length = 6) :
    ∃ (a b c d e f : Nat) (ta tb tc td te tf : Tok), hs = [a, b, c, d, e, f] ∧ ys = [.int (a : Int) ta, .int (b : Int) tb, .int (c : Int) tc, .int (d : Int) td, .int (e : Int) te, .int (f : Int) tf] := by
  refine hid ?_; intro KK
  (obtain ⟨a, r1, rfl, l1⟩ := len_one hl) <;> (k_unfold; clear KK)
  refine hid ?_; intro KK
  (obtain ⟨b, r2, rfl, l2⟩ := len_one l1) <;> (k_unfold; clear KK)
  refine hid ?_; intro KK
  (obtain ⟨c, r3, rfl, l3⟩ := len_one l2) <;> (k_unfold; clear KK)
  refine hid ?_; intro KK
  (obtain ⟨d, r4, rfl, l4⟩ := len_one l3) <;> (k_unfold; clear KK)
  refine hid ?_; intro KK
  (obtain ⟨e, r5, rfl, l5⟩ := len_one l4) <;> (k_unfold; clear KK)
  refine hid ?_; intro KK
  (obtain ⟨f, r6, rfl, l6⟩ := len_one l5) <;> (k_unfold; clear KK)
  refine hid ?_; intro KK
  (obtain rfl := List.length_eq_zero_iff.mp l6) <;> (k_unfold; clear KK)
  refine hid ?_; intro KK
  (obtain ⟨ta, y1, e1, h1⟩ := are_one h) <;> (k_unfold; clear KK)
  refine hid ?_; intro KK
  (obtain ⟨tb, y2, e2, h2⟩ := are_one h1) <;> (k_unfold; clear KK)
  refine hid ?_; intro KK
  (obtain ⟨tc, y3, e3, h3⟩ := are_one h2) <;> (k_unfold; clear KK)
  refine hid ?_; intro KK
  (obtain ⟨td, y4, e4, h4⟩ := are_one h3) <;> (k_unfold; clear KK)
  refine hid ?_; intro KK
  (obtain ⟨te, y5, e5, h5⟩ := are_one h4) <;> (k_unfold; clear KK)
  refine hid ?_; intro KK
  (obtain ⟨tf, y6, e6, h6⟩ := are_one h5) <;> (k_unfold; clear KK)
  exact ⟨a, b, c, d, e, f, ta, tb, tc, td, te, tf, rfl, by rw [e1, e2, e3, e4, e5, e6, are_nil h6]⟩
theorem are_four {w : World} {ys : List Value} {a b c d : Nat} (h : Are (natKd w).is ys [a, b, c, d]) : ∃ (ta tb tc td : Tok), ys = [.int (a : Int) ta, .int (b : Int) tb, .int (c : Int) tc, .int (d : Int) td] := by
  refine hid ?_; intro KK
  (obtain ⟨ta, y1, e1, h1⟩ := are_one h) <;> (k_unfold; clear KK)
  refine hid ?_; intro KK
  (obtain ⟨tb, y2, e2, h2⟩ := are_one h1) <;> (k_unfold; clear KK)
  refine hid ?_; intro KK
  (obtain ⟨tc, y3, e3, h3⟩ := are_one h2) <;> (k_unfold; clear KK)
  refine hid ?_; intro KK
  (obtain ⟨td, y4, e4, h4⟩ := are_one h3) <;> (k_unfold; clear KK)
  exact ⟨ta, tb, tc, td, by rw [e1, e2, e3, e4, are_nil h4]⟩
/-- a test that says no -/
noncomputable def IfP (s : Shared) (g : Heap) (L : Addr) (m : Str → Option Value) (news : List (Addr × Obj)) (b : Bool) (s₂ : Shared) : Prop := b = false ∧ ∃ h' tk', s₂ = { s with heap := h', toks := tk' } ∧ Fr g L h' m ∧ News g L h' news
theorem if_false {M : Model} {A : Around} {E : Value → Shared → Prop} {s : Shared} {g : Heap} {L : Addr} {m : Str → Option Value} {news : List (Addr × Obj)} {env : Env} {test : Expr} {body orelse : List Stmt} {pos : Pos} {Q : Flow → Shared → Prop} (_F : Fr g L s.heap m) (_N : News g L s.heap news)
    (h : wpAny M A (isTrue test env (eval test env)) (fun b s₂ => IfP s g L m news b s₂) (fun _ _ => False) s)
    (k : ∀ h' tk', Fr g L h' m → News g L h' news → wpAny M A (execs orelse env) Q E { s with heap := h', toks := tk' }) : wpAny M A (exec (.If test body orelse pos) env) Q E s := by
  refine wpAny_If (wpAny_mono h (fun b s₂ hb => ?_) fun _ _ x => x.elim)
  refine hid ?_; intro KK
  (obtain ⟨rfl, h', tk', rfl, F, N⟩ := hb) <;> (k_unfold; clear KK)
  rw [if_neg (by decide)]
  exact k h' tk' F N
theorem strs_are {w : World} : ∀ {vs : List Value} {ss : List Str}, StrsAre vs ss → (∀ x ∈ ss, PyData.strOk x = true) → Are (strKd w).is vs ss
  | [], [], _, _ => trivial
  | _ :: _, _ :: _, .cons _ t h, hok => ⟨⟨hok _ (.head _), t, rfl⟩, strs_are h fun x hx => hok x (.tail _ hx)⟩
noncomputable abbrev pnObj (p : Nat) (nm : Str) (t u : Tok) : Obj := { cls := .type "tuple", data := .seq #[.int (p : Int) t, .str nm u] }
/-- pairs of a place and a name, their tuples in ts -/
noncomputable def TupL (ts : List (Addr × Obj)) : List Value → List (Nat × Str) → Prop := Are fun v p => PyData.strOk p.2 = true ∧ ∃ T t u, v = .ref T ∧ (T, pnObj p.1 p.2 t u) ∈ ts
theorem Are.imp {α : Type} {is is' : Value → α → Prop} (h : ∀ v a, is v a → is' v a) : ∀ {vs : List Value} {xs : List α}, Are is vs xs → Are is' vs xs
  | [], [], x => x
  | _ :: _, _ :: _, ⟨a, b⟩ => ⟨h _ _ a, Are.imp h b⟩
theorem TupL.mono {ts ts' : List (Addr × Obj)} (h : ∀ p ∈ ts, p ∈ ts') {vs : List Value} {xs : List (Nat × Str)} (x : TupL ts vs xs) : TupL ts' vs xs := Are.imp (fun _ _ ⟨a, T, t, u, e, m⟩ => ⟨a, T, t, u, e, h _ m⟩) x
noncomputable def encP (p : Nat × Str) : PyData := .tuple [.int p.1, .str p.2]
theorem TupL.reads {g h : Heap} {L : Addr} {ts news : List (Addr × Obj)} (N : News g L h news) (hs : ∀ p ∈ ts, p ∈ news) : ∀ {vs : List Value} {xs : List (Nat × Str)}, TupL ts vs xs → ∃ as, ReadsAll h vs (xs.map encP) as ∧ PyData.canLayAll0 (xs.map encP) = true ∧ PyData.depthAll (xs.map encP) ≤ 2 ∧ PyData.eqvAll (xs.map encP) (xs.map encP) = true
  | [], [], _ => ⟨[], .nil, rfl, by decide, rfl⟩
  | v :: vs, p :: xs, ⟨⟨hok, T, t, u, e, hm⟩, r⟩ => by
    refine hid ?_; intro KK
    (obtain ⟨as, h1, h2, h3, h4⟩ := TupL.reads N hs r) <;> (k_unfold; clear KK)
    refine hid ?_; intro KK
    (subst e) <;> (k_unfold; clear KK)
    refine ⟨_, .cons (.tuple (N _ (hs _ hm)).1 rfl rfl (.cons (.int _ _) (.cons (.str _ _) .nil))) h1, ?_, ?_, ?_⟩
    · simp only [List.map_cons, encP, PyData.canLayAll0, PyData.canLay0, hok, h2, Bool.and_self]
    · simp only [List.map_cons, encP, PyData.depthAll, PyData.depth]
      omega
    · simp only [List.map_cons, encP, PyData.eqvAll, PyData.eqv, h4]
      simp
noncomputable def toldIn (C : Str → List Nat) (names : List Str) (p : Nat) : List (Nat × Str) := (names.filter fun nm => (C nm).any (· == p)).map fun nm => (p, nm)
noncomputable def toldTo (C : Str → List Nat) (names : List Str) : Nat → List (Nat × Str)
  | 0 => []
  | i + 1 => toldTo C names i ++ toldIn C names i
theorem any_cast (xs : List Nat) (i : Nat) : ((xs.map fun n : Nat => (n : Int)).any (· == (i : Int))) = xs.any (· == i) := by
  induction xs with
  | nil => rfl
  | cons a r ih =>
    rw [List.map_cons, List.any_cons, List.any_cons, ih]
    congr 1
    by_cases h : a = i
    · subst h; simp
    · rw [beq_false_of_ne h, beq_false_of_ne (by omega)]
section
variable {prog : Program} {w : World} {A : Around} {s : Shared} {E : Value → Shared → Prop} {g : Heap} {L : Addr} {m : Str → Option Value} {news : List (Addr × Obj)} {Q : Value → Shared → Prop}
theorem range_start {r : Addr} {n : Nat} {tt uu vv : Tok} (F : Fr g L s.heap m) (N : News g L s.heap news) (hr : IsRange s.heap r 0 n 1 tt uu vv) (hsz : n ≤ 1000000)
    (h : ∀ I h', Fr g L h' m → News g L h' ((I, rIter ((0 : Nat) : Int) ((n : Int) - ((0 : Nat) : Int))) :: news) → (∀ p ∈ news, p.1 < I) → Q (.ref I) { s with heap := h' }) : wpAny (model prog w) A (pyIter (.ref r)) Q E s := by
  refine hid ?_; intro KK
  (obtain ⟨hs, he⟩ := range_small n hsz) <;> (k_unfold; clear KK)
  refine wpAny_pyIter_range hr hs ?_
  rw [he]
  refine h _ _ (F.push _) ?_ fun p hp => Heap.lt_size (N p hp).1
  have := News.push F N { cls := .type "range_iterator", data := .fields #[rawInt 0, rawInt (n : Int), rawInt 1] }
  simpa using this
theorem list_start {l : Addr} {vs : List Value} {e : Nat} (F : Fr g L s.heap m) (N : News g L s.heap news) (hm : (l, listOf vs.toArray e) ∈ news)
    (h : ∀ I h', Fr g L h' m → News g L h' ((I, liObj l) :: news) → (∀ p ∈ news, p.1 < I) → Q (.ref I) { s with heap := h' }) : wpAny (model prog w) A (pyIter (.ref l)) Q E s :=
  wpAny_pyIter_list (News.isList N hm) (h _ _ (F.push _) (News.push F N (liObj l)) fun p hp => Heap.lt_size (N p hp).1)
end
section
variable {w : World} {A : Around} {env : Env} {scope : Scope} {cl : List (Str × Addr)} {elt iter : Expr} {pos : Pos} {s : Shared} {g : Heap} {L l : Addr} {m : Str → Option Value} {news0 : List (Addr × Obj)} {elts : List Expr} {x1 : Nat} {px : Pos}
  {mean : ExcName → Option Value} {mg mb : Str → Option Value} {vs : List Value} {k : Nat} {e it : Addr}
noncomputable abbrev tiObj (l : Addr) : Obj := { cls := .type "tuple_iterator", data := .fields #[.ref l, .int 0 0] }
/-- a comprehension over an enumerate of a tuple -/
theorem comp_enumTA (keepL : List (Addr × Obj)) (F : Fr g L s.heap m) (N : News g L s.heap ((e, enumObj it 0 .none) :: (it, tiObj l) :: (l, tupOf vs k) :: news0)) (hie : it ≠ e) (hlt : ∀ p ∈ (l, tupOf vs k) :: news0, p.1 < it ∧ p.1 < e) (hl : ∀ p ∈ news0, p.1 ≠ l)
    (X : (hd.heap_1 w.params).In g) (T : Top topProg loose mean mg mb g) (hh : A.handled = none)
    (hkind : scope.kind = .function) (hcell : ∀ y ∈ scope.names, y.2 ≠ .cell) (hks : ∀ p ∈ keepL, p ∈ news0)
    {y : Str} {py : Pos} (hL : env.locals = L) (hy : env.kindOf y = some .local) (hp : (env.scope.kind == .class || (env.scope.kind == .module && env.locals != env.globals)) = false)
    (J : Nat → List Value → Prop) (hsz : ∀ i ys, J i ys → ys.length ≤ 1000000) (h0 : J 0 []) {E : Value → Shared → Prop} {Q : Shared → Prop}
    (step : CTurn w A env scope cl elt (.Tuple elts x1 px) s (fun i (c : Obj × Value) => [(e, enumObj it (i : Int) c.2), (it, c.1), (l, tupOf vs k)]) (fun i c => TI l i c.1) (tiObj l, Value.none) keepL mean mg mb vs.length
      (fun i v ex => ∃ T t x, v = .ref T ∧ vs[i]? = some x ∧ ex = [(T, { cls := .type "tuple", data := .seq #[.int i t, x] })]) J)
    (done : ∀ D ys e h' tk', J vs.length ys → Fr g L h' (fun z => if z = y then some (.ref D) else m z) → News g L h' ((D, listOf ys.toArray e) :: news0) → (∀ p ∈ news0, p.1 < D) → Q { s with heap := h', toks := tk' }) :
    wpAny (model PySem.Challenge.rw_wn0058_01.row.prog w) A (pyIter (.ref e)) (fun it s₂ => Hold (wpAny (model PySem.Challenge.rw_wn0058_01.row.prog w) A (newList []) (fun acc s₃ => wpAny (model PySem.Challenge.rw_wn0058_01.row.prog w) A (newFunctionEnv scope env.globals cl [] env.qual none .none (some env)) (fun cenv s₄ =>
      codeAny (model PySem.Challenge.rw_wn0058_01.row.prog w) A (.compStart (.ListComp elt [⟨.Tuple elts x1 px, iter, [], 0⟩] scope pos) 0 it acc { cenv with scope := relabel scope env }) (compPost (model PySem.Challenge.rw_wn0058_01.row.prog w) A E (some (assign (.Name y py) env)) (fun _ s' => Q s') acc cenv.locals) s₄) E s₃) E s₂)) E s := by
  refine wpAny_pyIter_enum (N _ (.head _)).1 ?_
  have l1 := hlt _ (.head _)
  have hns : ∀ p ∈ news0, p.1 ∉ [e, it, l] := fun p hp q => by
    simp only [List.mem_cons, List.not_mem_nil, or_false] at q
    have h1 := hlt p (.tail _ hp)
    exact q.elim (Nat.ne_of_lt h1.2) fun q => q.elim (Nat.ne_of_lt h1.1) (hl p hp)
  refine comp_coreA (iter_enumT w elts x1 px e it l hie (Nat.ne_of_lt l1.2) (Nat.ne_of_lt l1.1) vs k) (fun i c p hp => ?_) (c₀ := (tiObj l, Value.none)) keepL F (fun p hp => N p ?_) (fun p hp => N p (.tail _ (.tail _ (.tail _ hp)))) (fun p hp q => ?_) X T hkind hcell (fun p hp => hns p (hks p hp)) hh ⟨rfl, rfl⟩ (fun g' C s' N => wpAny_pyIter_enum (N _ (.head _)).1 ⟨rfl, rfl⟩) (fun a ha => by simpa using ha) hL hy hp J hsz h0 step
    (fun D ys e h' tk' hJ F' N' hD => done D ys e h' tk' hJ F' N' fun p hp => Nat.lt_of_lt_of_le (Heap.lt_size (N p (.tail _ (.tail _ (.tail _ hp)))).1) hD)
  · simp only [List.mem_cons, List.not_mem_nil, or_false] at hp
    refine hid ?_; intro KK
    (rcases hp with rfl | rfl | rfl) <;> (k_unfold; clear KK)
    · exact .head _
    · exact .tail _ (.head _)
    · exact .tail _ (.tail _ (.head _))
  · refine hid ?_; intro KK
    (rcases List.mem_append.mp hp with hp | hp) <;> (k_unfold; clear KK)
    · simp only [List.mem_cons, List.not_mem_nil, or_false] at hp
      refine hid ?_; intro KK
      (rcases hp with rfl | rfl | rfl) <;> (k_unfold; clear KK)
      · exact .head _
      · exact .tail _ (.head _)
      · exact .tail _ (.tail _ (.head _))
    · exact .tail _ (.tail _ (.tail _ (hks p hp)))
  · exact absurd (by simpa using q) (hns p hp)
end
section
variable {w : World} {A : Around} {env : Env} {scope : Scope} {cl : List (Str × Addr)} {elt iter : Expr} {pos : Pos} {s : Shared} {g : Heap} {L l1 l2 : Addr} {m : Str → Option Value} {news0 : List (Addr × Obj)} {elts : List Expr} {x1 : Nat} {px : Pos}
  {mean : ExcName → Option Value} {mg mb : Str → Option Value} {xs ys0 : List Value} {e1 e2 : Nat} {z TI TO i1 i2 : Addr} {o1 o2 : Obj}
/-- a comprehension over a zip of two lists -/
theorem comp_zipE (F : Fr g L s.heap m) (N : News g L s.heap ((z, zipObj TI TO) :: (TI, pairObj (.ref i1) (.ref i2)) :: (TO, pairObj .none .none) :: (i1, o1) :: (i2, o2) :: news0)) (ho1 : LI l1 0 o1) (ho2 : LI l2 0 o2) (D : ZipApart z TI TO i1 i2 l1 l2) (hlt : ∀ p ∈ news0, p.1 < i1 ∧ p.1 < i2 ∧ p.1 < TI ∧ p.1 < TO ∧ p.1 < z)
    (hm1 : (l1, listOf xs.toArray e1) ∈ news0) (hm2 : (l2, listOf ys0.toArray e2) ∈ news0) (hlen : xs.length ≤ ys0.length)
    (X : (hd.heap_1 w.params).In g) (T : Top topProg loose mean mg mb g) (hh : A.handled = none)
    (hkind : scope.kind = .function) (hcell : ∀ y ∈ scope.names, y.2 ≠ .cell)
    (J : Nat → List Value → Prop) (hsz : ∀ i ys, J i ys → ys.length ≤ 1000000) (h0 : J 0 []) {E : Value → Shared → Prop} {Q : Value → Shared → Prop}
    (step : CTurn w A env scope cl elt (.Tuple elts x1 px) s (fun i (c : (Value × Value) × Obj × Obj) => [(z, zipObj TI TO), (TI, pairObj (.ref i1) (.ref i2)), (TO, pairObj c.1.1 c.1.2), (i1, c.2.1), (i2, c.2.2), (l1, listOf xs.toArray e1), (l2, listOf ys0.toArray e2)]) (fun i c => LI l1 i c.2.1 ∧ LI l2 i c.2.2) ((.none, .none), o1, o2) [] mean mg mb xs.length
      (fun i v ex => ∃ T x y, v = .ref T ∧ xs[i]? = some x ∧ ys0[i]? = some y ∧ ex = [(T, pairObj x y)]) J)
    (done : ∀ D ys e h' tk', J xs.length ys → Fr g L h' m → News g L h' ((D, listOf ys.toArray e) :: news0) → (∀ p ∈ news0, p.1 < D) → Q (.ref D) { s with heap := h', toks := tk' }) :
    wpAny (model PySem.Challenge.rw_wn0058_01.row.prog w) A (pyIter (.ref z)) (fun it s₂ => Hold (wpAny (model PySem.Challenge.rw_wn0058_01.row.prog w) A (newList []) (fun acc s₃ => wpAny (model PySem.Challenge.rw_wn0058_01.row.prog w) A (newFunctionEnv scope env.globals cl [] env.qual none .none (some env)) (fun cenv s₄ =>
      codeAny (model PySem.Challenge.rw_wn0058_01.row.prog w) A (.compStart (.ListComp elt [⟨.Tuple elts x1 px, iter, [], 0⟩] scope pos) 0 it acc { cenv with scope := relabel scope env }) (compPost (model PySem.Challenge.rw_wn0058_01.row.prog w) A E none Q acc cenv.locals) s₄) E s₃) E s₂)) E s := by
  refine wpAny_pyIter_zip (N _ (.head _)).1 ?_
  have up : ∀ p ∈ news0, p ∈ (z, zipObj TI TO) :: (TI, pairObj (.ref i1) (.ref i2)) :: (TO, pairObj .none .none) :: (i1, o1) :: (i2, o2) :: news0 := fun p hp => .tail _ (.tail _ (.tail _ (.tail _ (.tail _ hp))))
  refine comp_coreE (iter_zip w elts x1 px z TI TO i1 i2 l1 l2 D xs ys0 e1 e2 hlen) (fun i c p hp => ?_) (c₀ := ((.none, .none), o1, o2)) [] F (fun p hp => N p ?_) (fun p hp => N p (up p hp)) (fun p hp q => ?_) X T hkind hcell (fun p hp => nomatch hp) hh ⟨ho1, ho2⟩ (fun g' C s' N => wpAny_pyIter_zip (N _ (.head _)).1 ⟨rfl, rfl⟩) (fun a ha => by simpa using ha) J hsz h0 step
    (fun D ys e h' tk' hJ F' N' hD => done D ys e h' tk' hJ F' N' fun p hp => Nat.lt_of_lt_of_le (Heap.lt_size (N p (up p hp)).1) hD)
  · have := List.mem_map_of_mem (f := (·.1)) hp
    simpa using this
  · rw [List.append_nil] at hp
    refine hid ?_; intro KK
    (rcases List.mem_cons.mp hp with rfl | hp) <;> (k_unfold; clear KK)
    · exact .head _
    · refine hid ?_; intro KK
      (rcases List.mem_cons.mp hp with rfl | hp) <;> (k_unfold; clear KK)
      · exact .tail _ (.head _)
      · refine hid ?_; intro KK
        (rcases List.mem_cons.mp hp with rfl | hp) <;> (k_unfold; clear KK)
        · exact .tail _ (.tail _ (.head _))
        · refine hid ?_; intro KK
          (rcases List.mem_cons.mp hp with rfl | hp) <;> (k_unfold; clear KK)
          · exact .tail _ (.tail _ (.tail _ (.head _)))
          · refine hid ?_; intro KK
            (rcases List.mem_cons.mp hp with rfl | hp) <;> (k_unfold; clear KK)
            · exact .tail _ (.tail _ (.tail _ (.tail _ (.head _))))
            · refine hid ?_; intro KK
              (rcases List.mem_cons.mp hp with rfl | hp) <;> (k_unfold; clear KK)
              · exact up _ hm1
              · rw [List.mem_singleton.mp hp]; exact up _ hm2
  · have h1 := hlt p hp
    simp only [List.map_cons, List.map_nil, List.mem_cons, List.not_mem_nil, or_false] at q
    have N0 : News g L s.heap news0 := fun p hp => N p (up p hp)
    refine hid ?_; intro KK
    (rcases q with q | q | q | q | q | q | q) <;> (k_unfold; clear KK)
    · exact absurd q (Nat.ne_of_lt h1.2.2.2.2)
    · exact absurd q (Nat.ne_of_lt h1.2.2.1)
    · exact absurd q (Nat.ne_of_lt h1.2.2.2.1)
    · exact absurd q (Nat.ne_of_lt h1.1)
    · exact absurd q (Nat.ne_of_lt h1.2.1)
    · rw [News.uniq N0 N0 hp hm1 q]; exact .head _
    · rw [News.uniq N0 N0 hp hm2 q]; exact .tail _ (.head _)
end
example : True := by w_top off; exact trivial
section
variable {w : World} {A : Around} {env : Env} {scope : Scope} {cl : List (Str × Addr)} {iter : Expr} {pos a1 a2 a3 a4 a5 a6 a7 a8 a9 a10 a11 : Pos} {s : Shared} {g : Heap} {L : Addr} {m : Str → Option Value} {news0 : List (Addr × Obj)}
  {mean : ExcName → Option Value} {mg mb : Str → Option Value} {y : Str} {py : Pos} {r nl cd aN aC : Addr} {od oN oC : Obj} {nmV : List Value} {e5 : Nat} {ls : List (Addr × Obj)} {NC : List Str × (Str → List Nat)} {tt uu vv : Tok} {kvs : List (Str × Value)}
local macro_rules | `(tactic| walk_at "eval Name") => `(tactic| (k_here; (with_reducible show wpAny _ _ (eval _ (compEnvC _ _ _ _)) _ _ _); k_dflt (first
  | (refine' nameZ_L ?F ?v ?_ ?l ?a ?b ?d; (case F => k_asm); (case l => rfl); (case v => rfl); (case a => assumption); (case b => assumption); (case d => decide))
  | (refine' nameZ_C ?N ?c ?m ?e ?_ ?a ?b ?d; (case a => assumption); (case b => assumption); (case N => k_asm); (case c => assumption); (case m => k_mem); (case e => k_asm); (case d => decide)))))
local macro_rules | `(tactic| walk_at "storeName") => `(tactic| (k_here; (with_reducible show wpAny _ _ (storeName (compEnvC _ _ _ _) _ _) _ _ _); k_dflt (refine' storeZ_L ?F ?N ?_ ?l ?a ?b; (case F => k_asm); (case N => k_asm); (case l => rfl); (case a => assumption); (case b => assumption)); intro h' F' N'; (try k_sweep)))
local macro_rules | `(tactic| walk_at $s:str) => if ["pyIter ref", "subscriptTail Name Name ref str", "compareOp In int ref"].contains s.getString then `(tactic| (refine hold_of ?_)) else Lean.Macro.throwUnsupported
theorem told1 (F : Fr g L s.heap m) (N : News g L s.heap news0) (hr : IsRange s.heap r 0 4 1 tt uu vv) (m1 : (nl, listOf nmV.toArray e5) ∈ news0) (m2 : (aN, oN) ∈ news0) (m3 : (aC, oC) ∈ news0) (m4 : (cd, od) ∈ news0) (m5 : ∀ p ∈ ls, p ∈ news0)
    (dN : oN.data = .cell (some (.ref nl))) (dC : oC.data = .cell (some (.ref cd))) (hne : ∀ p ∈ (aN, oN) :: (aC, oC) :: (cd, od) :: ls, p.1 ≠ nl) (hdd : Obj.IsDictOf (PySem.strKind pr w) od kvs) (hcols : ColsIs w kvs ls NC.2)
    (hare : Are (strKd w).is nmV NC.1) (hcne : ∀ nm ∈ NC.1, NC.2 nm ≠ []) (hn4 : NC.1.length ≤ 4) (X : (hd.heap_1 w.params).In g) (T : Top topProg loose mean mg mb g) (hh : A.handled = none)
    (hkind : scope.kind = .function) (hcell : ∀ y ∈ scope.names, y.2 ≠ .cell) (hL : env.locals = L) (hy : env.kindOf y = some .local) (hp : (env.scope.kind == .class || (env.scope.kind == .module && env.locals != env.globals)) = false)
    (hkf : (relabel scope env).kind = .function) (kP : ∀ C, (compEnvC scope cl C env).kindOf (Str.ofString "place") = some .local) (kM : ∀ C, (compEnvC scope cl C env).kindOf (Str.ofString "name") = some .local) (kN : ∀ C, (compEnvC scope cl C env).kindOf (Str.ofString "names") = some .cell) (kC : ∀ C, (compEnvC scope cl C env).kindOf (Str.ofString "columns") = some .cell)
    (lN : cl.lookup (Str.ofString "names") = some aN) (lC : cl.lookup (Str.ofString "columns") = some aC) (hcls : ∀ C, ((compEnvC scope cl C env).scope.kind == .class || ((compEnvC scope cl C env).scope.kind == .module && (compEnvC scope cl C env).locals != (compEnvC scope cl C env).globals)) = false)
    {E : Value → Shared → Prop} {Q : Shared → Prop}
    (done : ∀ D ys ep ts h' tk', TupL ts ys (toldTo NC.2 NC.1 4) → Fr g L h' (fun z => if z = y then some (.ref D) else m z) → News g L h' ((D, listOf ys.toArray ep) :: (ts ++ news0)) → (∀ p ∈ news0, p.1 < D) → Q { s with heap := h', toks := tk' }) :
    wpAny (model PySem.Challenge.rw_wn0058_01.row.prog w) A (pyIter (.ref r)) (fun it s₂ => Hold (wpAny (model PySem.Challenge.rw_wn0058_01.row.prog w) A (newList []) (fun acc s₃ => wpAny (model PySem.Challenge.rw_wn0058_01.row.prog w) A (newFunctionEnv scope env.globals cl [] env.qual none .none (some env)) (fun cenv s₄ =>
      codeAny (model PySem.Challenge.rw_wn0058_01.row.prog w) A (.compStart (.ListComp (.Tuple [.Name (Str.ofString "place") a1, .Name (Str.ofString "name") a2] 0 a3) [⟨.Name (Str.ofString "place") a4, iter, [], 0⟩, ⟨.Name (Str.ofString "name") a5, .Name (Str.ofString "names") a6, [.Compare (.Name (Str.ofString "place") a7) [.In] [.Subscript (.Name (Str.ofString "columns") a8) (.Name (Str.ofString "name") a9) a10] a11], 0⟩] scope pos) 0 it acc { cenv with scope := relabel scope env })
        (compPost (model PySem.Challenge.rw_wn0058_01.row.prog w) A E (some (assign (.Name y py) env)) (fun _ s' => Q s') acc cenv.locals) s₄) E s₃) E s₂)) E s := by
  refine range_start (n := 4) F N hr (by decide) fun I h1 F1 N1 hI => ?_
  have hfix : ∀ p ∈ (nl, listOf nmV.toArray e5) :: (aN, oN) :: (aC, oC) :: (cd, od) :: ls, p ∈ news0 := by
    intro p hp
    refine hid ?_; intro KK
    (rcases List.mem_cons.mp hp with rfl | hp) <;> (k_unfold; clear KK)
    · exact m1
    · refine hid ?_; intro KK
      (rcases List.mem_cons.mp hp with rfl | hp) <;> (k_unfold; clear KK)
      · exact m2
      · refine hid ?_; intro KK
        (rcases List.mem_cons.mp hp with rfl | hp) <;> (k_unfold; clear KK)
        · exact m3
        · refine hid ?_; intro KK
          (rcases List.mem_cons.mp hp with rfl | hp) <;> (k_unfold; clear KK)
          · exact m4
          · exact m5 p hp
  generalize hfx : (nl, listOf nmV.toArray e5) :: (aN, oN) :: (aC, oC) :: (cd, od) :: ls = fixed at hfix
  have N1s : News g L h1 ((I, rIter ((0 : Nat) : Int) (((4 : Nat) : Int) - ((0 : Nat) : Int))) :: fixed) := fun p hp => N1 p (by
    refine hid ?_; intro KK
    (rcases List.mem_cons.mp hp with rfl | hp) <;> (k_unfold; clear KK)
    · exact .head _
    · exact .tail _ (hfix p hp))
  refine comp_blockA (s := { s with heap := h1 }) F1 N1s X T hkind hcell hL hy hp (fun ys ep nw => ∃ ts, nw = fixed ++ ts ∧ TupL ts ys (toldTo NC.2 NC.1 4)) ?_ ?_
  · intro g' C D h2 tk2 X' T' hg FC NC' ltD
    have hDI : I < D := ltD _ (.head _)
    have kP' := kP C
    have kM' := kM C
    have kN' := kN C
    have kC' := kC C
    have hcls' := hcls C
    have hDf : ∀ p ∈ fixed, p.1 < D := fun p hp => ltD p (.tail _ hp)
    refine comp_start (target := .Name (Str.ofString "place") a4) (iter := iter) (ifs := []) rfl ?_ (wpAny_pyIter_rangeiter (NC' _ (.tail _ (.head _))).1 ⟨rfl, rfl⟩)
    refine comp_out (iter := iter) (ifs := []) (iter2 := .Name (Str.ofString "names") a6) (iter_range w (Str.ofString "place") a4 I 4) rfl (by rfl) (fun _ => rfl) () (fun i m nw => ∃ ys ep ts, nw = (D, listOf ys.toArray ep) :: (fixed ++ ts) ∧ TupL ts ys (toldTo NC.2 NC.1 i) ∧ (∀ p ∈ ts, p.1 ≠ D ∧ p.1 ≠ nl ∧ p.1 ≠ I) ∧ ys.length ≤ 4 * i)
      hh trivial FC (news := (D, listOf #[] 0) :: (fixed ++ [])) ?_ ?_ ⟨[], 0, [], rfl, trivial, (fun _ h => nomatch h), Nat.le_refl _⟩ ?_ ?_
    · intro p hp
      refine NC' p ?_
      refine hid ?_; intro KK
      (rcases List.mem_cons.mp hp with rfl | hp) <;> (k_unfold; clear KK)
      · exact .tail _ (.head _)
      · refine hid ?_; intro KK
        (rcases List.mem_cons.mp hp with rfl | hp) <;> (k_unfold; clear KK)
        · exact .head _
        · rw [List.append_nil] at hp
          exact .tail _ (.tail _ hp)
    · intro p hp
      rw [List.mem_singleton]
      refine hid ?_; intro KK
      (rcases List.mem_cons.mp hp with rfl | hp) <;> (k_unfold; clear KK)
      · exact Nat.ne_of_gt hDI
      · rw [List.append_nil] at hp
        exact Nat.ne_of_lt (hI p (hfix p hp))
    · rintro i c v ex m₁ news₁ h₂ tk₂ hi zz0 zz1
      refine hid ?_; intro KK
      (rcases zz0 with ⟨hex, tv, rfl⟩) <;> (rcases zz1 with ⟨ys, ep, ts, rfl, hTs, hof, hyl⟩) <;> (k_unfold; clear KK)
      rintro hc₁ F₁ N₁ hdj hn₁
      replace N₁ : News g' C h₂ ((I, rIter ((i + 1 : Nat) : Int) (((4 : Nat) : Int) - ((i + 1 : Nat) : Int))) :: (D, listOf ys.toArray ep) :: (fixed ++ ts)) := by rw [hex] at N₁; exact N₁
      refine hid ?_; intro KK
      (subst hfx) <;> (k_unfold; clear KK)
      repeat' (first | (k_unfold; (try dsimp only)) | walk1)
      unfold Hold
      rename Fr _ C _ _ => F2
      rename News _ C _ _ => N2
      refine list_start F2 N2 (.tail _ (.tail _ (.head _))) fun I2 h3 F3 N3 hI2 => ?_
      have nI : I ≠ nl := fun e => absurd (hI (nl, listOf nmV.toArray e5) m1) (by rw [← e]; exact Nat.lt_irrefl _)
      have nD : D ≠ nl := Nat.ne_of_gt (hDf _ (.head _))
      have hnI : nl ≠ I2 := Nat.ne_of_lt (hI2 _ (.tail _ (.tail _ (.head _))))
      have hlen := hare.length
      refine comp_start (d := 1) (target := .Name (Str.ofString "name") a5) (iter := .Name (Str.ofString "names") a6) (ifs := [.Compare (.Name (Str.ofString "place") a7) [.In] [.Subscript (.Name (Str.ofString "columns") a8) (.Name (Str.ofString "name") a9) a10] a11]) rfl ?_ (wpAny_pyIter_listiter ⟨_, (N3 _ (.head _)).1, rfl, rfl⟩ ⟨rfl, rfl⟩)
      refine comp_last (d := 1) (iter := .Name (Str.ofString "names") a6) (elt := .Tuple [.Name (Str.ofString "place") a1, .Name (Str.ofString "name") a2] 0 a3) (ifs := [.Compare (.Name (Str.ofString "place") a7) [.In] [.Subscript (.Name (Str.ofString "columns") a8) (.Name (Str.ofString "name") a9) a10] a11]) (iter_list w (Str.ofString "name") a5 I2 nl hnI nmV e5) (fun k o p hp => ?_) rfl (by rfl) (liObj nl) ys ep
        (fun j ys' m nw => ∃ ts', nw = (I, rIter ((i + 1 : Nat) : Int) (((4 : Nat) : Int) - ((i + 1 : Nat) : Int))) :: (aN, oN) :: (aC, oC) :: (cd, od) :: (ls ++ ts') ∧ TupL ts' ys' (toldTo NC.2 NC.1 i ++ ((NC.1.take j).filter fun nm => (NC.2 nm).any (· == i)).map fun nm => (i, nm)) ∧ (∀ p ∈ ts', p.1 ≠ D ∧ p.1 ≠ nl ∧ p.1 ≠ I) ∧ m (Str.ofString "place") = some (.int (i : Int) tv) ∧ ys'.length ≤ 4 * i + j ∧ j ≤ 4)
        hh ⟨rfl, rfl⟩ ?_ F3 (news := (I, rIter ((i + 1 : Nat) : Int) (((4 : Nat) : Int) - ((i + 1 : Nat) : Int))) :: (aN, oN) :: (aC, oC) :: (cd, od) :: (ls ++ ts)) ?_ ?_ ⟨ts, rfl, by simpa using hTs, hof, rfl, hyl, by decide⟩ (fun k ys' m nw ⟨_, _, _, _, _, h1, h2⟩ => by omega) ?_ ?_
      · refine hid ?_; intro KK
        (rcases List.mem_cons.mp hp with rfl | hp) <;> (k_unfold; clear KK)
        · exact .head _
        · rw [List.mem_singleton.mp hp]; exact .tail _ (.head _)
      · intro q
        refine hid ?_; intro KK
        (rcases List.mem_cons.mp q with q | q) <;> (k_unfold; clear KK)
        · exact absurd (hI2 _ (.tail _ (.head _))) (by rw [q]; exact Nat.lt_irrefl _)
        · exact nD (List.mem_singleton.mp q)
      · intro p hp
        refine N3 p ?_
        refine hid ?_; intro KK
        (rcases List.mem_cons.mp hp with rfl | hp) <;> (k_unfold; clear KK)
        · exact .head _
        · refine hid ?_; intro KK
          (rcases List.mem_cons.mp hp with rfl | hp) <;> (k_unfold; clear KK)
          · exact .tail _ (.tail _ (.tail _ (.head _)))
          · refine hid ?_; intro KK
            (rcases List.mem_cons.mp hp with rfl | hp) <;> (k_unfold; clear KK)
            · exact .tail _ (.tail _ (.head _))
            · refine hid ?_; intro KK
              (rcases List.mem_cons.mp hp with rfl | hp) <;> (k_unfold; clear KK)
              · exact .tail _ (.head _)
              · exact .tail _ (.tail _ (.tail _ (.tail _ hp)))
      · have hI2' : ∀ p ∈ (I, rIter ((i + 1 : Nat) : Int) (((4 : Nat) : Int) - ((i + 1 : Nat) : Int))) :: (D, listOf ys.toArray ep) :: ((nl, listOf nmV.toArray e5) :: (aN, oN) :: (aC, oC) :: (cd, od) :: ls ++ ts), p.1 ≠ I2 := fun p hp => Nat.ne_of_lt (hI2 p hp)
        intro p hp q
        have hx : p.1 ≠ D ∧ p.1 ≠ I2 ∧ p.1 ≠ nl := by
          refine hid ?_; intro KK
          (rcases List.mem_cons.mp hp with rfl | hp) <;> (k_unfold; clear KK)
          · exact ⟨Nat.ne_of_lt hDI, hI2' _ (.head _), nI⟩
          · have hp2 : p ∈ (nl, listOf nmV.toArray e5) :: (aN, oN) :: (aC, oC) :: (cd, od) :: ls ++ ts := .tail _ hp
            refine hid ?_; intro KK
            (rcases List.mem_append.mp (show p ∈ ((aN, oN) :: (aC, oC) :: (cd, od) :: ls) ++ ts from hp) with h | h) <;> (k_unfold; clear KK)
            · exact ⟨Nat.ne_of_lt (hDf p (.tail _ h)), hI2' p (.tail _ (.tail _ hp2)), hne p h⟩
            · exact ⟨(hof p h).1, hI2' p (.tail _ (.tail _ hp2)), (hof p h).2.1⟩
        simp only [List.mem_cons, List.not_mem_nil, or_false] at q
        exact q.elim hx.1 fun q => q.elim hx.2.1 hx.2.2
      · rintro j o v ex ys' e' m₁ news₁ h₄ tk₄ hj zz0 zz1
        refine hid ?_; intro KK
        (rcases zz0 with ⟨hex, hv⟩) <;> (rcases zz1 with ⟨ts', rfl, hTs', hof', hmp, hyl', hj4⟩) <;> (k_unfold; clear KK)
        rintro ho F₁ N₁ hdj hn₁
        replace N₁ : News g' C h₄ ((I2, o) :: (nl, listOf nmV.toArray e5) :: (D, listOf ys'.toArray e') :: (I, rIter ((i + 1 : Nat) : Int) (((4 : Nat) : Int) - ((i + 1 : Nat) : Int))) :: (aN, oN) :: (aC, oC) :: (cd, od) :: (ls ++ ts')) := by rw [hex] at N₁; exact N₁
        have F₂ := Fr.know F₁ [(Str.ofString "place", .int (i : Int) tv)] (by first | exact kn_cons hmp (kn_nil) | simp [hmp])
        refine hid ?_; intro KK
        (obtain ⟨v', nm, hv', hnm, hok, tnm, rfl⟩ := hare.get (i := j) (by omega)) <;> (k_unfold; clear KK)
        rw [hv'] at hv
        cases hv
        clear F₁ F3 N3 F2 N2
        repeat' (first | (k_unfold; (try dsimp only)) | walk1)
        unfold Hold
        have hck := hcols nm
        obtain ⟨la, vsl, el, hvl, hlm, hla⟩ : ∃ la vs e, valueAt kvs nm = some (.ref la) ∧ (la, listOf vs.toArray e) ∈ ls ∧ Are (natKd w).is vs (NC.2 nm) := by
          cases hv : valueAt kvs nm with
          | none => rw [hv] at hck; exact absurd hck (hcne nm (List.mem_of_getElem? hnm))
          | some v =>
            rw [hv] at hck
            refine hid ?_; intro KK
            (obtain ⟨la, vs, e, rfl, h1, h2⟩ := hck) <;> (k_unfold; clear KK)
            exact ⟨la, vs, e, rfl, h1, h2⟩
        rename Fr _ C _ _ => F4
        rename News _ C _ _ => N4
        refine kda_item N4 (.tail _ (.tail _ (.tail _ (.tail _ (.tail _ (.tail _ (.head _))))))) hdd (strKind_is _ _ _ _) hvl ?_
        repeat' (first | (k_unfold; (try dsimp only)) | walk1)
        unfold Hold
        refine in_list_ints (News.isList N4 (.tail _ (.tail _ (.tail _ (.tail _ (.tail _ (.tail _ (.tail _ (List.mem_append_left _ hlm))))))))) (are_ints hla) ?_
        rw [any_cast]
        have htk : NC.1.take (j + 1) = NC.1.take j ++ [nm] := by rw [List.take_add_one, hnm]; rfl
        cases hb : (NC.2 nm).any (· == i) with
        | true =>
          repeat' (first | (k_unfold; (try dsimp only)) | walk1)
          rename Fr _ C _ _ => F5
          rename News _ C _ _ => N5
          rename _ < _ ∧ _ => lT
          rename_i T hT
          have hTn : T ≠ D ∧ T ≠ nl ∧ T ≠ I ∧ T ≠ I2 := by
            refine hid ?_; intro KK
            (obtain ⟨b1, b2, b3, b4, _⟩ := lT) <;> (k_unfold; clear KK)
            exact ⟨Nat.ne_of_gt b3, Nat.ne_of_gt b2, Nat.ne_of_gt b4, Nat.ne_of_gt b1⟩
          refine ⟨_, _, _, (I, rIter ((i + 1 : Nat) : Int) (((4 : Nat) : Int) - ((i + 1 : Nat) : Int))) :: (aN, oN) :: (aC, oC) :: (cd, od) :: (ls ++ ((T, pnObj i nm tv tnm) :: ts')), rfl, F5, ?_, ?_, (T, pnObj i nm tv tnm) :: ts', rfl, ?_, ?_, rfl, ?_, by omega⟩
          · intro p hp
            refine N5 p ?_
            refine hid ?_; intro KK
            (rcases List.mem_cons.mp hp with rfl | hp) <;> (k_unfold; clear KK)
            · exact .tail _ (.head _)
            · refine hid ?_; intro KK
              (rcases List.mem_cons.mp hp with rfl | hp) <;> (k_unfold; clear KK)
              · exact .tail _ (.tail _ (.head _))
              · refine hid ?_; intro KK
                (rcases List.mem_cons.mp hp with rfl | hp) <;> (k_unfold; clear KK)
                · exact .tail _ (.tail _ (.tail _ (.head _)))
                · refine hid ?_; intro KK
                  (rcases List.mem_cons.mp hp with rfl | hp) <;> (k_unfold; clear KK)
                  · exact .tail _ (.tail _ (.tail _ (.tail _ (.head _))))
                  · refine hid ?_; intro KK
                    (rcases List.mem_cons.mp hp with rfl | hp) <;> (k_unfold; clear KK)
                    · exact .tail _ (.tail _ (.tail _ (.tail _ (.tail _ (.head _)))))
                    · refine hid ?_; intro KK
                      (rcases List.mem_cons.mp hp with rfl | hp) <;> (k_unfold; clear KK)
                      · exact .tail _ (.tail _ (.tail _ (.tail _ (.tail _ (.tail _ (.head _))))))
                      · refine hid ?_; intro KK
                        (rcases List.mem_cons.mp hp with rfl | hp) <;> (k_unfold; clear KK)
                        · exact .tail _ (.tail _ (.tail _ (.tail _ (.tail _ (.tail _ (.tail _ (.head _)))))))
                        · refine hid ?_; intro KK
                          (rcases List.mem_append.mp hp with hp | hp) <;> (k_unfold; clear KK)
                          · exact .tail _ (.tail _ (.tail _ (.tail _ (.tail _ (.tail _ (.tail _ (.tail _ (List.mem_append_left _ hp))))))))
                          · refine hid ?_; intro KK
                            (rcases List.mem_cons.mp hp with rfl | hp) <;> (k_unfold; clear KK)
                            · exact .head _
                            · exact .tail _ (.tail _ (.tail _ (.tail _ (.tail _ (.tail _ (.tail _ (.tail _ (List.mem_append_right _ hp))))))))
          · intro p hp
            have old : ∀ q ∈ (I, rIter ((i + 1 : Nat) : Int) (((4 : Nat) : Int) - ((i + 1 : Nat) : Int))) :: (aN, oN) :: (aC, oC) :: (cd, od) :: (ls ++ ts'), q.1 ∉ [D, I2, nl] := hn₁
            refine hid ?_; intro KK
            (rcases List.mem_cons.mp hp with rfl | hp) <;> (k_unfold; clear KK)
            · exact old _ (.head _)
            · refine hid ?_; intro KK
              (rcases List.mem_cons.mp hp with rfl | hp) <;> (k_unfold; clear KK)
              · exact old _ (.tail _ (.head _))
              · refine hid ?_; intro KK
                (rcases List.mem_cons.mp hp with rfl | hp) <;> (k_unfold; clear KK)
                · exact old _ (.tail _ (.tail _ (.head _)))
                · refine hid ?_; intro KK
                  (rcases List.mem_cons.mp hp with rfl | hp) <;> (k_unfold; clear KK)
                  · exact old _ (.tail _ (.tail _ (.tail _ (.head _))))
                  · refine hid ?_; intro KK
                    (rcases List.mem_append.mp hp with hp | hp) <;> (k_unfold; clear KK)
                    · exact old p (.tail _ (.tail _ (.tail _ (.tail _ (List.mem_append_left _ hp)))))
                    · refine hid ?_; intro KK
                      (rcases List.mem_cons.mp hp with rfl | hp) <;> (k_unfold; clear KK)
                      · intro q
                        simp only [List.mem_cons, List.not_mem_nil, or_false] at q
                        exact q.elim hTn.1 fun q => q.elim hTn.2.2.2 hTn.2.1
                      · exact old p (.tail _ (.tail _ (.tail _ (.tail _ (List.mem_append_right _ hp)))))
          · rw [htk, List.filter_append, List.filter_cons_of_pos (by simpa using hb), List.filter_nil, List.map_append, ← List.append_assoc]
            exact (TupL.mono (fun p hp => .tail _ hp) hTs').append ⟨⟨hok, T, tv, tnm, rfl, .head _⟩, trivial⟩
          · intro p hp
            refine hid ?_; intro KK
            (rcases List.mem_cons.mp hp with rfl | hp) <;> (k_unfold; clear KK)
            · exact ⟨hTn.1, hTn.2.1, hTn.2.2.1⟩
            · exact hof' p hp
          · rw [List.length_append, List.length_singleton]; omega
        | false =>
          repeat' (first | (k_unfold; (try dsimp only)) | walk1)
          refine ⟨_, _, _, _, rfl, F4, N4, hn₁, ts', rfl, ?_, hof', rfl, by omega, by omega⟩
          rw [htk, List.filter_append, List.filter_cons_of_neg (by rw [hb]; exact Bool.false_ne_true), List.filter_nil, List.append_nil]
          exact hTs'
      · rintro ys' e' m₁ news₁ h₄ tk₄ zz0
        refine hid ?_; intro KK
        (rcases zz0 with ⟨ts', rfl, hTs', hof', hmp, hyl', hj4⟩) <;> (k_unfold; clear KK)
        rintro F₁ N₁ hn₁
        rw [List.take_of_length_le (by omega)] at hTs'
        refine ⟨h₄, tk₄, m₁, (D, listOf ys'.toArray e') :: ((nl, listOf nmV.toArray e5) :: (aN, oN) :: (aC, oC) :: (cd, od) :: ls ++ ts'), rfl, F₁, fun p hp => N₁ p ?_, ?_, ys', e', ts', rfl, hTs', hof', by omega⟩
        · refine hid ?_; intro KK
          (rcases List.mem_cons.mp hp with rfl | hp) <;> (k_unfold; clear KK)
          · exact .tail _ (.tail _ (.head _))
          · refine hid ?_; intro KK
            (rcases List.mem_cons.mp hp with rfl | hp) <;> (k_unfold; clear KK)
            · exact .tail _ (.head _)
            · refine hid ?_; intro KK
              (rcases List.mem_cons.mp hp with rfl | hp) <;> (k_unfold; clear KK)
              · exact .head _
              · exact .tail _ (.tail _ (.tail _ hp))
        · intro p hp
          rw [List.mem_singleton]
          refine hid ?_; intro KK
          (rcases List.mem_cons.mp hp with rfl | hp) <;> (k_unfold; clear KK)
          · exact Nat.ne_of_gt hDI
          · refine hid ?_; intro KK
            (rcases List.mem_append.mp hp with h | h) <;> (k_unfold; clear KK)
            · exact Nat.ne_of_lt (hI p (hfix p h))
            · exact (hof' p h).2.2
    · rintro m₁ news₁ h₂ tk₂ zz0
      refine hid ?_; intro KK
      (rcases zz0 with ⟨ys, ep, ts, rfl, hTs, hof, hyl⟩) <;> (k_unfold; clear KK)
      rintro F₁ N₁ hn₁
      refine ⟨rfl, ys.toArray, ep, m₁, fixed ++ ts, h₂, tk₂, rfl, F₁, N₁, ts, rfl, ?_⟩
      simpa using hTs
  · rintro D ys ep nw h' tk' zz0
    refine hid ?_; intro KK
    (rcases zz0 with ⟨ts, rfl, hTs⟩) <;> (k_unfold; clear KK)
    rintro F2 N2 hk hD
    have N0 : News g L h1 news0 := fun p hp => N1 p (.tail _ hp)
    have N3 := comp_backN (Le := []) (lk0 := [(I, rIter ((0 : Nat) : Int) (((4 : Nat) : Int) - ((0 : Nat) : Int)))]) (keepL := fixed) (s := { s with heap := h1 }) (D := D) (ys := ys) (e := ep) N0 N1s (fun p hp q => absurd (hI p hp) (by rw [List.mem_singleton.mp q]; exact Nat.lt_irrefl _)) (fun p hp => N2 p (by
      refine hid ?_; intro KK
      (rcases List.mem_cons.mp hp with rfl | hp) <;> (k_unfold; clear KK)
      · exact .head _
      · exact .tail _ (List.mem_append_left _ hp))) hk
    refine done D ys ep ts h' tk' hTs F2 (fun p hp => ?_) fun p hp => Nat.lt_of_lt_of_le (Heap.lt_size (N1 p (.tail _ hp)).1) hD
    refine hid ?_; intro KK
    (rcases List.mem_cons.mp hp with rfl | hp) <;> (k_unfold; clear KK)
    · exact N2 _ (.head _)
    · refine hid ?_; intro KK
      (rcases List.mem_append.mp hp with hp | hp) <;> (k_unfold; clear KK)
      · exact N2 p (.tail _ (List.mem_append_right _ hp))
      · exact N3 p (.tail _ hp)
end
example : True := by w_top off; exact trivial
section
local macro_rules | `(tactic| walk_at "idle line") => `(tactic| fail)
theorem srt_len {h S : Nat} (hh : h < 11) : (srt h S).length ≤ 4 := by
  rw [srt, List.length_map, (srtJ_perm hh S).length_eq]
  exact Nat.le_trans (List.length_filter_le ..) (by decide)
noncomputable def seenTo (h : Nat) (Ss : List Nat) : Nat → List (Nat × Str)
  | 0 => []
  | i + 1 => seenTo h Ss i ++ (srt h (Ss.getD i 0)).map fun nm => (i, nm)
section
variable {w : World} {A : Around} {env : Env} {scope : Scope} {cl : List (Str × Addr)} {iter : Expr} {pos a1 a2 a3 a4 a5 a6 a7 a8 : Pos} {s : Shared} {g : Heap} {L : Addr} {m : Str → Option Value} {news0 : List (Addr × Obj)}
  {mean : ExcName → Option Value} {mg mb : Str → Option Value} {e it lr : Addr} {o : Obj} {rv : List Value} {er sh : Nat} {Ss : List Nat}
local macro_rules | `(tactic| walk_at "eval Name") => `(tactic| (k_here; (with_reducible show wpAny _ _ (eval _ (compEnvC _ _ _ _)) _ _ _); k_dflt (first
  | (refine' nameZ_L ?F ?v ?_ ?l ?a ?b ?d; (case F => k_asm); (case l => rfl); (case v => rfl); (case a => assumption); (case b => assumption); (case d => decide))
  | (refine' nameZ_K ?F ?X ?T ?e ?_ ?g ?a ?b ?d; (case F => k_asm); (case X => k_asm); (case T => k_asm); (case g => assumption); (case a => assumption); (case b => assumption); (case e => k_is); (case d => decide))
  | (refine' nameZ_B ?F ?X ?T ?e ?v ?n ?_ ?g ?h ?a ?b ?d; (case F => k_asm); (case X => k_asm); (case T => k_asm); (case g => assumption); (case h => assumption); (case a => assumption); (case b => assumption); (case e => k_is); (case v => boot_fast); (case n => decide); (case d => decide)))))
local macro_rules | `(tactic| walk_at "storeName") => `(tactic| (k_here; (with_reducible show wpAny _ _ (storeName (compEnvC _ _ _ _) _ _) _ _ _); k_dflt (refine' storeZ_L ?F ?N ?_ ?l ?a ?b; (case F => k_asm); (case N => k_asm); (case l => rfl); (case a => assumption); (case b => assumption)); intro h' F' N'; (try k_sweep)))
local macro_rules | `(tactic| walk_at $s:str) => if ["pyIter ref", "call builtin:str.split", "call builtin:sorted"].contains s.getString then `(tactic| (refine hold_of ?_)) else Lean.Macro.throwUnsupported
theorem told2 (F : Fr g L s.heap m) (N : News g L s.heap ((e, enumObj it 0 .none) :: (it, o) :: news0)) (ho : o.cls = .type "list_iterator" ∧ o.data = .fields #[.ref lr, .int 0 0]) (hie : it ≠ e) (hne0 : ∀ p ∈ news0, p.1 ≠ e ∧ p.1 ≠ it)
    (mR : (lr, listOf rv.toArray er) ∈ news0) (hrv : Are (natKd w).is rv (Ss.map (· * 2 ^ sh))) (hS16 : ∀ i, Ss.getD i 0 < 16) (h4 : Ss.length = 4) (hsh : sh < 11) (X : (hd.heap_1 w.params).In g) (T : Top topProg loose mean mg mb g) (hh : A.handled = none)
    (hdep : A.depth + 3 < recursionLimit) (hun : A.units + 8 * 20 < cLine) (hkind : scope.kind = .function) (hcell : ∀ y ∈ scope.names, y.2 ≠ .cell) (hglo : env.globals = mainGlobals) (hbui : env.builtins = builtinsNs)
    (hkf : (relabel scope env).kind = .function) (kP : ∀ C, (compEnvC scope cl C env).kindOf (Str.ofString "place") = some .local) (kM : ∀ C, (compEnvC scope cl C env).kindOf (Str.ofString "name") = some .local) (kR : ∀ C, (compEnvC scope cl C env).kindOf (Str.ofString "row") = some .local)
    (kS : ∀ C, (compEnvC scope cl C env).kindOf (Str.ofString "sorted") = some .globalImplicit) (kF : ∀ C, (compEnvC scope cl C env).kindOf (Str.ofString "pretty_flags") = some .globalImplicit)
    (hcls : ∀ C, ((compEnvC scope cl C env).scope.kind == .class || ((compEnvC scope cl C env).scope.kind == .module && (compEnvC scope cl C env).locals != (compEnvC scope cl C env).globals)) = false)
    {E : Value → Shared → Prop} {Q : Value → Shared → Prop}
    (done : ∀ D ys ep ts h' tk', TupL ts ys (seenTo sh Ss 4) → Fr g L h' m → News g L h' ((D, listOf ys.toArray ep) :: (ts ++ news0)) → (∀ p ∈ news0, p.1 < D) → Q (.ref D) { s with heap := h', toks := tk' }) :
    wpAny (model PySem.Challenge.rw_wn0058_01.row.prog w) A (pyIter (.ref e)) (fun it s₂ => Hold (wpAny (model PySem.Challenge.rw_wn0058_01.row.prog w) A (newList []) (fun acc s₃ => wpAny (model PySem.Challenge.rw_wn0058_01.row.prog w) A (newFunctionEnv scope env.globals cl [] env.qual none .none (some env)) (fun cenv s₄ =>
      codeAny (model PySem.Challenge.rw_wn0058_01.row.prog w) A (.compStart (.ListComp (.Tuple [.Name (Str.ofString "place") a1, .Name (Str.ofString "name") a2] 0 a3) [⟨.Tuple [.Name (Str.ofString "place") a4, .Name (Str.ofString "row") a5] 0 a6, iter, [.Name (Str.ofString "row") a7], 0⟩, ⟨.Name (Str.ofString "name") a8, .Call (.Name (Str.ofString "sorted") ⟨161, 83, 161, 89⟩) [.Call (.Attribute (.Call (.Name (Str.ofString "pretty_flags") ⟨161, 90, 161, 102⟩) [.Name (Str.ofString "row") ⟨161, 103, 161, 106⟩] [] ⟨161, 90, 161, 107⟩) (Str.ofString "split") ⟨161, 90, 161, 113⟩) [.Constant (.str (Str.ofString ", ")) 0 ⟨161, 114, 161, 118⟩] [] ⟨161, 90, 161, 119⟩] [] ⟨161, 83, 161, 120⟩, [], 0⟩] scope pos) 0 it acc { cenv with scope := relabel scope env })
        (compPost (model PySem.Challenge.rw_wn0058_01.row.prog w) A E none Q acc cenv.locals) s₄) E s₃) E s₂)) E s := by
  have hle : lr ≠ e := (hne0 _ mR).1
  have hli : lr ≠ it := (hne0 _ mR).2
  have N1s : News g L s.heap [(e, enumObj it 0 .none), (it, o), (lr, listOf rv.toArray er)] := fun p hp => N p (by
    refine hid ?_; intro KK
    (rcases List.mem_cons.mp hp with rfl | hp) <;> (k_unfold; clear KK)
    · exact .head _
    · refine hid ?_; intro KK
      (rcases List.mem_cons.mp hp with rfl | hp) <;> (k_unfold; clear KK)
      · exact .tail _ (.head _)
      · rw [List.mem_singleton.mp hp]; exact .tail _ (.tail _ mR))
  refine wpAny_pyIter_enum (N _ (.head _)).1 ?_
  unfold Hold
  refine comp_blockE F N1s X T hkind hcell (fun ys ep nw => ∃ ts, nw = (lr, listOf rv.toArray er) :: ts ∧ TupL ts ys (seenTo sh Ss 4)) ?_ ?_
  · intro g' C D h2 tk2 X' T' hg FC NC' ltD
    have kP' := kP C
    have kM' := kM C
    have kR' := kR C
    have kS' := kS C
    have kF' := kF C
    have hcls' := hcls C
    have hDe : e < D := ltD _ (.head _)
    have hDi : it < D := ltD _ (.tail _ (.head _))
    have hDl : lr < D := ltD _ (.tail _ (.tail _ (.head _)))
    refine comp_start (target := .Tuple [.Name (Str.ofString "place") a4, .Name (Str.ofString "row") a5] 0 a6) (iter := iter) (ifs := [.Name (Str.ofString "row") a7]) rfl ?_ (wpAny_pyIter_enum (NC' _ (.tail _ (.head _))).1 ⟨rfl, rfl⟩)
    refine comp_out (iter := iter) (ifs := [.Name (Str.ofString "row") a7]) (iter2 := .Call (.Name (Str.ofString "sorted") ⟨161, 83, 161, 89⟩) [.Call (.Attribute (.Call (.Name (Str.ofString "pretty_flags") ⟨161, 90, 161, 102⟩) [.Name (Str.ofString "row") ⟨161, 103, 161, 106⟩] [] ⟨161, 90, 161, 107⟩) (Str.ofString "split") ⟨161, 90, 161, 113⟩) [.Constant (.str (Str.ofString ", ")) 0 ⟨161, 114, 161, 118⟩] [] ⟨161, 90, 161, 119⟩] [] ⟨161, 83, 161, 120⟩) (iter_enum w _ _ _ e it lr hie hle hli rv er) rfl (by rfl) (fun _ => rfl) (o, Value.none) (fun i m nw => ∃ ys ep ts, nw = (D, listOf ys.toArray ep) :: ts ∧ TupL ts ys (seenTo sh Ss i) ∧ (∀ p ∈ ts, p.1 ≠ D ∧ p.1 ∉ [e, it, lr]) ∧ ys.length ≤ 4 * i)
      hh ho FC (news := [(D, listOf #[] 0)]) ?_ ?_ ⟨[], 0, [], rfl, trivial, (fun _ h => nomatch h), Nat.le_refl _⟩ ?_ ?_
    · intro p hp
      refine NC' p ?_
      simp only [List.cons_append, List.nil_append, List.mem_cons, List.not_mem_nil, or_false] at hp
      refine hid ?_; intro KK
      (rcases hp with rfl | rfl | rfl | rfl) <;> (k_unfold; clear KK)
      · exact .tail _ (.head _)
      · exact .tail _ (.tail _ (.head _))
      · exact .tail _ (.tail _ (.tail _ (.head _)))
      · exact .head _
    · intro p hp q
      rw [List.mem_singleton.mp hp] at q
      simp only [List.mem_cons, List.not_mem_nil, or_false] at q
      exact q.elim (Nat.ne_of_gt hDe) fun q => q.elim (Nat.ne_of_gt hDi) (Nat.ne_of_gt hDl)
    · rintro i c v ex m₁ news₁ h₂ tk₂ hi zz0 zz1
      refine hid ?_; intro KK
      (rcases zz0 with ⟨TT, tt, xv, rfl, hxv, hex⟩) <;> (rcases zz1 with ⟨ys, ep, ts, rfl, hTs, hof, hyl⟩) <;> (k_unfold; clear KK)
      rintro hc₁ F₁ N₁ hdj hn₁
      replace N₁ : News g' C h₂ ((TT, { cls := .type "tuple", data := .seq #[.int i tt, xv] }) :: (e, enumObj it ((i + 1 : Nat) : Int) c.2) :: (it, c.1) :: (lr, listOf rv.toArray er) :: (D, listOf ys.toArray ep) :: ts) := by rw [hex] at N₁; exact N₁
      have hlen := hrv.length
      rw [List.length_map, h4] at hlen
      refine hid ?_; intro KK
      (obtain ⟨v', u, hv', hu, tu, rfl⟩ := hrv.get (i := i) (by rw [List.length_map]; omega)) <;> (k_unfold; clear KK)
      rw [hv'] at hxv
      cases hxv
      have hu2 : u = Ss.getD i 0 * 2 ^ sh := by
        rw [List.getElem?_map] at hu
        cases hq : Ss[i]? with
        | none => rw [hq] at hu; cases hu
        | some q => rw [hq] at hu; cases hu; rw [List.getD_eq_getElem?_getD, hq]; rfl
      refine hid ?_; intro KK
      (obtain ⟨S, hSd⟩ : ∃ S, Ss.getD i 0 = S := ⟨_, rfl⟩) <;> (k_unfold; clear KK)
      have hSt : seenTo sh Ss (i + 1) = seenTo sh Ss i ++ (srt sh S).map fun nm => (i, nm) := by rw [seenTo, hSd]
      have hS6 := hS16 i
      rw [hSd] at hu2 hS6
      repeat' (first | (k_unfold; (try dsimp only)) | walk1)
      · rename (_ : Int) ≠ 0 => hb
        have hS0 : S ≠ 0 := by rintro rfl; rw [hu2, Nat.zero_mul] at hb; exact hb rfl
        have hfam : Fam sh u := ⟨S, hS6, hu2⟩
        refine hid ?_; intro KK
        (obtain ⟨_, _, _, _, hpok, hpl⟩ := hfam.ok hsh) <;> (k_unfold; clear KK)
        have hspl : Txt.split (pflags u) (Str.ofString ", ") = nms sh S := by rw [hu2, spl_ok sh hsh S hS6]; exact if_neg hS0
        repeat' (first | (k_unfold; (try dsimp only)) | walk1)
        unfold Hold
        rename Fr _ C _ _ => F2
        rename News _ C _ _ => N2
        refine use (flagsC w u _ (hfam.lt hsh)) F2 X' T' N2 hh (fun _ h => nomatch h) (fun p hp => ⟨hp, fun h => nomatch h⟩) trivial hdep hun ?_
        rintro r led' h3 tk3 zz0
        refine hid ?_; intro KK
        (rcases zz0 with ⟨rfl, tw, rfl⟩) <;> (k_unfold; clear KK)
        rintro F3 N3 -
        rw [List.nil_append] at N3
        clear F2 N2
        repeat' (first | (k_unfold; (try dsimp only)) | walk1)
        unfold Hold
        rename Fr _ C _ _ => F4
        rename News _ C _ _ => N4
        refine KSpl.split1 F4 N4 (by decide +kernel) (fun D7 ll h5 tk5 hll hlv F5 N5 hlt5 => ?_) (Nat.le_trans (Nat.add_le_add_right hpl 2) (Nat.le_of_ble_eq_true rfl))
        clear F4 N4 hlt5
        have hlll : (strValues ll).length ≤ 4 := by
          have h1 := hlv.length
          rw [hll, hspl] at h1
          have h2 := (nms0_len (h := sh) hS6).1
          rw [nms0, if_neg hS0] at h2
          omega
        repeat' (first | (k_unfold; (try dsimp only)) | walk1)
        unfold Hold
        rename Fr _ C _ _ => F6
        rename News _ C _ _ => N6
        refine sorted_N_str F6 N6 (News.isList N6 (.head _)) hlv (by omega) fun h7 vs9 ss9 e9 F7 N7 hS9 hp9 hs9 => ?_
        rw [hll, hspl] at hp9
        have hss := sortedS_is hsh hp9 hs9
        refine hid ?_; intro KK
        (subst hss) <;> (k_unfold; clear KK)
        have hltq : ∀ p ∈ (TT, ({ cls := .type "tuple", data := .seq #[.int i tt, .int (u : Int) tu] } : Obj)) :: (e, enumObj it ((i + 1 : Nat) : Int) c.2) :: (it, c.1) :: (lr, listOf rv.toArray er) :: (D, listOf ys.toArray ep) :: ts, p.1 < h5.objs.size + 1 := fun p hp => Nat.lt_succ_of_lt (Heap.lt_size (N6 p (.tail _ hp)).1)
        clear F6 N6
        dsimp only at N7 hltq
        generalize hDq : h5.objs.size + 1 = Dq at N7 hltq ⊢
        have N8 : News g' C h7 ((Dq, listOf vs9.toArray e9) :: (TT, { cls := .type "tuple", data := .seq #[.int i tt, .int (u : Int) tu] }) :: (e, enumObj it ((i + 1 : Nat) : Int) c.2) :: (it, c.1) :: (lr, listOf rv.toArray er) :: (D, listOf ys.toArray ep) :: ts) := fun p hp => N7 p (by
          refine hid ?_; intro KK
          (rcases List.mem_cons.mp hp with rfl | hp) <;> (k_unfold; clear KK)
          · exact .head _
          · exact .tail _ (.tail _ hp))
        have hl9 := hS9.length
        have hs4 := srt_len hsh (S := S)
        have hare := strs_are (w := w) hS9 (srt_ok hsh)
        clear N7
        repeat' (first | (k_unfold; (try dsimp only)) | walk1)
        unfold Hold
        refine list_start F7 N8 (.head _) fun I2 h8 F8 N9 hI2 => ?_
        have nE : Dq ≠ e := Nat.ne_of_gt (hltq _ (.tail _ (.head _)))
        have nI : Dq ≠ it := Nat.ne_of_gt (hltq _ (.tail _ (.tail _ (.head _))))
        have nL : Dq ≠ lr := Nat.ne_of_gt (hltq _ (.tail _ (.tail _ (.tail _ (.head _)))))
        have nD : Dq ≠ D := Nat.ne_of_gt (hltq _ (.tail _ (.tail _ (.tail _ (.tail _ (.head _))))))
        have nQ : Dq ≠ I2 := Nat.ne_of_lt (hI2 _ (.head _))
        refine comp_start (d := 1) (target := .Name (Str.ofString "name") a8) (iter := .Call (.Name (Str.ofString "sorted") ⟨161, 83, 161, 89⟩) [.Call (.Attribute (.Call (.Name (Str.ofString "pretty_flags") ⟨161, 90, 161, 102⟩) [.Name (Str.ofString "row") ⟨161, 103, 161, 106⟩] [] ⟨161, 90, 161, 107⟩) (Str.ofString "split") ⟨161, 90, 161, 113⟩) [.Constant (.str (Str.ofString ", ")) 0 ⟨161, 114, 161, 118⟩] [] ⟨161, 90, 161, 119⟩] [] ⟨161, 83, 161, 120⟩) (ifs := []) rfl ?_ (wpAny_pyIter_listiter ⟨_, (N9 _ (.head _)).1, rfl, rfl⟩ ⟨rfl, rfl⟩)
        refine comp_last (d := 1) (iter := .Call (.Name (Str.ofString "sorted") ⟨161, 83, 161, 89⟩) [.Call (.Attribute (.Call (.Name (Str.ofString "pretty_flags") ⟨161, 90, 161, 102⟩) [.Name (Str.ofString "row") ⟨161, 103, 161, 106⟩] [] ⟨161, 90, 161, 107⟩) (Str.ofString "split") ⟨161, 90, 161, 113⟩) [.Constant (.str (Str.ofString ", ")) 0 ⟨161, 114, 161, 118⟩] [] ⟨161, 90, 161, 119⟩] [] ⟨161, 83, 161, 120⟩) (elt := .Tuple [.Name (Str.ofString "place") a1, .Name (Str.ofString "name") a2] 0 a3) (ifs := []) (iter_list w (Str.ofString "name") a8 I2 Dq nQ vs9 e9) (fun k o p hp => ?_) rfl (by rfl) (liObj Dq) ys ep
          (fun j ys' m nw => ∃ ts', nw = (e, enumObj it ((i + 1 : Nat) : Int) c.2) :: (it, c.1) :: (lr, listOf rv.toArray er) :: ts' ∧ TupL ts' ys' (seenTo sh Ss i ++ ((srt sh S).take j).map fun nm => (i, nm)) ∧ (∀ p ∈ ts', p.1 ≠ D ∧ p.1 ∉ [e, it, lr]) ∧ m (Str.ofString "place") = some (.int (i : Int) tt) ∧ ys'.length ≤ 4 * i + j ∧ j ≤ 4)
          hh ⟨rfl, rfl⟩ ?_ F8 (news := (e, enumObj it ((i + 1 : Nat) : Int) c.2) :: (it, c.1) :: (lr, listOf rv.toArray er) :: ts) ?_ ?_ ⟨ts, rfl, by simpa using hTs, hof, rfl, hyl, by decide⟩ (fun k ys' m nw ⟨_, _, _, _, _, h1, h2⟩ => by omega) ?_ ?_
        · refine hid ?_; intro KK
          (rcases List.mem_cons.mp hp with rfl | hp) <;> (k_unfold; clear KK)
          · exact .head _
          · rw [List.mem_singleton.mp hp]; exact .tail _ (.head _)
        · intro q
          refine hid ?_; intro KK
          (rcases List.mem_cons.mp q with q | q) <;> (k_unfold; clear KK)
          · exact absurd (hI2 _ (.tail _ (.tail _ (.tail _ (.tail _ (.tail _ (.head _))))))) (by rw [q]; exact Nat.lt_irrefl _)
          · exact nD (List.mem_singleton.mp q).symm
        · intro p hp
          refine N9 p ?_
          refine hid ?_; intro KK
          (rcases List.mem_cons.mp hp with rfl | hp) <;> (k_unfold; clear KK)
          · exact .head _
          · refine hid ?_; intro KK
            (rcases List.mem_cons.mp hp with rfl | hp) <;> (k_unfold; clear KK)
            · exact .tail _ (.head _)
            · refine hid ?_; intro KK
              (rcases List.mem_cons.mp hp with rfl | hp) <;> (k_unfold; clear KK)
              · exact .tail _ (.tail _ (.tail _ (.tail _ (.tail _ (.tail _ (.head _))))))
              · refine hid ?_; intro KK
                (rcases List.mem_cons.mp hp with rfl | hp) <;> (k_unfold; clear KK)
                · exact .tail _ (.tail _ (.tail _ (.head _)))
                · refine hid ?_; intro KK
                  (rcases List.mem_cons.mp hp with rfl | hp) <;> (k_unfold; clear KK)
                  · exact .tail _ (.tail _ (.tail _ (.tail _ (.head _))))
                  · refine hid ?_; intro KK
                    (rcases List.mem_cons.mp hp with rfl | hp) <;> (k_unfold; clear KK)
                    · exact .tail _ (.tail _ (.tail _ (.tail _ (.tail _ (.head _)))))
                    · exact .tail _ (.tail _ (.tail _ (.tail _ (.tail _ (.tail _ (.tail _ hp))))))
        · intro p hp q
          have hx : p.1 ≠ D ∧ p.1 ≠ I2 ∧ p.1 ≠ Dq := by
            refine hid ?_; intro KK
            (rcases List.mem_cons.mp hp with rfl | hp) <;> (k_unfold; clear KK)
            · exact ⟨Nat.ne_of_lt hDe, Nat.ne_of_lt (hI2 _ (.tail _ (.tail _ (.head _)))), Ne.symm nE⟩
            · refine hid ?_; intro KK
              (rcases List.mem_cons.mp hp with rfl | hp) <;> (k_unfold; clear KK)
              · exact ⟨Nat.ne_of_lt hDi, Nat.ne_of_lt (hI2 _ (.tail _ (.tail _ (.tail _ (.head _))))), Ne.symm nI⟩
              · refine hid ?_; intro KK
                (rcases List.mem_cons.mp hp with rfl | hp) <;> (k_unfold; clear KK)
                · exact ⟨Nat.ne_of_lt hDl, Nat.ne_of_lt (hI2 _ (.tail _ (.tail _ (.tail _ (.tail _ (.head _)))))), Ne.symm nL⟩
                · exact ⟨(hof p hp).1, Nat.ne_of_lt (hI2 _ (.tail _ (.tail _ (.tail _ (.tail _ (.tail _ (.tail _ hp))))))), Nat.ne_of_lt (hltq _ (.tail _ (.tail _ (.tail _ (.tail _ (.tail _ hp))))))⟩
          simp only [List.mem_cons, List.not_mem_nil, or_false] at q
          exact q.elim hx.1 fun q => q.elim hx.2.1 hx.2.2
        · rintro j o9 v ex9 ys' e' m₂ news₂ h₄ tk₄ hj zz0 zz1
          refine hid ?_; intro KK
          (rcases zz0 with ⟨hex9, hv9⟩) <;> (rcases zz1 with ⟨ts', rfl, hTs', hof', hmp, hyl', hj4⟩) <;> (k_unfold; clear KK)
          rintro ho9 F₂ N₂ hdj₂ hn₂
          replace N₂ : News g' C h₄ ((I2, o9) :: (Dq, listOf vs9.toArray e9) :: (D, listOf ys'.toArray e') :: (e, enumObj it ((i + 1 : Nat) : Int) c.2) :: (it, c.1) :: (lr, listOf rv.toArray er) :: ts') := by rw [hex9] at N₂; exact N₂
          have F₃ := Fr.know F₂ [(Str.ofString "place", .int (i : Int) tt)] (by first | exact kn_cons hmp (kn_nil) | simp [hmp])
          refine hid ?_; intro KK
          (obtain ⟨v9, nm, hv8, hnm, hok, tnm, rfl⟩ := hare.get (i := j) (by omega)) <;> (k_unfold; clear KK)
          rw [hv8] at hv9
          cases hv9
          clear F₂ F8 N9 F7 N8
          repeat' (first | (k_unfold; (try dsimp only)) | walk1)
          rename Fr _ C _ _ => F5
          rename News _ C _ _ => N5
          rename _ < _ ∧ _ => lT
          rename_i T9 h9
          refine hid ?_; intro KK
          (obtain ⟨b1, b2, b3, b4, b5, b6, _⟩ := lT) <;> (k_unfold; clear KK)
          have htk : (srt sh S).take (j + 1) = (srt sh S).take j ++ [nm] := by rw [List.take_add_one, hnm]; rfl
          refine ⟨_, _, _, (e, enumObj it ((i + 1 : Nat) : Int) c.2) :: (it, c.1) :: (lr, listOf rv.toArray er) :: (T9, pnObj i nm tt tnm) :: ts', rfl, F5, ?_, ?_, (T9, pnObj i nm tt tnm) :: ts', rfl, ?_, ?_, rfl, ?_, by omega⟩
          · intro p hp
            refine N5 p ?_
            refine hid ?_; intro KK
            (rcases List.mem_cons.mp hp with rfl | hp) <;> (k_unfold; clear KK)
            · exact .tail _ (.head _)
            · refine hid ?_; intro KK
              (rcases List.mem_cons.mp hp with rfl | hp) <;> (k_unfold; clear KK)
              · exact .tail _ (.tail _ (.head _))
              · refine hid ?_; intro KK
                (rcases List.mem_cons.mp hp with rfl | hp) <;> (k_unfold; clear KK)
                · exact .tail _ (.tail _ (.tail _ (.head _)))
                · refine hid ?_; intro KK
                  (rcases List.mem_cons.mp hp with rfl | hp) <;> (k_unfold; clear KK)
                  · exact .tail _ (.tail _ (.tail _ (.tail _ (.head _))))
                  · refine hid ?_; intro KK
                    (rcases List.mem_cons.mp hp with rfl | hp) <;> (k_unfold; clear KK)
                    · exact .tail _ (.tail _ (.tail _ (.tail _ (.tail _ (.head _)))))
                    · refine hid ?_; intro KK
                      (rcases List.mem_cons.mp hp with rfl | hp) <;> (k_unfold; clear KK)
                      · exact .tail _ (.tail _ (.tail _ (.tail _ (.tail _ (.tail _ (.head _))))))
                      · refine hid ?_; intro KK
                        (rcases List.mem_cons.mp hp with rfl | hp) <;> (k_unfold; clear KK)
                        · exact .head _
                        · exact .tail _ (.tail _ (.tail _ (.tail _ (.tail _ (.tail _ (.tail _ hp))))))
          · intro p hp
            refine hid ?_; intro KK
            (rcases List.mem_cons.mp hp with rfl | hp) <;> (k_unfold; clear KK)
            · exact hn₂ _ (.head _)
            · refine hid ?_; intro KK
              (rcases List.mem_cons.mp hp with rfl | hp) <;> (k_unfold; clear KK)
              · exact hn₂ _ (.tail _ (.head _))
              · refine hid ?_; intro KK
                (rcases List.mem_cons.mp hp with rfl | hp) <;> (k_unfold; clear KK)
                · exact hn₂ _ (.tail _ (.tail _ (.head _)))
                · refine hid ?_; intro KK
                  (rcases List.mem_cons.mp hp with rfl | hp) <;> (k_unfold; clear KK)
                  · intro q
                    simp only [List.mem_cons, List.not_mem_nil, or_false] at q
                    exact q.elim (Nat.ne_of_gt b3) fun q => q.elim (Nat.ne_of_gt b1) (Nat.ne_of_gt b2)
                  · exact hn₂ _ (.tail _ (.tail _ (.tail _ hp)))
          · rw [htk, List.map_append, ← List.append_assoc]
            exact (TupL.mono (fun p hp => .tail _ hp) hTs').append ⟨⟨hok, T9, tt, tnm, rfl, .head _⟩, trivial⟩
          · intro p hp
            refine hid ?_; intro KK
            (rcases List.mem_cons.mp hp with rfl | hp) <;> (k_unfold; clear KK)
            · refine ⟨Nat.ne_of_gt b3, fun q => ?_⟩
              simp only [List.mem_cons, List.not_mem_nil, or_false] at q
              exact q.elim (Nat.ne_of_gt b4) fun q => q.elim (Nat.ne_of_gt b5) (Nat.ne_of_gt b6)
            · exact hof' p hp
          · rw [List.length_append, List.length_singleton]; omega
        · rintro ys' e' m₂ news₂ h₄ tk₄ zz0
          refine hid ?_; intro KK
          (rcases zz0 with ⟨ts', rfl, hTs', hof', hmp, hyl', hj4⟩) <;> (k_unfold; clear KK)
          rintro F₂ N₂ hn₂
          rw [List.take_of_length_le (by omega)] at hTs'
          refine ⟨h₄, tk₄, m₂, (D, listOf ys'.toArray e') :: ts', rfl, F₂, fun p hp => N₂ p ?_, ?_, ys', e', ts', rfl, hSt ▸ hTs', hof', by omega⟩
          · refine hid ?_; intro KK
            (rcases List.mem_cons.mp hp with rfl | hp) <;> (k_unfold; clear KK)
            · exact .tail _ (.tail _ (.head _))
            · refine hid ?_; intro KK
              (rcases List.mem_cons.mp hp with rfl | hp) <;> (k_unfold; clear KK)
              · exact .tail _ (.tail _ (.tail _ (.head _)))
              · refine hid ?_; intro KK
                (rcases List.mem_cons.mp hp with rfl | hp) <;> (k_unfold; clear KK)
                · exact .tail _ (.tail _ (.tail _ (.tail _ (.head _))))
                · refine hid ?_; intro KK
                  (rcases List.mem_cons.mp hp with rfl | hp) <;> (k_unfold; clear KK)
                  · exact .tail _ (.head _)
                  · exact .tail _ (.tail _ (.tail _ (.tail _ (.tail _ hp))))
          · intro p hp
            refine hid ?_; intro KK
            (rcases List.mem_cons.mp hp with rfl | hp) <;> (k_unfold; clear KK)
            · exact hn₁ (D, listOf ys.toArray ep) (.head _)
            · exact (hof' p hp).2
      · rename (_ : Int) = 0 => hb
        have hS0 : S = 0 := by
          have h1 : u = 0 := by omega
          rw [hu2] at h1
          exact (Nat.mul_eq_zero.mp h1).resolve_right (Nat.ne_of_gt (Nat.two_pow_pos sh))
        rename Fr _ C _ _ => F2
        rename News _ C _ _ => N2
        refine ⟨_, _, _, (D, listOf ys.toArray ep) :: ts, rfl, F2, fun p hp => N2 p (.tail _ hp), hn₁, ys, ep, ts, rfl, ?_, hof, by omega⟩
        rw [hSt, hS0, srt_zero]
        simpa using hTs
    · rintro m₁ news₁ h₂ tk₂ zz0
      refine hid ?_; intro KK
      (rcases zz0 with ⟨ys, ep, ts, rfl, hTs, hof, hyl⟩) <;> (k_unfold; clear KK)
      rintro F₁ N₁ hn₁
      rw [hrv.length, List.length_map, h4] at hTs
      refine ⟨rfl, ys.toArray, ep, m₁, (lr, listOf rv.toArray er) :: ts, h₂, tk₂, rfl, F₁, fun p hp => N₁ p ?_, ts, rfl, ?_⟩
      · refine hid ?_; intro KK
        (rcases List.mem_cons.mp hp with rfl | hp) <;> (k_unfold; clear KK)
        · exact .tail _ (.head _)
        · refine hid ?_; intro KK
          (rcases List.mem_cons.mp hp with rfl | hp) <;> (k_unfold; clear KK)
          · exact .head _
          · exact .tail _ (.tail _ hp)
      · simpa using hTs
  · rintro D ys ep nw h' tk' zz0
    refine hid ?_; intro KK
    (rcases zz0 with ⟨ts, rfl, hTs⟩) <;> (k_unfold; clear KK)
    rintro F2 N2 hk hD
    have N0 : News g L s.heap news0 := fun p hp => N p (.tail _ (.tail _ hp))
    have N3 := comp_backN (Le := []) (lk0 := [(e, enumObj it 0 .none), (it, o)]) (keepL := [(lr, listOf rv.toArray er)]) (D := D) (ys := ys) (e := ep) N0 N1s (fun p hp q => by
      simp only [List.map_cons, List.map_nil, List.mem_cons, List.not_mem_nil, or_false] at q
      exact absurd q (fun q => q.elim (hne0 p hp).1 (hne0 p hp).2)) (fun p hp => N2 p (by
      refine hid ?_; intro KK
      (rcases List.mem_cons.mp hp with rfl | hp) <;> (k_unfold; clear KK)
      · exact .head _
      · rw [List.mem_singleton.mp hp]; exact .tail _ (.head _))) hk
    refine done D ys ep ts h' tk' hTs F2 (fun p hp => ?_) fun p hp => Nat.lt_of_lt_of_le (Heap.lt_size (N p (.tail _ (.tail _ hp))).1) hD
    refine hid ?_; intro KK
    (rcases List.mem_cons.mp hp with rfl | hp) <;> (k_unfold; clear KK)
    · exact N2 _ (.head _)
    · refine hid ?_; intro KK
      (rcases List.mem_append.mp hp with hp | hp) <;> (k_unfold; clear KK)
      · exact N2 p (.tail _ (.tail _ hp))
      · exact N3 p (.tail _ hp)
end
end
section
variable {h : Nat} {Ss : List Nat} {NC : List Str × (Str → List Nat)}
theorem col_ne (hh : h < 11) (h1 : NC.1 = srt h (upW Ss 4)) (h2 : ∀ j, j < 4 → NC.2 (flagName (h + j)) = (List.range 4).filter fun p => (Ss.getD p 0).testBit j) : ∀ nm ∈ NC.1, NC.2 nm ≠ [] := by
  intro nm hnm q
  rw [h1] at hnm
  refine hid ?_; intro KK
  (obtain ⟨j, ⟨a, b⟩, rfl⟩ := (mem_srt hh).mp hnm) <;> (k_unfold; clear KK)
  refine hid ?_; intro KK
  (obtain ⟨k, c, d⟩ := (upW_bit Ss j 4).mp b) <;> (k_unfold; clear KK)
  rw [h2 j a] at q
  have : k ∈ (List.range 4).filter fun p => (Ss.getD p 0).testBit j := List.mem_filter.mpr ⟨List.mem_range.mpr c, d⟩
  rw [q] at this
  cases this
theorem cols_is (hh : h < 11) (h1 : NC.1 = srt h (upW Ss 4)) (h2 : ∀ j, j < 4 → NC.2 (flagName (h + j)) = (List.range 4).filter fun p => (Ss.getD p 0).testBit j) : NC.1.map NC.2 = ((srtJ h (upW Ss 4)).map (colm Ss)).map mlist := by
  rw [h1, srt, List.map_map, List.map_map]
  refine List.map_congr_left fun j hj => ?_
  show NC.2 (flagName (h + j)) = mlist (colm Ss j)
  rw [h2 j ((mem_srtJ hh).mp hj).1, mlist_colm]
theorem told_one (hh : h < 11) (h1 : NC.1 = srt h (upW Ss 4)) (h2 : ∀ j, j < 4 → NC.2 (flagName (h + j)) = (List.range 4).filter fun p => (Ss.getD p 0).testBit j) (i : Nat) (hi : i < 4) : toldIn NC.2 NC.1 i = (srt h (Ss.getD i 0)).map fun nm => (i, nm) := by
  rw [toldIn, h1, srt, srt, List.filter_map, srtJ, srtJ, List.filter_filter]
  refine congrArg (fun l => (List.map (fun j => flagName (h + j)) l).map fun nm => (i, nm)) ?_
  refine List.filter_congr fun j hj => ?_
  have hj4 : j < 4 := (mem_ord hh _).mp hj
  show ((NC.2 (flagName (h + j))).any (· == i) && (upW Ss 4).testBit j) = (Ss.getD i 0).testBit j
  rw [h2 j hj4]
  cases e : (Ss.getD i 0).testBit j with
  | true =>
    rw [(upW_bit Ss j 4).mpr ⟨i, hi, e⟩, Bool.and_true]
    exact List.any_eq_true.mpr ⟨i, List.mem_filter.mpr ⟨List.mem_range.mpr hi, e⟩, beq_self_eq_true i⟩
  | false =>
    rw [Bool.and_eq_false_iff]
    refine .inl (Bool.eq_false_iff.mpr fun q => ?_)
    refine hid ?_; intro KK
    (obtain ⟨p, hp, hq⟩ := List.any_eq_true.mp q) <;> (k_unfold; clear KK)
    have : p = i := by simpa using hq
    refine hid ?_; intro KK
    (subst this) <;> (k_unfold; clear KK)
    rw [(List.mem_filter.mp hp).2] at e
    cases e
theorem told_eq (hh : h < 11) (h1 : NC.1 = srt h (upW Ss 4)) (h2 : ∀ j, j < 4 → NC.2 (flagName (h + j)) = (List.range 4).filter fun p => (Ss.getD p 0).testBit j) : ∀ i, i ≤ 4 → toldTo NC.2 NC.1 i = seenTo h Ss i
  | 0, _ => rfl
  | i + 1, hi => by rw [toldTo, seenTo, told_eq hh h1 h2 i (Nat.le_of_succ_le hi), told_one hh h1 h2 i hi]
theorem size_ok (hh : h < 11) (hS : ∀ i, Ss.getD i 0 < 16) (x : Int) (c : Nat) : haveOf (upTo (Ss.map (· * 2 ^ h)) x c 4).1 ≤ (srt h (upW Ss 4)).length := by
  rw [upTo_is, have_is hh (selU_lt hS c 4), srt, List.length_map, (srtJ_perm hh _).length_eq, pop4, ← List.countP_eq_length_filter, ← List.countP_eq_length_filter]
  refine List.countP_mono_left fun j _ e => ?_
  have hs := sel_sub Ss c 4
  rw [← hs, Nat.testBit_or, e, Bool.or_true]
end
section
variable {w : World} {A : Around} {E : Value → Shared → Prop} {s : Shared} {g : Heap} {L : Addr} {news ts1 ts2 : List (Addr × Obj)} {D1 D2 : Addr} {ys zs : List Value} {e1 e2 : Nat} {xs : List (Nat × Str)} {Q : Value → Shared → Prop}
theorem told_ne (N : News g L s.heap news) (m1 : (D1, listOf ys.toArray e1) ∈ news) (m2 : (D2, listOf zs.toArray e2) ∈ news) (h1 : ∀ p ∈ ts1, p ∈ news) (h2 : ∀ p ∈ ts2, p ∈ news) (t1 : TupL ts1 ys xs) (t2 : TupL ts2 zs xs) (hu : A.units + 64 < cLine) (h : Q (.bool false) s) :
    wpAny (model PySem.Challenge.rw_wn0058_01.row.prog w) A (compareOp .NotEq (.ref D1) (.ref D2)) Q E s := by
  refine hid ?_; intro KK
  (obtain ⟨as, r1, c1, d1, q1⟩ := TupL.reads N h1 t1) <;> (k_unfold; clear KK)
  refine hid ?_; intro KK
  (obtain ⟨bs, r2, _, _, _⟩ := TupL.reads N h2 t2) <;> (k_unfold; clear KK)
  have hd : (PyData.list (xs.map encP)).depth ≤ 64 := by
    rw [PyData.depth]
    exact Nat.le_trans (Nat.succ_le_succ d1) (by decide : 3 ≤ 64)
  have hs : SeqAt.shaped (.list (xs.map encP)) = true := Bool.and_eq_true_iff.mpr ⟨by rw [PyData.canLay0]; exact c1, decide_eq_true hd⟩
  refine ne_dataH (.list (N _ m1).1 rfl rfl r1) (.list (N _ m2).1 rfl rfl r2) hs hs hu ?_
  rw [PyData.eqv, q1]
  exact h
theorem pair_ne {a b : Int} {t u t' u' : Tok} {T1 T2 : Addr} (N : News g L s.heap news) (m1 : (T1, { cls := .type "tuple", data := .seq #[.int a t, .int b u] }) ∈ news) (m2 : (T2, { cls := .type "tuple", data := .seq #[.int a t', .int b u'] }) ∈ news) (hu : A.units + 64 < cLine) (h : Q (.bool false) s) :
    wpAny (model PySem.Challenge.rw_wn0058_01.row.prog w) A (compareOp .NotEq (.ref T1) (.ref T2)) Q E s := by
  have hs : SeqAt.shaped (.tuple [.int a, .int b]) = true := by simp [SeqAt.shaped, PyData.canLay0, PyData.canLayAll0, PyData.depth, PyData.depthAll]
  refine ne_dataH (.tuple (N _ m1).1 rfl rfl (.cons (.int a t) (.cons (.int b u) .nil))) (.tuple (N _ m2).1 rfl rfl (.cons (.int a t') (.cons (.int b u') .nil))) hs hs hu ?_
  have q : PyData.eqv (.tuple [.int a, .int b]) (.tuple [.int a, .int b]) = true := by simp [PyData.eqv, PyData.eqvAll]
  rw [q]
  exact h
theorem pair_eq {a : Str} {b : Int} {t u t' u' : Tok} {T1 T2 : Addr} (hok : PyData.strOk a = true) (N : News g L s.heap news) (m1 : (T1, { cls := .type "tuple", data := .seq #[.str a t, .int b u] }) ∈ news) (m2 : (T2, { cls := .type "tuple", data := .seq #[.str a t', .int b u'] }) ∈ news) (hu : A.units + 64 < cLine) (h : Q (.bool true) s) :
    wpAny (model PySem.Challenge.rw_wn0058_01.row.prog w) A (compareOp .Eq (.ref T1) (.ref T2)) Q E s := by
  have hs : SeqAt.shaped (.tuple [.str a, .int b]) = true := by simp [SeqAt.shaped, PyData.canLay0, PyData.canLayAll0, PyData.depth, PyData.depthAll, hok]
  refine eq_dataH (.tuple (N _ m1).1 rfl rfl (.cons (.str a t) (.cons (.int b u) .nil))) (.tuple (N _ m2).1 rfl rfl (.cons (.str a t') (.cons (.int b u') .nil))) hs hs hu ?_
  have q : PyData.eqv (.tuple [.str a, .int b]) (.tuple [.str a, .int b]) = true := by simp [PyData.eqv, PyData.eqvAll]
  rw [q]
  exact h
end
/-- a test that says no, and turns the ledger -/
noncomputable def IfL (s : Shared) (g : Heap) (L : Addr) (m : Str → Option Value) (led : Nat → List (Addr × Obj)) (b : Bool) (s₂ : Shared) : Prop := b = false ∧ ∃ pe h' tk', s₂ = { s with heap := h', toks := tk' } ∧ Fr g L h' m ∧ News g L h' (led pe)
theorem if_falseL {M : Model} {A : Around} {E : Value → Shared → Prop} {s : Shared} {g : Heap} {L : Addr} {m : Str → Option Value} {env : Env} {test : Expr} {body orelse : List Stmt} {pos : Pos} {Q : Flow → Shared → Prop} (_F : Fr g L s.heap m) (led : Nat → List (Addr × Obj))
    (h : wpAny M A (isTrue test env (eval test env)) (fun b s₂ => IfL s g L m led b s₂) (fun _ _ => False) s)
    (k : ∀ pe h' tk', Fr g L h' m → News g L h' (led pe) → wpAny M A (execs orelse env) Q E { s with heap := h', toks := tk' }) : wpAny M A (exec (.If test body orelse pos) env) Q E s := by
  refine wpAny_If (wpAny_mono h (fun b s₂ hb => ?_) fun _ _ x => x.elim)
  refine hid ?_; intro KK
  (obtain ⟨rfl, pe, h', tk', rfl, F, N⟩ := hb) <;> (k_unfold; clear KK)
  rw [if_neg (by decide)]
  exact k pe h' tk' F N
example : True := by w_top off; exact trivial
section
local macro_rules | `(tactic| walk_at "idle line") => `(tactic| fail)
section
local macro_rules | `(tactic| k_in) => `(tactic| first | with_reducible assumption | exact Frag.In.keeps (by with_reducible assumption) (Fr.keep (by with_reducible assumption)))
local macro_rules | `(tactic| walk_at $s:str) => if ["exec Assign cons ListComp", "eval ListComp", "pyIter ref", "binaryOp Pow int int", "call type:enumerate", "exec If", "binaryOp BitOr int int", "call builtin:str.split", "call builtin:sorted", "subscriptTail Name Name ref str", "compareOp In int ref", "call type:zip", "call builtin:str.join", "call builtin:len", "call builtin:sum", "binaryOp FloorDiv int int", "binaryOp Mod int int"].contains s.getString then `(tactic| (refine hold_of ?_)) else Lean.Macro.throwUnsupported
theorem law_walk : PySem.Challenge.rw_wn0058_01.Holds := and_on hd ⟨ran_f, ran_t⟩ (by
  k_go0
  all_goals (try k_fold)
  refine fold_E ?_; intro ekk
  k_steps
  unfold Hold
  rename_i h1 tk1 w4 w3 w2 w1 c4 c3 c2 c1 cz X T K F1 N1 l0
  rename World => w
  rename IntsAre _ _ => hI
  rename ¬ ((63 : Nat) : Int) < _ => hlen
  rename Heap.IsList (ghostOf _ _) _ _ => hscr
  rename CodeHd _ _ _ => hcode
  replace c1 : w1.data = Data.cell none := c1
  replace c2 : w2.data = Data.cell none := c2
  replace c3 : w3.data = Data.cell none := c3
  replace c4 : w4.data = Data.cell none := c4
  replace T : Top topProg loose _ _ _ _ := T
  have hm : ∃ L h m ax, Fr (ghostOf _ _) L h m ∧ m "script" = some (.ref ax) ∧ Heap.IsList (ghostOf _ _) ax _ := ⟨_, _, _, _, F1, rfl, hscr⟩
  clear hm cz
  rename List Int => ns
  rename List Value => vs
  have hvl := hI.length
  have hlen63 : vs.length ≤ 63 := by omega
  rename Ground _ _ _ _ _ _ _ _ _ => z1
  rename Heap.CodeRec _ _ _ => z3
  rename Tables _ _ _ _ => z4
  rename TopE _ _ _ _ => z5
  rename TopW _ _ _ => z6
  rename LooseAre _ _ _ => z7
  rename Flt.MathXP _ _ _ => z8
  rename Reads _ _ _ _ => z9
  clear z1 z3 z4 z5 z6 z7 z8 z9
  refine wpAny_Assign_Name ?_ (by with_unfolding_all rfl)
  refine comp_eval (cl := []) (closureFor_none (by decide)) rfl (by decide) ?_ (fun _ => rfl)
  k_steps
  unfold Hold
  rename Fr _ _ _ _ => F2
  rename News _ _ _ _ => N2
  refine slice_g (us := vs.take 12) (s := ⟨_, _, _, _, _⟩) F2 N2 (F2.lst hscr) .none (.int _ _) .none (by simp) (slicePick_upto' _ 12) (by omega) ?_
  intro b h3 F3 N3 lb
  k_steps
  unfold Hold
  rename Fr _ _ _ _ => F4
  rename News _ _ _ _ => N4
  refine comp_listE [] F4 N4 (.head _) X T (by rfl) rfl (by decide) (fun _ h => nomatch h) (fun i ys => ∃ hs : List Nat, Are (natKd w).is ys hs ∧ (hs.length = i ∧ i ≤ 12) ∧ ∀ a ∈ hs, a < 1000000) (fun i ys ⟨hs, a, b, _⟩ => by have := a.length; omega) ⟨[], trivial, ⟨rfl, by decide⟩, fun _ h => nomatch h⟩ ?_ ?_
  · rintro I g' C D i o v ex ys e m₁ h₁ tk₁ X' T' hg' hi zz0 zz1
    refine hid ?_; intro KK
    (rcases zz0 with ⟨hex, hv⟩) <;> (rcases zz1 with ⟨hs, hys, ⟨hhl, hhi⟩, hsm⟩) <;> (k_unfold; clear KK)
    rintro ho FC NC
    rw [List.length_take] at hi
    replace NC : News g' C h₁ [(I, o), (b, listOf (vs.take 12).toArray 0), (D, listOf ys.toArray e)] := by rw [hex] at NC; exact NC
    refine hid ?_; intro KK
    (obtain ⟨a, ta, rfl⟩ : ∃ (a : Int) (t : Tok), v = .int a t := ints_mem (hI.take 12) (List.mem_of_getElem? hv)) <;> (k_unfold; clear KK)
    clear F4 N4
    first | (refine fold_F ?_; intro qk) | k_fold | skip
    k_steps
    unfold Hold
    refine pow_nat (a := 10) (i := 6) (by decide) (by decide) (fun tP tkP => ?_)
    k_steps
    unfold Hold
    refine mod_int' (by decide) ?_
    k_steps
    rename Fr _ C _ _ => FD
    rename News _ C _ _ => ND
    have h6 : (0 : Int) ≤ a.fmod ((10 ^ 6 : Nat) : Int) ∧ a.fmod ((10 ^ 6 : Nat) : Int) < 1000000 := ⟨Int.fmod_nonneg_of_pos _ (by decide), Int.fmod_lt_of_pos _ (by decide)⟩
    refine' ⟨_, _, _, rfl, FD, ND, hs ++ [(a.fmod ((10 ^ 6 : Nat) : Int)).toNat], hys.append ⟨⟨_, ?e1⟩, trivial⟩, ⟨?e2, ?e3⟩, fun c hc => ?e4⟩
    case e1 => rw [Int.toNat_of_nonneg h6.1]
    case e2 => rw [List.length_append, hhl]; rfl
    case e3 => omega
    case e4 =>
      refine hid ?_; intro KK
      (rcases List.mem_append.mp hc with hc | hc) <;> (k_unfold; clear KK)
      · exact hsm c hc
      · rw [List.mem_singleton.mp hc]; omega
  · intro D ys e h4 tk4 ⟨cs, hys, ⟨hhl, hhi⟩, hsm⟩ F5 N5 hlt5
    rename Shared => s1
    refine storeZ_C [(s1.heap.objs.size + 2, w2), (s1.heap.objs.size + 3, w3), (s1.heap.objs.size + 4, w4), (84, tabObj #[]), (D, listOf ys.toArray e)] F5 N5 rfl rfl rfl (show (s1.heap.objs.size + 1, w1) ∈ _ by k_mem) c1 ?_ ?_
    · intro p hp
      have lL := hlt5 _ (.tail _ (.tail _ (.tail _ (.tail _ (.head _)))))
      simp only [List.mem_cons, List.not_mem_nil, or_false] at hp
      refine hid ?_; intro KK
      (rcases hp with rfl | rfl | rfl | rfl | rfl) <;> (k_unfold; clear KK)
      · exact ⟨.tail _ (.tail _ (.tail _ (.tail _ (.head _)))), by show s1.heap.objs.size + 2 ≠ s1.heap.objs.size + 1; omega⟩
      · exact ⟨.tail _ (.tail _ (.tail _ (.head _))), by show s1.heap.objs.size + 3 ≠ s1.heap.objs.size + 1; omega⟩
      · exact ⟨.tail _ (.tail _ (.head _)), by show s1.heap.objs.size + 4 ≠ s1.heap.objs.size + 1; omega⟩
      · exact ⟨.tail _ (.tail _ (.tail _ (.tail _ (.tail _ (.tail _ (.head _)))))), by show 84 ≠ s1.heap.objs.size + 1; omega⟩
      · exact ⟨.head _, Nat.ne_of_gt lL⟩
    · intro h6 o1 F6 N6 d1
      have lDL : s1.heap.objs.size + 4 < D := hlt5 _ (.tail _ (.head _))
      clear F5 N5 F4 N4 lb hlt5
      k_steps
      unfold Hold
      refine comp_assign (cl := [(Str.ofString "cells", s1.heap.objs.size + 1)]) (by with_unfolding_all rfl) (by with_unfolding_all rfl) rfl (by decide) ?_ (fun _ => rfl)
      k_steps
      unfold Hold
      rename Fr _ _ _ _ => F7
      rename News _ _ _ _ => N7
      rename_i T3 h7 lT3
      have ltT3 : s1.heap.objs.size < T3 ∧ s1.heap.objs.size + 4 < T3 ∧ 84 < T3 ∧ D < T3 := by
        refine hid ?_; intro KK
        (obtain ⟨a1, a2, a3, a4, a5, a6⟩ := lT3) <;> (k_unfold; clear KK)
        exact ⟨Nat.lt_trans (Nat.lt_succ_self _) a1, a4, a5, a6⟩
      clear lT3
      obtain ⟨TV, N7', hTV1, hTV2⟩ : ∃ TV : List Value, News (ghostOf s1.heap [(88, 84)]) s1.heap.objs.size h7 ((T3, tupOf TV 0) :: [(s1.heap.objs.size + 1, o1), (s1.heap.objs.size + 2, w2), (s1.heap.objs.size + 3, w3), (s1.heap.objs.size + 4, w4), (84, tabObj #[]), (D, listOf ys.toArray e)]) ∧ TV.length = 6 ∧ ∀ v ∈ TV, ∃ (b : Nat) (t : Tok), v = .int (b : Int) t ∧ b < 1000 := by
        refine ⟨[_, _, _, _, _, _], N7, rfl, fun v hv => ?_⟩
        simp only [List.mem_cons, List.not_mem_nil, or_false] at hv
        refine hid ?_; intro KK
        (rcases hv with rfl | rfl | rfl | rfl | rfl | rfl) <;> (k_unfold; clear KK)
        · exact ⟨19, _, rfl, by decide⟩
        · exact ⟨38, _, rfl, by decide⟩
        · exact ⟨117, _, rfl, by decide⟩
        · exact ⟨92, _, rfl, by decide⟩
        · exact ⟨37, _, rfl, by decide⟩
        · exact ⟨3, _, rfl, by decide⟩
      clear N7
      refine enumT_start F7 N7' (.head _) fun e2 it2 h8 F8 N8 hie hlt8 => ?_
      clear N7' F7
      k_steps
      unfold Hold
      refine comp_enumTA [(s1.heap.objs.size + 1, o1), (D, listOf ys.toArray e)] F8 N8 hie hlt8 (fun p hp => ?_) X T (by rfl) rfl (by decide) (fun p hp => ?_) rfl rfl rfl
        (fun i ys => ∃ hs : List Nat, Are (natKd w).is ys hs ∧ (hs.length = i ∧ i ≤ 6) ∧ ∀ a ∈ hs, a < 100000000) (fun i ys ⟨hs, a, b, _⟩ => by have := a.length; omega) ⟨[], trivial, ⟨rfl, by decide⟩, fun _ h => nomatch h⟩ ?_ ?_
      · simp only [List.mem_cons, List.not_mem_nil, or_false] at hp
        refine hid ?_; intro KK
        (obtain ⟨q1, q2, q3, q4⟩ := ltT3) <;> (k_unfold; clear KK)
        refine hid ?_; intro KK
        (rcases hp with rfl | rfl | rfl | rfl | rfl | rfl) <;> (k_unfold; clear KK)
        · exact Nat.ne_of_lt (show s1.heap.objs.size + 1 < T3 from by omega)
        · exact Nat.ne_of_lt (show s1.heap.objs.size + 2 < T3 from by omega)
        · exact Nat.ne_of_lt (show s1.heap.objs.size + 3 < T3 from by omega)
        · exact Nat.ne_of_lt q2
        · exact Nat.ne_of_lt q3
        · exact Nat.ne_of_lt q4
      · refine hid ?_; intro KK
        (rcases List.mem_cons.mp hp with rfl | hp) <;> (k_unfold; clear KK)
        · exact .head _
        · rw [List.mem_singleton.mp hp]; exact .tail _ (.tail _ (.tail _ (.tail _ (.tail _ (.head _)))))
      · rintro g' C D2 i c v ex ys2 ep2 m₁ h₁ tk₁ X' T' hg' hi zz0 zz1
        refine hid ?_; intro KK
        (rcases zz0 with ⟨TT, tt, xv, rfl, hxv, hex⟩) <;> (rcases zz1 with ⟨hs, hys2, ⟨hhl2, hhi2⟩, hsm2⟩) <;> (k_unfold; clear KK)
        rintro ho FC NC
        replace NC : News g' C h₁ ((TT, { cls := .type "tuple", data := .seq #[.int i tt, xv] }) :: [(e2, enumObj it2 ((i + 1 : Nat) : Int) c.2), (it2, c.1), (T3, tupOf TV 0), (D2, listOf ys2.toArray ep2), (s1.heap.objs.size + 1, o1), (D, listOf ys.toArray e)]) := by rw [hex] at NC; exact NC
        refine hid ?_; intro KK
        (obtain ⟨bg, tb, rfl, hbg⟩ := hTV2 xv (List.mem_of_getElem? hxv)) <;> (k_unfold; clear KK)
        clear F8 N8
        repeat' (first | (k_unfold; (try dsimp only)) | walk1)
        unfold Hold
        rename Fr _ C _ _ => FD
        rename News _ C _ _ => ND
        refine slice_g (us := (slicePick ys.toArray (some (i : Int)) none (some 6)).toList) (s := ⟨_, _, _, _, _⟩) FD ND (News.isList ND (by k_mem)) (.int _ _) .none (.int _ _) (by decide) (by simp) (by have := hys.length; omega) ?_
        intro b2 h10 F10 N10 lb2
        have hyl := hys.length
        refine hid ?_; intro KK
        (obtain ⟨zs, hz, hzM⟩ := all_are (w := w) (vs := (slicePick ys.toArray (some (i : Int)) none (some 6)).toList) (M := 1000000) fun v hv => are_all hys hsm v (slice_mem hv)) <;> (k_unfold; clear KK)
        have hzl : zs.length ≤ 12 := by
          rw [← hz.length, Array.length_toList]
          exact Nat.le_trans (slicePick_size_le ys.toArray (some (i : Int)) none (some 6)) (by rw [List.size_toArray]; omega)
        have hzs := sum_le hzM
        clear FD ND
        repeat' (first | (k_unfold; (try dsimp only)) | walk1)
        unfold Hold
        rename Fr _ C _ _ => FD
        rename News _ C _ _ => ND
        refine LSm.sum_ints FD ND (by rfl) (News.isList ND (.head _)) (are_ints hz) (fun h11 tk11 t11 F11 N11 => ?_)
        rw [nat_sum]
        clear FD ND
        repeat' (first | (k_unfold; (try dsimp only)) | walk1)
        rename Fr _ C _ _ => FD
        rename News _ C _ _ => ND
        refine' ⟨_, _, _, rfl, FD, fun p hp => ND p ?e0, hs ++ [zs.sum + bg], hys2.append ⟨⟨_, ?e1⟩, trivial⟩, ⟨?e2, ?e3⟩, fun c hc => ?e4⟩
        case e0 => exact .tail _ (.tail _ hp)
        case e1 => rw [Int.natCast_add]
        case e2 => rw [List.length_append, hhl2]; rfl
        case e3 => omega
        case e4 =>
          refine hid ?_; intro KK
          (rcases List.mem_append.mp hc with hc | hc) <;> (k_unfold; clear KK)
          · exact hsm2 c hc
          · rw [List.mem_singleton.mp hc]; omega
      · intro D2 ys2 ep2 h9 tk9 ⟨hs, hys2, ⟨hhl2, hhi2⟩, hsm2⟩ F9 N9 hlt9
        refine hid ?_; intro KK
        (obtain ⟨v0, v1, v2, v3, v4, v5, t0, t1, t2, t3, t4, t5, rfl, rfl⟩ := are_six hys2 (hhl2.trans hTV1)) <;> (k_unfold; clear KK)
        have F10 := Fr.know F9 [(Str.ofString "heaps", .ref D2)] (by simp)
        have N10 : News (ghostOf s1.heap [(88, 84)]) s1.heap.objs.size h9 [(D2, listOf #[.int (v0 : Int) t0, .int (v1 : Int) t1, .int (v2 : Int) t2, .int (v3 : Int) t3, .int (v4 : Int) t4, .int (v5 : Int) t5] ep2), (s1.heap.objs.size + 2, w2), (s1.heap.objs.size + 3, w3), (s1.heap.objs.size + 4, w4), (84, tabObj #[])] := fun p hp => N9 p (by
          simp only [List.mem_cons, List.not_mem_nil, or_false] at hp ⊢
          rcases hp with rfl | rfl | rfl | rfl | rfl <;> simp)
        have hlt10 : s1.heap.objs.size + 4 < D2 := hlt9 _ (.tail _ (.tail _ (.tail _ (.head _))))
        have V0 := hsm2 v0 (by simp)
        have V1 := hsm2 v1 (by simp)
        have V2 := hsm2 v2 (by simp)
        have V3 := hsm2 v3 (by simp)
        have V4 := hsm2 v4 (by simp)
        clear F9 N9 F8 N8 hlt9 hlt8 hys2 hsm2 hhl2 hhi2 hys hsm hTV1 hTV2 hhl hhi
        first | (refine fold_F ?_; intro qk) | k_fold | skip
        k_steps
        unfold Hold
        refine fmod_nat (a := v4) (b := 11) (by decide) (fun ta tka => ?_)
        k_steps
        unfold Hold
        refine fdiv_nat (a := v4) (b := 11) (by decide) (by decide) (fun tb tkb => ?_)
        k_steps
        unfold Hold
        refine fmod_nat (a := v4 / 11) (b := 9) (by decide) (fun tc tkc => ?_)
        k_steps
        unfold Hold
        refine fmod_nat (a := v5) (b := 9) (by decide) (fun td tkd => ?_)
        k_steps
        unfold Hold
        rename Fr _ _ _ _ => F11
        rename News _ _ _ _ => N11
        rename Obj.data _ = Data.cell _ => dS
        rename Obj => oS
        refine comp_assign (cl := [(Str.ofString "shift", s1.heap.objs.size + 2)]) (by with_unfolding_all rfl) (by with_unfolding_all rfl) rfl (by decide) ?_ (fun _ => rfl)
        k_steps
        unfold Hold
        rename Fr _ _ _ _ => F12
        rename News _ _ _ _ => N12
        refine slice_g (vs := [.int (v0 : Int) t0, .int (v1 : Int) t1, .int (v2 : Int) t2, .int (v3 : Int) t3, .int (v4 : Int) t4, .int (v5 : Int) t5]) (us := [.int (v0 : Int) t0, .int (v1 : Int) t1, .int (v2 : Int) t2, .int (v3 : Int) t3]) (s := ⟨_, _, _, _, _⟩) F12 N12 (News.isList N12 (.tail _ (.head _))) .none (.int _ _) .none (by simp) (slicePick_upto' _ 4) (Nat.le_of_ble_eq_true rfl) ?_
        intro b4 h13 F13 N13 lb4
        clear F12 N12
        k_steps
        unfold Hold
        rename Fr _ _ _ _ => F14
        rename News _ _ _ _ => N14
        refine hid ?_; intro KK
        (obtain ⟨sh, hsh⟩ : ∃ sh, v4 % 11 = sh := ⟨_, rfl⟩) <;> (k_unfold; clear KK)
        have hsh11 : sh < 11 := by omega
        rw [hsh] at dS
        have hp2 : 2 ^ sh ≤ 2 ^ 10 := Nat.pow_le_pow_right (by decide) (by omega)
        refine comp_listA [(s1.heap.objs.size + 1 + 1, oS)] F14 N14 (.head _) X T (by rfl) rfl (by decide) (fun p hp => ?_) rfl rfl rfl (fun i ys => Are (natKd w).is ys (([v0, v1, v2, v3].map fun v => v % 16 * 2 ^ sh).take i) ∧ i ≤ 4) (fun i ys ⟨a, b⟩ => by have := a.length; rw [List.length_take] at this; omega) ⟨trivial, by decide⟩ ?_ ?_
        · rw [List.mem_singleton.mp hp]
          exact ⟨.tail _ (.tail _ (.tail _ (.head _))), Nat.ne_of_lt (lb4 _ (.tail _ (.tail _ (.head _))))⟩
        · rintro I g' C D3 i o v ex ys3 ep3 m₁ h₁ tk₁ X' T' hg' hi zz0 zz1
          refine hid ?_; intro KK
          (rcases zz0 with ⟨hex, hv⟩) <;> (rcases zz1 with ⟨hys3, hi4⟩) <;> (k_unfold; clear KK)
          rintro ho FC NC
          replace NC : News g' C h₁ [(I, o), (b4, listOf #[.int (v0 : Int) t0, .int (v1 : Int) t1, .int (v2 : Int) t2, .int (v3 : Int) t3] 0), (D3, listOf ys3.toArray ep3), (s1.heap.objs.size + 1 + 1, oS)] := by rw [hex] at NC; exact NC
          have hav : Are (natKd w).is [.int (v0 : Int) t0, .int (v1 : Int) t1, .int (v2 : Int) t2, .int (v3 : Int) t3] [v0, v1, v2, v3] := ⟨⟨_, rfl⟩, ⟨_, rfl⟩, ⟨_, rfl⟩, ⟨_, rfl⟩, trivial⟩
          refine hid ?_; intro KK
          (obtain ⟨v', a, hv', ha, tva, rfl⟩ := hav.get (i := i) hi) <;> (k_unfold; clear KK)
          rw [hv'] at hv
          cases hv
          have hra : (([v0, v1, v2, v3].map fun v => v % 16 * 2 ^ sh))[i]? = some (a % 16 * 2 ^ sh) := by rw [List.getElem?_map, ha]; rfl
          have hi3 : i < 4 := hi
          clear F14 N14 hav
          repeat' (first | (k_unfold; (try dsimp only)) | walk1)
          unfold Hold
          refine fmod_nat (a := a) (b := 16) (by decide) (fun ta tka => ?_)
          repeat' (first | (k_unfold; (try dsimp only)) | walk1)
          unfold Hold
          refine pow_nat (a := 2) (i := sh) (by decide) (by omega) (fun tP tkP => ?_)
          have hmul : IntMulOk ((a % 16 : Nat) : Int) ((2 ^ sh : Nat) : Int) := by
            generalize 2 ^ sh = P2 at hp2 ⊢
            exact IntMulOk.of_right (PySem.intBits_le_64 (by omega) (by omega))
          repeat' (first | (k_unfold; (try dsimp only)) | walk1)
          rename Fr _ C _ _ => FD
          rename News _ C _ _ => ND
          refine' ⟨_, _, _, rfl, FD, ND, ?e1, ?e2⟩
          case e1 =>
            rw [List.take_add_one, hra]
            exact hys3.append ⟨⟨_, by rw [Int.natCast_mul]⟩, trivial⟩
          case e2 => omega
        · intro D3 ys3 ep3 h15 tk15 ⟨hys3, _⟩ F15 N15 hlt15
          replace hys3 : Are (natKd w).is ys3 [v0 % 16 * 2 ^ sh, v1 % 16 * 2 ^ sh, v2 % 16 * 2 ^ sh, v3 % 16 * 2 ^ sh] := hys3
          refine hid ?_; intro KK
          (obtain ⟨q0, q1, q2, q3, rfl⟩ := are_four hys3) <;> (k_unfold; clear KK)
          have hrows : ∀ i b, [v0, v1, v2, v3][i]? = some b → ([v0, v1, v2, v3].map fun v => v % 16 * 2 ^ sh)[i]? = some (b % 16 * 2 ^ sh) ∧ ([v0, v1, v2, v3].map fun v => wrTo (words (v % 16 * 2 ^ sh)) (v / 16) (words (v % 16 * 2 ^ sh)).length)[i]? = some (wrTo (words (b % 16 * 2 ^ sh)) (b / 16) (words (b % 16 * 2 ^ sh)).length) := fun i b e => by
            rw [List.getElem?_map, List.getElem?_map, e]; exact ⟨rfl, rfl⟩
          rw [show ([v0, v1, v2, v3].map fun v => v % 16 * 2 ^ sh) = [v0 % 16 * 2 ^ sh, v1 % 16 * 2 ^ sh, v2 % 16 * 2 ^ sh, v3 % 16 * 2 ^ sh] from rfl, show ([v0, v1, v2, v3].map fun v => wrTo (words (v % 16 * 2 ^ sh)) (v / 16) (words (v % 16 * 2 ^ sh)).length) = [wrTo (words (v0 % 16 * 2 ^ sh)) (v0 / 16) (words (v0 % 16 * 2 ^ sh)).length, wrTo (words (v1 % 16 * 2 ^ sh)) (v1 / 16) (words (v1 % 16 * 2 ^ sh)).length, wrTo (words (v2 % 16 * 2 ^ sh)) (v2 / 16) (words (v2 % 16 * 2 ^ sh)).length, wrTo (words (v3 % 16 * 2 ^ sh)) (v3 / 16) (words (v3 % 16 * 2 ^ sh)).length] from rfl] at hrows
          refine hid ?_; intro KK
          (obtain ⟨X0, hX0⟩ : ∃ X, wrTo (words (v0 % 16 * 2 ^ sh)) (v0 / 16) (words (v0 % 16 * 2 ^ sh)).length = X := ⟨_, rfl⟩) <;> (k_unfold; clear KK)
          refine hid ?_; intro KK
          (obtain ⟨X1, hX1⟩ : ∃ X, wrTo (words (v1 % 16 * 2 ^ sh)) (v1 / 16) (words (v1 % 16 * 2 ^ sh)).length = X := ⟨_, rfl⟩) <;> (k_unfold; clear KK)
          refine hid ?_; intro KK
          (obtain ⟨X2, hX2⟩ : ∃ X, wrTo (words (v2 % 16 * 2 ^ sh)) (v2 / 16) (words (v2 % 16 * 2 ^ sh)).length = X := ⟨_, rfl⟩) <;> (k_unfold; clear KK)
          refine hid ?_; intro KK
          (obtain ⟨X3, hX3⟩ : ∃ X, wrTo (words (v3 % 16 * 2 ^ sh)) (v3 / 16) (words (v3 % 16 * 2 ^ sh)).length = X := ⟨_, rfl⟩) <;> (k_unfold; clear KK)
          rw [hX0, hX1, hX2, hX3] at hrows
          have y0 := row_all (num := v0 / 16) hsh11 (Nat.mod_lt v0 (by decide : 0 < 16))
          have y1 := row_all (num := v1 / 16) hsh11 (Nat.mod_lt v1 (by decide : 0 < 16))
          have y2 := row_all (num := v2 / 16) hsh11 (Nat.mod_lt v2 (by decide : 0 < 16))
          have y3 := row_all (num := v3 / 16) hsh11 (Nat.mod_lt v3 (by decide : 0 < 16))
          refine hid ?_; intro KK
          (obtain ⟨Y0, y0⟩ : ∃ Y, RowOk sh (v0 % 16) (v0 / 16) Y := ⟨_, y0⟩) <;> (k_unfold; clear KK)
          refine hid ?_; intro KK
          (obtain ⟨Y1, y1⟩ : ∃ Y, RowOk sh (v1 % 16) (v1 / 16) Y := ⟨_, y1⟩) <;> (k_unfold; clear KK)
          refine hid ?_; intro KK
          (obtain ⟨Y2, y2⟩ : ∃ Y, RowOk sh (v2 % 16) (v2 / 16) Y := ⟨_, y2⟩) <;> (k_unfold; clear KK)
          refine hid ?_; intro KK
          (obtain ⟨Y3, y3⟩ : ∃ Y, RowOk sh (v3 % 16) (v3 / 16) Y := ⟨_, y3⟩) <;> (k_unfold; clear KK)
          refine hid ?_; intro KK
          (obtain ⟨hsg, htl, ⟨xl0, xl1, xl2, xl3⟩, hct⟩ := four_text y0 y1 y2 y3 hX0 hX1 hX2 hX3) <;> (k_unfold; clear KK)
          refine hid ?_; intro KK
          (obtain ⟨r0, hr0⟩ : ∃ r, v0 % 16 * 2 ^ sh = r := ⟨_, rfl⟩) <;> (k_unfold; clear KK)
          refine hid ?_; intro KK
          (obtain ⟨r1, hr1⟩ : ∃ r, v1 % 16 * 2 ^ sh = r := ⟨_, rfl⟩) <;> (k_unfold; clear KK)
          refine hid ?_; intro KK
          (obtain ⟨r2, hr2⟩ : ∃ r, v2 % 16 * 2 ^ sh = r := ⟨_, rfl⟩) <;> (k_unfold; clear KK)
          refine hid ?_; intro KK
          (obtain ⟨r3, hr3⟩ : ∃ r, v3 % 16 * 2 ^ sh = r := ⟨_, rfl⟩) <;> (k_unfold; clear KK)
          rw [hr0, hr1, hr2, hr3] at hrows N15
          refine hid ?_; intro KK
          (obtain ⟨x, hx⟩ : ∃ x : Int, ((v4 / 11 % 9 : Nat) : Int) - 4 = x := ⟨_, rfl⟩) <;> (k_unfold; clear KK)
          refine hid ?_; intro KK
          (obtain ⟨y, hy⟩ : ∃ y : Int, ((v5 % 9 : Nat) : Int) - 4 = y := ⟨_, rfl⟩) <;> (k_unfold; clear KK)
          have hxb : -10 ≤ x ∧ x ≤ 10 := by omega
          have hyb : -10 ≤ y ∧ y ≤ 10 := by omega
          have F16 := Fr.know F15 [(Str.ofString "rows", .ref D3), (Str.ofString "heaps", .ref D2), (Str.ofString "x", .int x _), (Str.ofString "y", .int y _)] (by
            intro p hp
            simp only [List.mem_cons, List.not_mem_nil, or_false] at hp
            refine hid ?_; intro KK
            (rcases hp with rfl | rfl | rfl | rfl) <;> (k_unfold; clear KK)
            · rfl
            · rfl
            · rw [← hx]; rfl
            · rw [← hy]; rfl)
          have N16 : News (ghostOf s1.heap [(88, 84)]) s1.heap.objs.size h15 [(D3, listOf #[.int (r0 : Int) q0, .int (r1 : Int) q1, .int (r2 : Int) q2, .int (r3 : Int) q3] ep3), (D2, listOf #[.int (v0 : Int) t0, .int (v1 : Int) t1, .int (v2 : Int) t2, .int (v3 : Int) t3, .int (v4 : Int) t4, .int (v5 : Int) t5] ep2), (s1.heap.objs.size + 3, w3), (s1.heap.objs.size + 4, w4), (84, tabObj #[])] := fun p hp => N15 p (by
            simp only [List.mem_cons, List.not_mem_nil, or_false] at hp
            refine hid ?_; intro KK
            (rcases hp with rfl | rfl | rfl | rfl | rfl) <;> (k_unfold; clear KK)
            · exact .head _
            · exact .tail _ (.tail _ (.tail _ (.head _)))
            · exact .tail _ (.tail _ (.tail _ (.tail _ (.tail _ (.head _)))))
            · exact .tail _ (.tail _ (.tail _ (.tail _ (.tail _ (.tail _ (.head _))))))
            · exact .tail _ (.tail _ (.tail _ (.tail _ (.tail _ (.tail _ (.tail _ (.head _))))))))
          have hlt16 : s1.heap.objs.size + 4 < D3 := hlt15 _ (.tail _ (.tail _ (.tail _ (.tail _ (.tail _ (.head _))))))
          have h84D : 84 < D3 := Nat.lt_trans l0 (Nat.lt_of_le_of_lt (Nat.le_add_right _ 4) hlt16)
          clear F15 N15 F14 N14 hlt15 hys3 lb4
          first | (refine fold_F ?_; intro qk) | k_fold | skip
          k_steps
          unfold Hold
          refine comp_eval (cl := []) (closureFor_none (by decide)) rfl (by decide) ?_ (fun _ => rfl)
          k_steps
          unfold Hold
          rename Fr _ _ _ _ => F17
          rename News _ _ _ _ => N17
          refine zip_start (xs := [.int (r0 : Int) q0, .int (r1 : Int) q1, .int (r2 : Int) q2, .int (r3 : Int) q3]) (ys := [.int (v0 : Int) t0, .int (v1 : Int) t1, .int (v2 : Int) t2, .int (v3 : Int) t3, .int (v4 : Int) t4, .int (v5 : Int) t5]) F17 N17 (.head _) (.tail _ (.head _)) fun z TI TO i1 i2 p1 p2 h18 F18 N18 hp1 hp2' hD hlt18 => ?_
          clear F17 N17
          k_steps
          unfold Hold
          refine comp_zipE F18 N18 hp1 hp2' hD hlt18 (.head _) (.tail _ (.head _)) (Nat.le_of_ble_eq_true rfl) X T (by rfl) rfl (by decide) (fun i ys => StrsAre ys ([X0, X1, X2, X3].take i) ∧ i ≤ 4) (fun i ys ⟨a, b⟩ => by have := a.length; rw [List.length_take] at this; omega) ⟨.nil, by decide⟩ ?_ ?_
          · rintro g' C D4 i c v ex ys4 ep4 m₁ h₁ tk₁ X' T' hg' hi zz0 zz1
            refine hid ?_; intro KK
            (rcases zz0 with ⟨TT, xv, yv, rfl, hxv, hyv, hex⟩) <;> (rcases zz1 with ⟨hys4, hi4⟩) <;> (k_unfold; clear KK)
            rintro ho FC NC
            have hav : Are (natKd w).is [.int (r0 : Int) q0, .int (r1 : Int) q1, .int (r2 : Int) q2, .int (r3 : Int) q3] [r0, r1, r2, r3] := ⟨⟨_, rfl⟩, ⟨_, rfl⟩, ⟨_, rfl⟩, ⟨_, rfl⟩, trivial⟩
            have hbv : Are (natKd w).is [.int (v0 : Int) t0, .int (v1 : Int) t1, .int (v2 : Int) t2, .int (v3 : Int) t3, .int (v4 : Int) t4, .int (v5 : Int) t5] [v0, v1, v2, v3, v4, v5] := ⟨⟨_, rfl⟩, ⟨_, rfl⟩, ⟨_, rfl⟩, ⟨_, rfl⟩, ⟨_, rfl⟩, ⟨_, rfl⟩, trivial⟩
            have hi3 : i < 4 := hi
            refine hid ?_; intro KK
            (obtain ⟨xv', a, hxv', ha, txa, rfl⟩ := hav.get (i := i) hi) <;> (k_unfold; clear KK)
            refine hid ?_; intro KK
            (obtain ⟨yv', b, hyv', hb, tyb, rfl⟩ := hbv.get (i := i) (Nat.lt_trans hi3 (show 4 < 6 by decide))) <;> (k_unfold; clear KK)
            rw [hxv'] at hxv
            rw [hyv'] at hyv
            cases hxv
            cases hyv
            have hb2 : [v0, v1, v2, v3][i]? = some b := by
              rw [← hb]
              exact (show ∀ k, k < 4 → [v0, v1, v2, v3][k]? = [v0, v1, v2, v3, v4, v5][k]? from fun k hk => match k, hk with | 0, _ => rfl | 1, _ => rfl | 2, _ => rfl | 3, _ => rfl) i hi3
            refine hid ?_; intro KK
            (obtain ⟨e1, e2⟩ := hrows i b hb2) <;> (k_unfold; clear KK)
            rw [e1] at ha
            cases ha
            have hfam : Fam sh (b % 16 * 2 ^ sh) := ⟨_, Nat.mod_lt _ (by decide), rfl⟩
            have hrow := row_all (num := b / 16) hsh11 (Nat.mod_lt b (by decide : 0 < 16))
            refine hid ?_; intro KK
            (obtain ⟨_, _, _, _, _, hpl⟩ := hfam.ok hsh11) <;> (k_unfold; clear KK)
            replace NC : News g' C h₁ ((TT, pairObj (.int ((b % 16 * 2 ^ sh : Nat) : Int) txa) (.int (b : Int) tyb)) :: (z, zipObj TI TO) :: (TI, pairObj (.ref i1) (.ref i2)) :: (TO, pairObj c.1.1 c.1.2) :: (i1, c.2.1) :: (i2, c.2.2) :: (D3, listOf #[.int (r0 : Int) q0, .int (r1 : Int) q1, .int (r2 : Int) q2, .int (r3 : Int) q3] ep3) :: (D2, listOf #[.int (v0 : Int) t0, .int (v1 : Int) t1, .int (v2 : Int) t2, .int (v3 : Int) t3, .int (v4 : Int) t4, .int (v5 : Int) t5] ep2) :: [(D4, listOf ys4.toArray ep4)]) := by rw [hex] at NC; exact NC
            clear F18 N18
            repeat' (first | (k_unfold; (try dsimp only)) | walk1)
            unfold Hold
            refine fdiv_nat (a := b) (b := 16) (by decide) (by decide) (fun tb2 tkb2 => ?_)
            repeat' (first | (k_unfold; (try dsimp only)) | walk1)
            unfold Hold
            rename Fr _ C _ _ => FD
            rename News _ C _ _ => ND
            refine use (rest := (z, zipObj TI TO) :: (TI, pairObj (.ref i1) (.ref i2)) :: (TO, pairObj c.1.1 c.1.2) :: (i1, c.2.1) :: (i2, c.2.2) :: (D3, listOf #[.int (r0 : Int) q0, .int (r1 : Int) q1, .int (r2 : Int) q2, .int (r3 : Int) q3] ep3) :: (D2, listOf #[.int (v0 : Int) t0, .int (v1 : Int) t1, .int (v2 : Int) t2, .int (v3 : Int) t3, .int (v4 : Int) t4, .int (v5 : Int) t5] ep2) :: [(D4, listOf ys4.toArray ep4)]) (writtenC w (b % 16 * 2 ^ sh) (b / 16) txa tb2 (hfam.lt hsh11) hrow.w1 hrow.w2 hpl) FD X' T' ND (by rfl) (fun _ h => nomatch h) (fun p hp => ⟨.tail _ hp, fun h => nomatch h⟩) trivial (Nat.le_of_ble_eq_true rfl) (Nat.le_of_ble_eq_true rfl) ?_
            rintro r led' h19 tk19 zz0
            refine hid ?_; intro KK
            (rcases zz0 with ⟨rfl, tw, rfl⟩) <;> (k_unfold; clear KK)
            rintro F19 N19 -
            clear FD ND
            repeat' (first | (k_unfold; (try dsimp only)) | walk1)
            refine ⟨_, _, _, rfl, F19, N19, ?_, by omega⟩
            rw [List.take_add_one, e2]
            exact kct_snoc hys4
          · intro D4 ys4 ep4 h19 tk19 ⟨hys4, _⟩ F19 N19 hlt19
            replace hys4 : StrsAre ys4 [X0, X1, X2, X3] := hys4
            have hD4 : News (ghostOf s1.heap [(88, 84)]) s1.heap.objs.size h19 [(D3, listOf #[.int (r0 : Int) q0, .int (r1 : Int) q1, .int (r2 : Int) q2, .int (r3 : Int) q3] ep3), (s1.heap.objs.size + 3, w3), (s1.heap.objs.size + 4, w4), (84, tabObj #[])] := fun p hp => N19 p (.tail _ (by
              simp only [List.mem_cons, List.not_mem_nil, or_false] at hp
              refine hid ?_; intro KK
              (rcases hp with rfl | rfl | rfl | rfl) <;> (k_unfold; clear KK)
              · exact .head _
              · exact .tail _ (.tail _ (.head _))
              · exact .tail _ (.tail _ (.tail _ (.head _)))
              · exact .tail _ (.tail _ (.tail _ (.tail _ (.head _))))))
            first | (refine fold_F ?_; intro qk) | k_fold | skip
            k_steps
            unfold Hold
            refine join_list (News.isList N19 (.head _)) hys4 (by simp only [List.map_cons, List.map_nil, List.sum_cons, List.sum_nil, List.length_cons, List.length_nil, show (Str.ofString "").length = 0 from rfl]; omega) (fun tj tkj => ?_)
            refine hid ?_; intro KK
            (obtain ⟨tx, htx⟩ : ∃ tx, Txt.join (Str.ofString "") [X0, X1, X2, X3] = tx := ⟨_, rfl⟩) <;> (k_unfold; clear KK)
            rw [htx] at hsg htl hct
            rw [htx]
            have F20 := Fr.know F19 [(Str.ofString "rows", .ref D3), (Str.ofString "x", .int x _), (Str.ofString "y", .int y _)] (by
              intro p hp
              simp only [List.mem_cons, List.not_mem_nil, or_false] at hp
              rcases hp with rfl | rfl | rfl <;> rfl)
            clear F19 N19 hlt19 hys4 hrows
            k_steps
            unfold Hold
            rename Fr _ _ _ _ => F21
            rename News _ _ _ _ => N21
            clear hp1 hp2' hD hlt18 hX0 hX1 hX2 hX3 htx xl0 xl1 xl2 xl3
            refine use (rest := [(D3, listOf #[.int (r0 : Int) q0, .int (r1 : Int) q1, .int (r2 : Int) q2, .int (r3 : Int) q3] ep3), (s1.heap.objs.size + 3, w3), (s1.heap.objs.size + 4, w4)]) (lexer w tx _ htl) F21 X T N21 (by rfl) ?_ ?_ trivial (Nat.le_of_ble_eq_true rfl) (Nat.le_of_ble_eq_true rfl) ?_
            · intro p hp
              rw [List.mem_singleton.mp hp]
              exact .tail _ (.tail _ (.tail _ (.head _)))
            · intro p hp
              simp only [List.mem_cons, List.not_mem_nil, or_false] at hp
              refine hid ?_; intro KK
              (rcases hp with rfl | rfl | rfl) <;> (k_unfold; clear KK)
              · exact ⟨.head _, fun h => absurd (List.mem_singleton.mp h) (Nat.ne_of_gt h84D)⟩
              · exact ⟨.tail _ (.head _), fun h => by have h2 : s1.heap.objs.size + 3 = 84 := List.mem_singleton.mp h; omega⟩
              · exact ⟨.tail _ (.tail _ (.head _)), fun h => by have h2 : s1.heap.objs.size + 4 = 84 := List.mem_singleton.mp h; omega⟩
            · rintro r led' h22 tk22 zz0
              refine hid ?_; intro KK
              (rcases zz0 with ⟨n, its, tkl, rfl, rfl, hO, hits⟩) <;> (k_unfold; clear KK)
              rintro F22 N22 hfr
              have hA1 : ∀ a ∈ n.addrs, a ≠ D3 ∧ a ≠ s1.heap.objs.size + 3 ∧ a ≠ s1.heap.objs.size + 4 := by
                intro a ha
                refine hid ?_; intro KK
                (obtain ⟨q, hq, e⟩ := led_addr (w := w) (k := 1) (tk := tkl) (pv := []) (its := its) (pe := 0) (se := 0) ha) <;> (k_unfold; clear KK)
                refine hid ?_; intro KK
                (rcases hfr q hq with h | h) <;> (k_unfold; clear KK)
                · rw [e] at h
                  replace h : a = 84 := List.mem_singleton.mp h
                  rw [h]
                  exact ⟨Nat.ne_of_lt h84D, by show ¬ 84 = s1.heap.objs.size + 3; omega, by show ¬ 84 = s1.heap.objs.size + 4; omega⟩
                · rw [e] at h
                  exact ⟨Ne.symm (h (D3, _) (.head _)), Ne.symm (h (s1.heap.objs.size + 3, w3) (.tail _ (.head _))), Ne.symm (h (s1.heap.objs.size + 4, w4) (.tail _ (.tail _ (.head _))))⟩
              clear F21 N21 hfr
              have hLay : Lay its ([Y0, Y1, Y2, Y3].flatMap wchars) := by
                refine ⟨hsg ▸ hits, ?_⟩
                have := hits.length
                rw [List.length_reverse, signs_len] at this
                omega
              have hYs : ∀ r ∈ [Y0, Y1, Y2, Y3], r ≠ [] ∧ r.length ≤ 100 ∧ RowT r := by
                intro r hr
                simp only [List.mem_cons, List.not_mem_nil, or_false] at hr
                refine hid ?_; intro KK
                (rcases hr with rfl | rfl | rfl | rfl) <;> (k_unfold; clear KK)
                · exact ⟨y0.ne, y0.len, y0.ok⟩
                · exact ⟨y1.ne, y1.len, y1.ok⟩
                · exact ⟨y2.ne, y2.len, y2.ok⟩
                · exact ⟨y3.ne, y3.len, y3.ok⟩
              have N23 : News (ghostOf s1.heap [(88, 84)]) s1.heap.objs.size h22 ((D3, listOf #[.int (r0 : Int) q0, .int (r1 : Int) q1, .int (r2 : Int) q2, .int (r3 : Int) q3] ep3) :: (s1.heap.objs.size + 3, w3) :: (s1.heap.objs.size + 4, w4) :: n.led w 1 tkl [] 0 its 0) := fun p hp => N22 p (by
                refine hid ?_; intro KK
                (rcases List.mem_cons.mp hp with rfl | hp) <;> (k_unfold; clear KK)
                · exact List.mem_append_right _ (.head _)
                · refine hid ?_; intro KK
                  (rcases List.mem_cons.mp hp with rfl | hp) <;> (k_unfold; clear KK)
                  · exact List.mem_append_right _ (.tail _ (.head _))
                  · refine hid ?_; intro KK
                    (rcases List.mem_cons.mp hp with rfl | hp) <;> (k_unfold; clear KK)
                    · exact List.mem_append_right _ (.tail _ (.tail _ (.head _)))
                    · exact List.mem_append_left _ hp)
              clear N22
              first | (refine fold_F ?_; intro qk) | k_fold | skip
              k_steps
              unfold Hold
              rename Fr _ _ _ _ => F24
              rename News _ _ _ _ => N24
              refine use (rest := [(D3, listOf #[.int (r0 : Int) q0, .int (r1 : Int) q1, .int (r2 : Int) q2, .int (r3 : Int) q3] ep3), (s1.heap.objs.size + 3, w3), (s1.heap.objs.size + 4, w4)]) (readC w n 1 tkl 0 its 0 _ [Y0, Y1, Y2, Y3] hO rfl hLay hYs) F24 X T N24 (by rfl) ?_ ?_ trivial (Nat.le_of_ble_eq_true rfl) (Nat.le_of_ble_eq_true rfl) ?_
              · intro p hp
                exact .tail _ (.tail _ (.tail _ hp))
              · intro p hp
                simp only [List.mem_cons, List.not_mem_nil, or_false] at hp
                refine hid ?_; intro KK
                (rcases hp with rfl | rfl | rfl) <;> (k_unfold; clear KK)
                · exact ⟨.head _, fun h => (hA1 _ h).1 rfl⟩
                · exact ⟨.tail _ (.head _), fun h => (hA1 _ h).2.1 rfl⟩
                · exact ⟨.tail _ (.tail _ (.head _)), fun h => (hA1 _ h).2.2 rfl⟩
              · rintro r led' h25 tk25 zz0
                refine hid ?_; intro KK
                (rcases zz0 with ⟨T5, cd, nl, od, nmV, e5, ls, tk6, its6, se6, rfl, rfl, hS, hLay6, hT5⟩) <;> (k_unfold; clear KK)
                rintro F25 N25 hfr5
                refine hid ?_; intro KK
                (obtain ⟨k6, hk6⟩ : ∃ k6, 1 + nlAt [Y0, Y1, Y2, Y3] 4 = k6 := ⟨_, rfl⟩) <;> (k_unfold; clear KK)
                rw [hk6] at N25 hT5 hfr5
                have hB : ∀ p ∈ (T5, ({ cls := .type "tuple", data := .seq #[.ref nl, .ref cd] } : Obj)) :: RdS.news w n cd nl od nmV e5 ls k6 tk6 0 its6 se6, p.1 ≠ D3 ∧ p.1 ≠ s1.heap.objs.size + 3 ∧ p.1 ≠ s1.heap.objs.size + 4 := by
                  intro p hp
                  refine hid ?_; intro KK
                  (rcases hfr5 p hp with h | h) <;> (k_unfold; clear KK)
                  · exact hA1 _ h
                  · exact ⟨Ne.symm (h (D3, _) (.head _)), Ne.symm (h (s1.heap.objs.size + 3, w3) (.tail _ (.head _))), Ne.symm (h (s1.heap.objs.size + 4, w4) (.tail _ (.tail _ (.head _))))⟩
                have N26 : News (ghostOf s1.heap [(88, 84)]) s1.heap.objs.size h25 ((T5, { cls := .type "tuple", data := .seq #[.ref nl, .ref cd] }) :: (s1.heap.objs.size + 3, w3) :: (s1.heap.objs.size + 4, w4) :: (D3, listOf #[.int (r0 : Int) q0, .int (r1 : Int) q1, .int (r2 : Int) q2, .int (r3 : Int) q3] ep3) :: RdS.news w n cd nl od nmV e5 ls k6 tk6 0 its6 se6) := fun p hp => N25 p (by
                  refine hid ?_; intro KK
                  (rcases List.mem_cons.mp hp with rfl | hp) <;> (k_unfold; clear KK)
                  · exact .head _
                  · refine hid ?_; intro KK
                    (rcases List.mem_cons.mp hp with rfl | hp) <;> (k_unfold; clear KK)
                    · exact .tail _ (List.mem_append_right _ (.tail _ (.head _)))
                    · refine hid ?_; intro KK
                      (rcases List.mem_cons.mp hp with rfl | hp) <;> (k_unfold; clear KK)
                      · exact .tail _ (List.mem_append_right _ (.tail _ (.tail _ (.head _))))
                      · refine hid ?_; intro KK
                        (rcases List.mem_cons.mp hp with rfl | hp) <;> (k_unfold; clear KK)
                        · exact .tail _ (List.mem_append_right _ (.head _))
                        · exact .tail _ (List.mem_append_left _ hp))
                clear N25 F24 N24 hfr5
                first | (refine fold_F ?_; intro qk) | k_fold | skip
                k_steps
                rename Fr _ _ _ _ => F27
                rename News _ _ _ _ => N27
                refine storeZ_C ((s1.heap.objs.size + 4, w4) :: (D3, listOf #[.int (r0 : Int) q0, .int (r1 : Int) q1, .int (r2 : Int) q2, .int (r3 : Int) q3] ep3) :: RdS.news w n cd nl od nmV e5 ls k6 tk6 0 its6 se6) F27 N27 rfl rfl (c := s1.heap.objs.size + 3) rfl (.tail _ (.head _)) c3 ?_ ?_
                · intro p hp
                  refine hid ?_; intro KK
                  (rcases List.mem_cons.mp hp with rfl | hp) <;> (k_unfold; clear KK)
                  · exact ⟨.tail _ (.tail _ (.head _)), by show ¬ s1.heap.objs.size + 4 = s1.heap.objs.size + 3; omega⟩
                  · refine hid ?_; intro KK
                    (rcases List.mem_cons.mp hp with rfl | hp) <;> (k_unfold; clear KK)
                    · exact ⟨.tail _ (.tail _ (.tail _ (.head _))), Nat.ne_of_gt (Nat.lt_trans (Nat.lt_succ_self _) hlt16)⟩
                    · exact ⟨.tail _ (.tail _ (.tail _ (.tail _ hp))), (hB p (.tail _ hp)).2.1⟩
                · intro h28 oN F28 N28 dN
                  clear F27 N27
                  k_steps
                  rename Fr _ _ _ _ => F29
                  rename News _ _ _ _ => N29
                  refine storeZ_C ((s1.heap.objs.size + 3, oN) :: (D3, listOf #[.int (r0 : Int) q0, .int (r1 : Int) q1, .int (r2 : Int) q2, .int (r3 : Int) q3] ep3) :: RdS.news w n cd nl od nmV e5 ls k6 tk6 0 its6 se6) F29 N29 rfl rfl (c := s1.heap.objs.size + 4) rfl (.tail _ (.head _)) c4 ?_ ?_
                  · intro p hp
                    refine hid ?_; intro KK
                    (rcases List.mem_cons.mp hp with rfl | hp) <;> (k_unfold; clear KK)
                    · exact ⟨.head _, by show ¬ s1.heap.objs.size + 3 = s1.heap.objs.size + 4; omega⟩
                    · refine hid ?_; intro KK
                      (rcases List.mem_cons.mp hp with rfl | hp) <;> (k_unfold; clear KK)
                      · exact ⟨.tail _ (.tail _ (.head _)), Nat.ne_of_gt hlt16⟩
                      · exact ⟨.tail _ (.tail _ (.tail _ hp)), (hB p (.tail _ hp)).2.2⟩
                  · intro h30 oC F30 N30 dC
                    clear F29 N29
                    obtain ⟨m31, txx, tyy, F31⟩ : ∃ (m : Str → Option Value) (txx tyy : Tok), Fr (ghostOf s1.heap [(88, 84)]) s1.heap.objs.size h30 (fun y_1 => match List.lookup y_1 [(Str.ofString "rows", .ref D3), (Str.ofString "x", .int x txx), (Str.ofString "y", .int y tyy), (Str.ofString "line", .ref n.ln), (Str.ofString "text", .str tx tj)] with | some v => some v | none => m y_1) := ⟨_, _, _, Fr.know F30 [(Str.ofString "rows", .ref D3), (Str.ofString "x", .int x _), (Str.ofString "y", .int y _), (Str.ofString "line", .ref n.ln), (Str.ofString "text", .str tx _)] (by
                      intro p hp
                      simp only [List.mem_cons, List.not_mem_nil, or_false] at hp
                      rcases hp with rfl | rfl | rfl | rfl | rfl <;> rfl)⟩
                    clear F30
                    k_steps
                    unfold Hold
                    refine or_nat (a := r0) (b := r1) fun tO1 tkO1 => ?_
                    k_steps
                    unfold Hold
                    refine or_nat (a := r0 ||| r1) (b := r2) fun tO2 tkO2 => ?_
                    k_steps
                    unfold Hold
                    refine or_nat (a := r0 ||| r1 ||| r2) (b := r3) fun tO3 tkO3 => ?_
                    k_steps
                    unfold Hold
                    rename Fr _ _ _ _ => F32
                    rename News _ _ _ _ => N32
                    have hfamW : r0 ||| r1 ||| r2 ||| r3 = upW [v0 % 16, v1 % 16, v2 % 16, v3 % 16] 4 * 2 ^ sh := by
                      rw [← hr0, ← hr1, ← hr2, ← hr3, or_mul, or_mul, or_mul]
                      simp [upW]
                    refine hid ?_; intro KK
                    (obtain ⟨wh, hwh⟩ : ∃ wh, r0 ||| r1 ||| r2 ||| r3 = wh := ⟨_, rfl⟩) <;> (k_unfold; clear KK)
                    rw [hwh] at hfamW F32
                    refine hid ?_; intro KK
                    (obtain ⟨W, hW⟩ : ∃ W, upW [v0 % 16, v1 % 16, v2 % 16, v3 % 16] 4 = W := ⟨_, rfl⟩) <;> (k_unfold; clear KK)
                    have hSs : ∀ i, [v0 % 16, v1 % 16, v2 % 16, v3 % 16].getD i 0 < 16 := fun i => match i with
                      | 0 => Nat.mod_lt _ (by decide)
                      | 1 => Nat.mod_lt _ (by decide)
                      | 2 => Nat.mod_lt _ (by decide)
                      | 3 => Nat.mod_lt _ (by decide)
                      | _ + 4 => (by decide : 0 < 16)
                    have hW16 : W < 16 := hW ▸ upW_lt hSs 4
                    rw [hW] at hfamW
                    have hst := stAt_is hsh11 (rs := [Y0, Y1, Y2, Y3]) (Ss := [v0 % 16, v1 % 16, v2 % 16, v3 % 16]) 4 (fun k hk => match k, hk with
                      | 0, _ => y0.nm
                      | 1, _ => y1.nm
                      | 2, _ => y2.nm
                      | 3, _ => y3.nm
                      | _ + 4, hk => absurd hk (by omega))
                    rw [hW] at hst
                    refine hid ?_; intro KK
                    (obtain ⟨NC, hNC⟩ : ∃ NC, stAt [Y0, Y1, Y2, Y3] 4 = NC := ⟨_, rfl⟩) <;> (k_unfold; clear KK)
                    rw [hNC] at hst hS
                    refine if_false F32 N32 ?_ fun h33 tk33 F33 N33 => ?_
                    · k_steps
                      · rename (_ : Int) ≠ 0 => hb
                        have hW0 : W ≠ 0 := by rintro rfl; rw [hfamW, Nat.zero_mul] at hb; exact hb rfl
                        have hfam : Fam sh wh := ⟨W, hW16, hfamW⟩
                        refine hid ?_; intro KK
                        (obtain ⟨_, _, _, _, hpok, hpl⟩ := hfam.ok hsh11) <;> (k_unfold; clear KK)
                        have hspl : Txt.split (pflags wh) (Str.ofString ", ") = nms sh W := by rw [hfamW, spl_ok sh hsh11 W hW16]; exact if_neg hW0
                        unfold Hold
                        rename Fr _ _ _ _ => F34
                        rename News _ _ _ _ => N34
                        refine use (flagsC w wh _ (hfam.lt hsh11)) F34 X T N34 (by rfl) (fun _ h => nomatch h) (fun p hp => ⟨hp, fun h => nomatch h⟩) trivial (Nat.le_of_ble_eq_true rfl) (Nat.le_of_ble_eq_true rfl) ?_
                        rintro r led' h35 tk35 zz0
                        refine hid ?_; intro KK
                        (rcases zz0 with ⟨rfl, tw, rfl⟩) <;> (k_unfold; clear KK)
                        rintro F35 N35 -
                        rw [List.nil_append] at N35
                        clear F34 N34
                        first | (refine fold_F ?_; intro qk) | k_fold | skip
                        k_steps
                        unfold Hold
                        rename Fr _ _ _ _ => F36
                        rename News _ _ _ _ => N36
                        refine KSpl.split1 F36 N36 (by decide +kernel) (fun D7 ll h37 tk37 hll hlv F37 N37 hlt37 => ?_) (Nat.le_trans (Nat.add_le_add_right hpl 2) (Nat.le_of_ble_eq_true rfl))
                        clear F36 N36 hlt37
                        have hlll : (strValues ll).length ≤ 4 := by
                          have h1 := hlv.length
                          rw [hll, hspl] at h1
                          have h2 := (nms0_len (h := sh) hW16).1
                          rw [nms0, if_neg hW0] at h2
                          omega
                        k_steps
                        unfold Hold
                        rename Fr _ _ _ _ => F38
                        rename News _ _ _ _ => N38
                        refine sorted_N_str F38 N38 (News.isList N38 (.head _)) hlv (by omega) fun h39 vs9 ss9 e9 F39 N39 hS9 hp9 hs9 => ?_
                        rw [hll, hspl] at hp9
                        have hss := sortedS_is hsh11 hp9 hs9
                        clear F38 N38
                        k_steps
                        unfold Hold
                        rename Fr _ _ _ _ => F40
                        rename News _ _ _ _ => N40
                        refine ne_lists (K := strKd w) (News.isList N40 (.tail _ (.tail _ (.tail _ (.tail _ (.tail _ (.tail _ (.head _)))))))) (News.isList N40 (.head _)) hS.are (strs_are hS9 (by rw [hss]; exact srt_ok hsh11)) (Nat.le_of_ble_eq_true rfl) fun c' hc' => ?_
                        have hcf : c' = false := by
                          cases c' with
                          | false => rfl
                          | true => exact absurd (hst.1.trans hss.symm) (hc'.mp rfl)
                        refine hid ?_; intro KK
                        (subst hcf) <;> (k_unfold; clear KK)
                        k_steps
                        exact ⟨rfl, _, _, rfl, F40, fun p hp => N40 p (.tail _ (.tail _ hp))⟩
                      · rename (_ : Int) = 0 => hb
                        have hW0 : W = 0 := by
                          have h1 : wh = 0 := by omega
                          rw [hfamW] at h1
                          exact (Nat.mul_eq_zero.mp h1).resolve_right (Nat.ne_of_gt (Nat.two_pow_pos sh))
                        unfold Hold
                        rename Fr _ _ _ _ => F40
                        rename News _ _ _ _ => N40
                        refine ne_lists (K := strKd w) (us := []) (ys := []) (News.isList N40 (.tail _ (.tail _ (.tail _ (.tail _ (.tail _ (.head _))))))) (News.isList N40 (.head _)) hS.are trivial (Nat.le_of_ble_eq_true rfl) fun c' hc' => ?_
                        have hcf : c' = false := by
                          cases c' with
                          | false => rfl
                          | true => exact absurd (hst.1.trans (by rw [hW0, srt_zero])) (hc'.mp rfl)
                        refine hid ?_; intro KK
                        (subst hcf) <;> (k_unfold; clear KK)
                        k_steps
                        exact ⟨rfl, _, _, rfl, F40, fun p hp => N40 p (.tail _ hp)⟩
                    · clear F32 N32
                      k_steps
                      unfold Hold
                      refine comp_assign (cl := [(Str.ofString "names", s1.heap.objs.size + 3), (Str.ofString "columns", s1.heap.objs.size + 4)]) (by with_unfolding_all rfl) (by with_unfolding_all rfl) rfl (by decide) ?_ (fun _ => rfl)
                      k_steps
                      unfold Hold
                      rename Fr _ _ _ _ => F35
                      rename News _ _ _ _ => N35
                      rename IsRange _ _ _ _ _ _ _ _ => hr4
                      refine hid ?_; intro KK
                      (obtain ⟨kvs, hdd, hcols, _⟩ := hS.kvs) <;> (k_unfold; clear KK)
                      have hst' : NC.1 = srt sh (upW [v0 % 16, v1 % 16, v2 % 16, v3 % 16] 4) := by rw [hW]; exact hst.1
                      have hcne := col_ne hsh11 hst' hst.2
                      have hn4 : NC.1.length ≤ 4 := by rw [hst']; exact srt_len hsh11
                      have hBn := hB (nl, listOf nmV.toArray e5) (.tail _ (.tail _ (.head _)))
                      refine told1 F35 N35 hr4 (.tail _ (.tail _ (.tail _ (.tail _ (.head _))))) (.tail _ (.head _)) (.head _) (.tail _ (.tail _ (.tail _ (.head _)))) (fun p hp => .tail _ (.tail _ (.tail _ (.tail _ (.tail _ (List.mem_append_right _ hp)))))) dN dC ?_ hdd hcols hS.are hcne hn4 X T (by rfl) rfl (by decide) rfl rfl rfl rfl (fun _ => rfl) (fun _ => rfl) (fun _ => rfl) (fun _ => rfl) rfl rfl (fun _ => rfl) fun D5 ys5 ep5 ts5 h37 tk37 hT5q F37 N37 hlt5 => ?_
                      · intro p hp
                        refine hid ?_; intro KK
                        (rcases List.mem_cons.mp hp with rfl | hp) <;> (k_unfold; clear KK)
                        · exact Ne.symm hBn.2.1
                        · refine hid ?_; intro KK
                          (rcases List.mem_cons.mp hp with rfl | hp) <;> (k_unfold; clear KK)
                          · exact Ne.symm hBn.2.2
                          · refine hid ?_; intro KK
                            (rcases List.mem_cons.mp hp with rfl | hp) <;> (k_unfold; clear KK)
                            · exact hS.d1
                            · exact (hS.d3 p hp).2.1
                      · clear F35 N35
                        have N38 : News (ghostOf s1.heap [(88, 84)]) s1.heap.objs.size h37 ((D5, listOf ys5.toArray ep5) :: (s1.heap.objs.size + 4, oC) :: (s1.heap.objs.size + 3, oN) :: (D3, listOf #[.int (r0 : Int) q0, .int (r1 : Int) q1, .int (r2 : Int) q2, .int (r3 : Int) q3] ep3) :: (cd, od) :: (nl, listOf nmV.toArray e5) :: ((n.led w k6 tk6 [] 0 its6 se6 ++ ls) ++ ts5)) := fun p hp => N37 p (by
                          refine hid ?_; intro KK
                          (rcases List.mem_cons.mp hp with rfl | hp) <;> (k_unfold; clear KK)
                          · exact .head _
                          · refine .tail _ ?_
                            rw [show (s1.heap.objs.size + 4, oC) :: (s1.heap.objs.size + 3, oN) :: (D3, listOf #[.int (r0 : Int) q0, .int (r1 : Int) q1, .int (r2 : Int) q2, .int (r3 : Int) q3] ep3) :: (cd, od) :: (nl, listOf nmV.toArray e5) :: ((n.led w k6 tk6 [] 0 its6 se6 ++ ls) ++ ts5) = ((s1.heap.objs.size + 4, oC) :: (s1.heap.objs.size + 3, oN) :: (D3, listOf #[.int (r0 : Int) q0, .int (r1 : Int) q1, .int (r2 : Int) q2, .int (r3 : Int) q3] ep3) :: RdS.news w n cd nl od nmV e5 ls k6 tk6 0 its6 se6) ++ ts5 from rfl] at hp
                            exact (List.mem_append.mp hp).elim (fun h => List.mem_append_right _ h) fun h => List.mem_append_left _ h)
                        clear N37
                        k_steps
                        unfold Hold
                        rename Fr _ _ _ _ => F39
                        rename News _ _ _ _ => N39
                        refine if_false F39 N39 ?_ fun h50 tk50 F50 N50 => ?_
                        · k_steps
                          unfold Hold
                          refine comp_eval (cl := []) (closureFor_none (by decide)) rfl (by decide) ?_ (fun _ => rfl)
                          k_steps
                          unfold Hold
                          rename Fr _ _ _ _ => F41
                          rename News _ _ _ _ => N41
                          refine enum_start F41 N41 (.tail _ (.tail _ (.tail _ (.head _)))) fun e2 it2 oI h42 F42 N42 hoI hie2 hne2 => ?_
                          clear F41 N41
                          k_steps
                          unfold Hold
                          rename Fr _ _ _ _ => F43
                          rename News _ _ _ _ => N43
                          have havR : Are (natKd w).is [.int (r0 : Int) q0, .int (r1 : Int) q1, .int (r2 : Int) q2, .int (r3 : Int) q3] ([v0 % 16, v1 % 16, v2 % 16, v3 % 16].map (· * 2 ^ sh)) := by
                            rw [← hr0, ← hr1, ← hr2, ← hr3]
                            exact ⟨⟨_, rfl⟩, ⟨_, rfl⟩, ⟨_, rfl⟩, ⟨_, rfl⟩, trivial⟩
                          refine told2 (Ss := [v0 % 16, v1 % 16, v2 % 16, v3 % 16]) (sh := sh) F43 N43 hoI hie2 hne2 (.tail _ (.tail _ (.tail _ (.head _)))) havR hSs rfl hsh11 X T (by rfl) (Nat.le_of_ble_eq_true rfl) (Nat.le_of_ble_eq_true rfl) rfl (by decide) rfl rfl rfl (fun _ => rfl) (fun _ => rfl) (fun _ => rfl) (fun _ => rfl) (fun _ => rfl) (fun _ => rfl) fun D6 ys6 ep6 ts6 h44 tk44 hT6 F44 N44 hlt6 => ?_
                          clear F43 N43
                          have hT5' := hT5q
                          rw [told_eq hsh11 hst' hst.2 4 (Nat.le_refl _)] at hT5'
                          k_steps
                          unfold Hold
                          refine told_ne (ts1 := ts5) (ts2 := ts6) N44 (.tail _ (List.mem_append_right _ (.head _))) (.head _) (fun p hp => .tail _ (List.mem_append_right _ (.tail _ (.tail _ (.tail _ (.tail _ (.tail _ (.tail _ (List.mem_append_right _ hp))))))))) (fun p hp => .tail _ (List.mem_append_left _ hp)) hT5' hT6 (Nat.le_of_ble_eq_true rfl) ?_
                          k_steps
                          exact ⟨rfl, _, _, rfl, F44, fun p hp => N44 p (.tail _ (List.mem_append_right _ hp))⟩
                        · clear F39 N39
                          k_steps
                          unfold Hold
                          rename Fr _ _ _ _ => F51
                          rename News _ _ _ _ => N51
                          refine if_falseL F51 (fun pe => (s1.heap.objs.size + 4, oC) :: (s1.heap.objs.size + 3, oN) :: (D3, listOf #[.int (r0 : Int) q0, .int (r1 : Int) q1, .int (r2 : Int) q2, .int (r3 : Int) q3] ep3) :: (nl, listOf nmV.toArray e5) :: n.led w k6 tk6 [] pe its6 se6) ?_ fun pe8 h60 tk60 F60 N60 => ?_
                          · k_steps
                            try unfold Hold
                            rename Fr _ _ _ _ => F52
                            rename News _ _ _ _ => N52
                            have hcs := cols_is hsh11 hst' hst.2
                            have hsl : ((srtJ sh (upW [v0 % 16, v1 % 16, v2 % 16, v3 % 16] 4)).map (colm [v0 % 16, v1 % 16, v2 % 16, v3 % 16])).length ≤ 4 := by
                              have := congrArg List.length hcs
                              simp only [List.length_map] at this ⊢
                              omega
                            refine use (rest := [(s1.heap.objs.size + 4, oC), (s1.heap.objs.size + 3, oN), (D3, listOf #[.int (r0 : Int) q0, .int (r1 : Int) q1, .int (r2 : Int) q2, .int (r3 : Int) q3] ep3)]) (namesC w n k6 tk6 0 its6 se6 nl cd od nmV e5 ls NC ((srtJ sh (upW [v0 % 16, v1 % 16, v2 % 16, v3 % 16] 4)).map (colm [v0 % 16, v1 % 16, v2 % 16, v3 % 16])) x y _ _ hO hS hcs hcne (fun c hc => by obtain ⟨j, _, rfl⟩ := List.mem_map.mp hc; exact colm_lt _ j) hsl hxb hyb) F52 X T N52 (by rfl) ?_ ?_ trivial (Nat.le_of_ble_eq_true rfl) (Nat.le_of_ble_eq_true rfl) ?_
                            · intro p hp
                              refine hid ?_; intro KK
                              (rcases List.mem_cons.mp hp with rfl | hp) <;> (k_unfold; clear KK)
                              · exact .tail _ (.tail _ (.tail _ (.tail _ (.head _))))
                              · refine hid ?_; intro KK
                                (rcases List.mem_cons.mp hp with rfl | hp) <;> (k_unfold; clear KK)
                                · exact .tail _ (.tail _ (.tail _ (.tail _ (.tail _ (.head _)))))
                                · exact .tail _ (.tail _ (.tail _ (.tail _ (.tail _ (.tail _ (List.mem_append_left ts5 hp))))))
                            · have hBq : ∀ a ∈ (RdS.news w n cd nl od nmV e5 ls k6 tk6 0 its6 se6).map (·.1), a ≠ D3 ∧ a ≠ s1.heap.objs.size + 3 ∧ a ≠ s1.heap.objs.size + 4 := by
                                intro a ha
                                refine hid ?_; intro KK
                                (obtain ⟨q, hq, e⟩ := List.mem_map.mp ha) <;> (k_unfold; clear KK)
                                exact e ▸ hB q (.tail _ hq)
                              intro p hp
                              simp only [List.mem_cons, List.not_mem_nil, or_false] at hp
                              refine hid ?_; intro KK
                              (rcases hp with rfl | rfl | rfl) <;> (k_unfold; clear KK)
                              · exact ⟨.tail _ (.head _), fun h => (hBq _ h).2.2 rfl⟩
                              · exact ⟨.tail _ (.tail _ (.head _)), fun h => (hBq _ h).2.1 rfl⟩
                              · exact ⟨.tail _ (.tail _ (.tail _ (.head _))), fun h => (hBq _ h).1 rfl⟩
                            · rintro r led' h53 tk53 zz0
                              refine hid ?_; intro KK
                              (rcases zz0 with ⟨T7, t71, t72, pe7, rfl, rfl⟩) <;> (k_unfold; clear KK)
                              rintro F53 N53 hfr7
                              refine hid ?_; intro KK
                              (obtain ⟨a7, hA7⟩ : ∃ a, nmTot x (nmQ y ((srtJ sh (upW [v0 % 16, v1 % 16, v2 % 16, v3 % 16] 4)).map (colm [v0 % 16, v1 % 16, v2 % 16, v3 % 16])) [(1, 0)]) = a := ⟨_, rfl⟩) <;> (k_unfold; clear KK)
                              refine hid ?_; intro KK
                              (obtain ⟨b7, hB7⟩ : ∃ b, (nmUni (nmQ y ((srtJ sh (upW [v0 % 16, v1 % 16, v2 % 16, v3 % 16] 4)).map (colm [v0 % 16, v1 % 16, v2 % 16, v3 % 16])) [(1, 0)])).length = b := ⟨_, rfl⟩) <;> (k_unfold; clear KK)
                              rw [hA7, hB7] at N53 hfr7
                              have hT7 : T7 ≠ D3 := by
                                refine hid ?_; intro KK
                                (rcases hfr7 _ (.head _) with h | h) <;> (k_unfold; clear KK)
                                · refine hid ?_; intro KK
                                  (obtain ⟨q, hq, e⟩ := List.mem_map.mp h) <;> (k_unfold; clear KK)
                                  exact fun e2 => (hB q (.tail _ hq)).1 (e.trans e2)
                                · exact Ne.symm (h (D3, _) (.tail _ (.tail _ (.tail _ (.head _)))))
                              have N54 : News (ghostOf s1.heap [(88, 84)]) s1.heap.objs.size h53 ((T7, { cls := .type "tuple", data := .seq #[.int a7 t71, .int (b7 : Int) t72] }) :: (D3, listOf #[.int (r0 : Int) q0, .int (r1 : Int) q1, .int (r2 : Int) q2, .int (r3 : Int) q3] ep3) :: (s1.heap.objs.size + 4, oC) :: (s1.heap.objs.size + 3, oN) :: (nl, listOf nmV.toArray e5) :: n.led w k6 tk6 [] pe7 its6 se6) := fun p hp => N53 p (by
                                refine hid ?_; intro KK
                                (rcases List.mem_cons.mp hp with rfl | hp) <;> (k_unfold; clear KK)
                                · exact .head _
                                · refine hid ?_; intro KK
                                  (rcases List.mem_cons.mp hp with rfl | hp) <;> (k_unfold; clear KK)
                                  · exact List.mem_append_right _ (.tail _ (.tail _ (.head _)))
                                  · refine hid ?_; intro KK
                                    (rcases List.mem_cons.mp hp with rfl | hp) <;> (k_unfold; clear KK)
                                    · exact List.mem_append_right _ (.head _)
                                    · refine hid ?_; intro KK
                                      (rcases List.mem_cons.mp hp with rfl | hp) <;> (k_unfold; clear KK)
                                      · exact List.mem_append_right _ (.tail _ (.head _))
                                      · exact List.mem_append_left _ (.tail _ hp))
                              clear F52 N52 N53 hfr7
                              repeat' (first | (k_unfold; (try dsimp only)) | walk1)
                              try unfold Hold
                              have hnl : nmV.length = NC.1.length := hS.are.length
                              refine PyProof.Rows.len_list (News.isList N54 (.tail _ (.tail _ (.tail _ (.tail _ (.head _)))))) (by rw [List.size_toArray]; omega) ?_
                              rw [show nmV.toArray.size = NC.1.length from by rw [List.size_toArray]; exact hnl]
                              repeat' (first | (k_unfold; (try dsimp only)) | walk1)
                              try unfold Hold
                              rename Fr _ _ _ _ => F55
                              have hsrtl : NC.1.length = (srtJ sh (upW [v0 % 16, v1 % 16, v2 % 16, v3 % 16] 4)).length := by rw [hst', srt, List.length_map]
                              have havR : Are (natKd w).is [.int (r0 : Int) q0, .int (r1 : Int) q1, .int (r2 : Int) q2, .int (r3 : Int) q3] ([v0 % 16, v1 % 16, v2 % 16, v3 % 16].map (· * 2 ^ sh)) := by
                                rw [← hr0, ← hr1, ← hr2, ← hr3]
                                exact ⟨⟨_, rfl⟩, ⟨_, rfl⟩, ⟨_, rfl⟩, ⟨_, rfl⟩, trivial⟩
                              refine use (rest := (T7, { cls := .type "tuple", data := .seq #[.int a7 t71, .int (b7 : Int) t72] }) :: (s1.heap.objs.size + 4, oC) :: (s1.heap.objs.size + 3, oN) :: (nl, listOf nmV.toArray e5) :: n.led w k6 tk6 [] pe7 its6 se6) (rowsC w D3 [.int (r0 : Int) q0, .int (r1 : Int) q1, .int (r2 : Int) q2, .int (r3 : Int) q3] ep3 sh ([v0 % 16, v1 % 16, v2 % 16, v3 % 16].map (· * 2 ^ sh)) NC.1.length _ x y _ _ hsh11 ?_ havR (Nat.le_of_ble_eq_true rfl) ?_ hn4 hxb hyb) F55 X T N54 (by rfl) ?_ ?_ trivial (Nat.le_of_ble_eq_true rfl) (Nat.le_of_ble_eq_true rfl) ?_
                              · intro u hu
                                refine hid ?_; intro KK
                                (obtain ⟨S, hS9, rfl⟩ := List.mem_map.mp hu) <;> (k_unfold; clear KK)
                                have h16 : S < 16 := by
                                  simp only [List.mem_cons, List.not_mem_nil, or_false] at hS9
                                  rcases hS9 with rfl | rfl | rfl | rfl <;> exact Nat.mod_lt _ (by decide)
                                exact ⟨S, h16, rfl⟩
                              · intro c _
                                have h9 := size_ok (Ss := [v0 % 16, v1 % 16, v2 % 16, v3 % 16]) hsh11 hSs x c
                                rw [← hst'] at h9
                                exact h9
                              · intro p hp
                                rw [List.mem_singleton.mp hp]
                                exact .tail _ (.head _)
                              · intro p hp
                                refine hid ?_; intro KK
                                (rcases List.mem_cons.mp hp with rfl | hp) <;> (k_unfold; clear KK)
                                · exact ⟨.head _, fun h => hT7 (List.mem_singleton.mp h)⟩
                                · refine ⟨.tail _ (.tail _ hp), fun h => ?_⟩
                                  have h : p.1 = D3 := List.mem_singleton.mp h
                                  refine hid ?_; intro KK
                                  (rcases List.mem_cons.mp hp with rfl | hp) <;> (k_unfold; clear KK)
                                  · exact absurd h (Nat.ne_of_lt hlt16)
                                  · refine hid ?_; intro KK
                                    (rcases List.mem_cons.mp hp with rfl | hp) <;> (k_unfold; clear KK)
                                    · exact absurd h (Nat.ne_of_lt (Nat.lt_trans (Nat.lt_succ_self _) hlt16))
                                    · refine hid ?_; intro KK
                                      (rcases List.mem_cons.mp hp with rfl | hp) <;> (k_unfold; clear KK)
                                      · exact hBn.1 h
                                      · exact (hA1 p.1 (List.mem_map_of_mem hp)).1 h
                              · rintro r led' h56 tk56 zz0
                                refine hid ?_; intro KK
                                (rcases zz0 with ⟨T8, t81, t82, rfl, rfl⟩) <;> (k_unfold; clear KK)
                                rintro F56 N56 -
                                have e1 : rowTot ([v0 % 16, v1 % 16, v2 % 16, v3 % 16].map (· * 2 ^ sh)) NC.1.length x y 16 = a7 := by
                                  rw [hsrtl, ← sums_one [v0 % 16, v1 % 16, v2 % 16, v3 % 16] sh x y hsh11 hSs rfl]
                                  exact hA7
                                have e2 : (rowUni ([v0 % 16, v1 % 16, v2 % 16, v3 % 16].map (· * 2 ^ sh)) x 16).length = b7 := by
                                  rw [← unions_one [v0 % 16, v1 % 16, v2 % 16, v3 % 16] sh x y hsh11 hSs rfl]
                                  exact hB7
                                rw [e1, e2] at N56
                                have N57 : News (ghostOf s1.heap [(88, 84)]) s1.heap.objs.size h56 ((T8, { cls := .type "tuple", data := .seq #[.int a7 t81, .int (b7 : Int) t82] }) :: (T7, { cls := .type "tuple", data := .seq #[.int a7 t71, .int (b7 : Int) t72] }) :: (s1.heap.objs.size + 4, oC) :: (s1.heap.objs.size + 3, oN) :: (D3, listOf #[.int (r0 : Int) q0, .int (r1 : Int) q1, .int (r2 : Int) q2, .int (r3 : Int) q3] ep3) :: (nl, listOf nmV.toArray e5) :: n.led w k6 tk6 [] pe7 its6 se6) := fun p hp => N56 p (by
                                  refine hid ?_; intro KK
                                  (rcases List.mem_cons.mp hp with rfl | hp) <;> (k_unfold; clear KK)
                                  · exact .head _
                                  · refine hid ?_; intro KK
                                    (rcases List.mem_cons.mp hp with rfl | hp) <;> (k_unfold; clear KK)
                                    · exact .tail _ (.tail _ (.head _))
                                    · refine hid ?_; intro KK
                                      (rcases List.mem_cons.mp hp with rfl | hp) <;> (k_unfold; clear KK)
                                      · exact .tail _ (.tail _ (.tail _ (.head _)))
                                      · refine hid ?_; intro KK
                                        (rcases List.mem_cons.mp hp with rfl | hp) <;> (k_unfold; clear KK)
                                        · exact .tail _ (.tail _ (.tail _ (.tail _ (.head _))))
                                        · refine hid ?_; intro KK
                                          (rcases List.mem_cons.mp hp with rfl | hp) <;> (k_unfold; clear KK)
                                          · exact .tail _ (.head _)
                                          · exact .tail _ (.tail _ (.tail _ (.tail _ (.tail _ hp)))))
                                clear N54 N56 F55
                                repeat' (first | (k_unfold; (try dsimp only)) | walk1)
                                try unfold Hold
                                refine pair_ne N57 (.tail _ (.head _)) (.head _) (Nat.le_of_ble_eq_true rfl) ?_
                                repeat' (first | (k_unfold; (try dsimp only)) | walk1)
                                exact ⟨rfl, pe7, _, _, rfl, F56, fun p hp => N57 p (.tail _ (.tail _ hp))⟩
                          · clear F51 N51
                            first | (refine fold_F ?_; intro qk) | k_fold | skip
                            k_steps
                            try unfold Hold
                            refine use (rest := []) (getTok w n k6 tk6 pe8 its6 se6 [] (Str.ofString "") 0 [] hO hLay6 (fun c hc => by cases hc) (.inl ⟨rfl, rfl, rfl, rfl⟩)) F60 X T N60 (by rfl) (fun p hp => .tail _ (.tail _ (.tail _ (.tail _ hp)))) (fun p hp => by cases hp) trivial (Nat.le_of_ble_eq_true rfl) (Nat.le_of_ble_eq_true rfl) ?_
                            · rintro r led' h61 tk61 zz0
                              refine hid ?_; intro KK
                              (rcases zz0 with ⟨t61, tk62, its62, se62, rfl, rfl, -⟩) <;> (k_unfold; clear KK)
                              rintro F61 N61 -
                              rw [Int.add_zero] at N61
                              have N62 : News (ghostOf s1.heap [(88, 84)]) s1.heap.objs.size h61 (n.led w k6 tk62 [] pe8 its62 se62) := fun p hp => N61 p (List.mem_append_left _ hp)
                              clear F60 N60 N61
                              first | (refine fold_F ?_; intro qk) | k_fold | skip
                              k_steps
                              try unfold Hold
                              rename Fr _ _ _ _ => F63
                              rename News _ _ _ _ => N63
                              have hcc : 1 + Txt.count tx (Str.ofString "\n") = k6 := by
                                rw [show Str.ofString "\n" = (⟨#[10]⟩ : Str) from rfl, count_cnt, hct, hk6]
                              rw [hcc] at N63
                              refine pair_eq (by decide +kernel) N63 (.tail _ (.head _)) (.head _) (Nat.le_of_ble_eq_true rfl) ?_
                              refine ⟨⟨.inl ⟨_, .bool true, [], rfl, fun _ => rfl, .bool _, ?_, fun _ => ⟨.nil, fun a h => nomatch h⟩⟩, F63.keep, ?_, ?_⟩, GrownAt.of N63 (.tail _ (.tail _ (.tail _ (.tail _ (.tail _ (.tail _ (.tail _ (.tail _ (.tail _ (.tail _ (.tail _ (.tail _ (.head _))))))))))))), trivial⟩
                              · kc_post
                              · rfl
                              · assumption)
end
end
end Mine
theorem PySem.Challenge.cw_wn0058_01_holds : PySem.Challenge.rw_wn0058_01.Holds :=
  Mine.law_walk
