import PyProof.Rows.All
import Wide.All
import OpenK.AllK
import Wide.FinOn
import PySem.Challenge.RW_oh0070_01
section Part_HD
open PySem PySem.W PyProof.Rows
set_option Elab.async false
set_option maxRecDepth 100000
set_option maxHeartbeats 0
namespace Mine
local macro_rules
  | `(tactic| refine $f:ident $as*) => do
    unless as.any (fun a => a.raw.isOfKind ``Lean.Parser.Term.syntheticHole && a.raw[1].getId == `hl) do Lean.Macro.throwUnsupported
    let e ← `((fun _ => by kernel_rfl))
    let bs := as.map fun a => if a.raw.isOfKind ``Lean.Parser.Term.syntheticHole && a.raw[1].getId == `hl then e else ⟨a.raw⟩
    `(tactic| refine $f:ident $bs*)
local macro_rules | `(tactic| o_law) => `(tactic| refine holds_law (by decide +kernel) fun said => ?_)
open_top hd for PySem.Challenge.rw_oh0070_01
end Mine
end Part_HD
section Part_D0
open PySem
set_option linter.unusedVariables false
namespace Mine
theorem anew_D0 : True := by k_with_none; w_top off; trivial
/-- a tree that calls nothing and wakes nothing -/
noncomputable def NoCall {α : Type} : Sem α → Prop
  | .call .. => False
  | .resume .. => False
  | .rule _ k => ∀ x, NoCall (k x)
  | .at _ k => ∀ x, NoCall (k x)
  | .load _ _ k => ∀ x, NoCall (k x)
  | .update _ _ _ k => ∀ x, NoCall (k x)
  | .alloc _ k => ∀ x, NoCall (k x)
  | .loadIfAlive _ k => ∀ x, NoCall (k x)
  | .point _ k => ∀ x, NoCall (k x)
  | .register _ k => ∀ x, NoCall (k x)
  | .fresh k => ∀ x, NoCall (k x)
  | .ask k => ∀ x, NoCall (k x)
  | .choose _ _ k => ∀ x, NoCall (k x)
  | .os _ _ k => ∀ x, NoCall (k x)
  | .handled _ k => ∀ x, NoCall (k x)
  | .newGen _ k => ∀ x, NoCall (k x)
  | .genState _ k => ∀ x, NoCall (k x)
  | .stack k => ∀ x, NoCall (k x)
  | .thread k => ∀ x, NoCall (k x)
  | _ => True
theorem NoCall.bind {α β : Type} {f : α → Sem β} (hf : ∀ a, NoCall (f a)) : ∀ {t : Sem α}, NoCall t → NoCall (t >>= f) := by
  intro t
  show NoCall t → NoCall (t.bind f)
  induction t with
  | pure a => exact fun _ => hf a
  | call | resume => exact fun h => h.elim
  | raise | unsupported | finish | «yield» | fork | await => exact fun _ => trivial
  | rule _ k ih | «at» _ k ih | load _ _ k ih | update _ _ _ k ih | alloc _ k ih | loadIfAlive _ k ih | point _ k ih | register _ k ih | fresh k ih | ask k ih | choose _ _ k ih | os _ _ k ih | handled _ k ih | newGen _ k ih | genState _ k ih | stack k ih | thread k ih => exact fun h x => ih x (h x)
theorem wp_and {α : Type} {M : Model} {Γ : Ctx} {Q Q' : α → Pos → Shared → Prop} {E E' : Value → Pos → Shared → Prop} : ∀ (t : Sem α) (p : Pos) (s : Shared), NoCall t → Sem.wp M Γ t Q E p s → Sem.wp M Γ t Q' E' p s → Sem.wp M Γ t (fun a p s => Q a p s ∧ Q' a p s) (fun a p s => E a p s ∧ E' a p s) p s := by
  intro t
  induction t with
  | pure x => exact fun p s _ a b => ⟨a, b⟩
  | raise x => exact fun p s _ a b => ⟨a, b⟩
  | call | resume => exact fun p s h => h.elim
  | unsupported | finish | yield | fork | await | register => exact fun p s _ a b => a
  | rule _ k ih | «at» _ k ih | alloc _ k ih | loadIfAlive _ k ih | point _ k ih | fresh k ih | ask k ih | os _ _ k ih | handled _ k ih | newGen _ k ih | stack k ih | thread k ih => exact fun p s h a b => ih _ _ _ (h _) a b
  | load a _ k ih => intro p s hn h1 h2; obtain ⟨o, ho, h⟩ := h1; obtain ⟨o', ho', h'⟩ := h2; rw [ho] at ho'; cases ho'; exact ⟨o, ho, ih _ _ _ (hn _) h h'⟩
  | genState a k ih => intro p s hn h1 h2; obtain ⟨o, ho, h⟩ := h1; obtain ⟨o', ho', h'⟩ := h2; rw [ho] at ho'; cases ho'; exact ⟨o, ho, ih _ _ _ (hn _) h h'⟩
  | update a _ f k ih => intro p s hn h1 h2; exact ⟨h1.1, ih _ _ _ (hn _) h1.2 h2.2⟩
  | choose _ _ k ih => intro p s hn h1 h2; exact ⟨h1.1, ih _ _ _ (hn _) h1.2 h2.2⟩
theorem nc_load (a : Addr) : NoCall (load a) := fun _ => trivial
theorem nc_update (a : Addr) (f : Obj → Obj) : NoCall (update a f) := fun _ => trivial
theorem nc_stack : NoCall stack := fun _ => trivial
theorem nc_alloc (o : Obj) : NoCall (alloc o) := fun _ => trivial
theorem nc_fieldsOf (v : Value) : NoCall (fieldsOf v) := by
  unfold fieldsOf
  repeat' first | exact trivial | exact nc_load _ | intro _ | refine NoCall.bind ?_ ?_ | split
theorem nc_field (v : Value) (i : Nat) : NoCall (field v i) := by
  unfold field
  repeat' first | exact trivial | exact nc_fieldsOf _ | intro _ | refine NoCall.bind ?_ ?_ | split
theorem nc_setField (v : Value) (i : Nat) (x : Value) : NoCall (setField v i x) := by
  unfold setField updateField
  repeat' first | exact trivial | exact nc_load _ | exact nc_update _ _ | intro _ | refine NoCall.bind ?_ ?_ | split
theorem nc_behind (env : Env) (outer : List Env) : NoCall (behindIsImport env outer) := by
  unfold behindIsImport
  repeat' first | exact trivial | exact nc_field _ _ | intro _ | refine NoCall.bind ?_ ?_ | split
theorem nc_kept (env : Env) (b : Bool) (l : List Env) : NoCall (keptBack env b l) := by
  unfold keptBack underTheClaimsCaller
  repeat' first | exact trivial | exact nc_stack | intro _ | refine NoCall.bind ?_ ?_ | split
theorem nc_ready : ∀ l : List Env, NoCall (readyFrames l)
  | [] => trivial
  | env :: outer => by
    have ih := nc_ready outer
    unfold readyFrames
    repeat' first | exact trivial | exact ih | exact nc_load _ | exact nc_update _ _ | exact nc_behind _ _ | exact nc_kept _ _ _ | intro _ | refine NoCall.bind ?_ ?_ | split
theorem nc_frameObject (l : List Env) : NoCall (frameObject l) := by
  unfold frameObject
  repeat' first | exact trivial | exact nc_ready _ | intro _ | refine NoCall.bind ?_ ?_ | split
theorem nc_frameOf (env : Env) : NoCall (frameOf env) := by
  unfold frameOf frameEnvs frameObject
  repeat' first | exact trivial | exact nc_stack | exact nc_ready _ | intro _ | refine NoCall.bind ?_ ?_ | split
theorem nc_place (f : Addr) (b : Bool) : NoCall (entryPlaceOf f b) := by
  unfold entryPlaceOf
  repeat' first | exact trivial | exact nc_stack | intro _ | refine NoCall.bind ?_ ?_ | split
theorem nc_fields (ty : String) (vs : List Value) : NoCall (newFields ty vs) := by
  unfold newFields newObj newObjAsIs
  repeat' first | exact trivial | exact nc_alloc _ | intro _ | refine NoCall.bind ?_ ?_ | split
theorem nc_entry (a b c d e : Value) (p : List Value) : NoCall (EntryCells.newEntry a b c d e p) := nc_fields _ _
theorem nc_note (e : Value) (env : Env) : NoCall (noteFrame e env) := by
  unfold noteFrame
  repeat' first | exact trivial | exact nc_field _ _ | exact nc_setField _ _ _ | exact nc_frameOf _ | exact nc_frameObject _ | exact nc_place _ _ | exact nc_entry _ _ _ _ _ _ | intro _ | refine NoCall.bind ?_ ?_ | split
theorem nc_flight (e : Value) (f : Option Addr) : NoCall (setFlight e f) := by
  unfold setFlight
  repeat' first | exact trivial | exact nc_field _ _ | exact nc_setField _ _ _ | intro _ | refine NoCall.bind ?_ ?_ | split
theorem wpAny_and {α : Type} {M : Model} {A : Around} {t : Sem α} {Q Q' : α → Shared → Prop} {E E' : Value → Shared → Prop} {s : Shared} (hn : NoCall t) (h : wpAny M A t Q E s) (h' : wpAny M A t Q' E' s) : wpAny M A t (fun a s => Q a s ∧ Q' a s) (fun a s => E a s ∧ E' a s) s :=
  fun Γ p hΓ => wp_and t p s hn (h Γ p hΓ) (h' Γ p hΓ)
end Mine
end Part_D0
section Part_M0
open PySem PySem.W PySem.Spec PySem.Calls PyProof.Rows
set_option Elab.async false
set_option maxRecDepth 100000
set_option maxHeartbeats 0
set_option linter.unusedVariables false
namespace Mine
theorem anew_M0 : True := by k_with_none; w_top off; trivial
theorem fillM0 (w : World) (h : Heap) : PySem.Challenge.rw_oh0070_01.foot = 5 → (hd.heap_1 w.params).In h → True := by
  k_fill
  intro _ _
  trivial
/-- the spot that a car gets, with fuel -/
noncomputable def standsN (full : List Int) (size : Int) : Nat → Int → Int
  | 0, spot => spot
  | k + 1, spot => if spot ∈ full then standsN full size k ((spot + 1).fmod size) else spot
noncomputable def stands (full : List Int) (wish size : Int) : Int := standsN full size size.toNat wish
theorem fr_keeps {h₀ h h' : Heap} {L : Addr} {m : Str → Option Value} (F : Fr h₀ L h m) (k : ∀ b o, h.get? b = some o → h'.get? b = some o) : Fr h₀ L h' m :=
  ⟨F.ns.keeps k, fun b o e => k b o (F.keep b o e), F.above⟩
theorem news_keeps {h₀ h h' : Heap} {L : Addr} {l : List (Addr × Obj)} (N : News h₀ L h l) (k : ∀ b o, h.get? b = some o → h'.get? b = some o) : News h₀ L h' l :=
  fun p hp => ⟨k _ _ (N p hp).1, (N p hp).2⟩
theorem enter_def {prog : Program} {w : World} {A : Around} {s : Shared} {hb : Heap} {K : Frag} {H : List Addr} {R : Result → Shared → Prop} {mg mb : Str → Option Value} {p : Program} {loose : List Str} {mean : ExcName → Option Value}
    {name qual : Str} {params : Arguments} {body : List Stmt} {scope : Scope} {dV kV doc pm cdv ct oc : Value} {an od : Option Addr} {osl : Array (Option Value)} {f : Addr} {args : Args} {binds : List (Str × Value)}
    (X : K.In hb) (T : Top p loose mean mg mb hb) (St : hb.StaysIn s.heap) (hH : ∀ a ∈ H, hb.get? a = none)
    (ho : K.lookup f = some ⟨oc, od, .func (fnOf name qual params body scope dV kV doc pm an cdv ct), osl⟩) (hcd : codeIn K cdv qual = true) (hroom : A.depth < recursionLimit)
    (hbind : BindsTo s (fnOf name qual params body scope dV kV doc pm an cdv ct) args binds) (hloc : ∀ y ∈ binds, scope.names.lookup y.1 = some .local)
    (h : ∀ g L' h₁, g = hideAll s.heap H → L' = s.heap.objs.size → Fr g L' h₁ (fun y => binds.reverse.lookup y) → (∀ b o, s.heap.get? b = some o → h₁.get? b = some o) → K.In g → Top p loose mean mg mb g → hb.StaysIn g →
      wpAny (model prog w) (A.deeper (envOf qual scope L' f cdv)) (execs body (envOf qual scope L' f cdv))
        (fun fl s' => R (.ok (.ret (match fl with | .ret v => v | _ => .none))) s') (fun _ _ => False)
        { s with heap := h₁, toks := s.toks + binds.length })
    (hco : scope.isCoroutine = false) (hgen : scope.isGenerator = false) (hk : scope.kind = .function)
    (hcell : ∀ x ∈ scope.names, x.2 ≠ .cell) : codeAny (model prog w) A (.call (.ref f) args) R s := by
  have Xs : K.In s.heap := X.keeps St
  have sg : hb.StaysIn (hideAll s.heap H) := fun b o e => hideAll_get _ (St b o e) fun q => by rw [hH b q] at e; cases e
  refine codeAny_call_def (fd := fnOf name qual params body scope dV kV doc pm an cdv ct) (body := body) (binds := binds) hroom (Xs _ _ ho) rfl (T.nolimit.keeps St) (codeRec_of Xs hcd) rfl hbind hcell hloc (fun h₁ hns hk₁ => ?_) hco hgen hk
  exact wpAny_mono (E := fun _ _ => False) (h _ _ h₁ rfl rfl ⟨hns, fun b o e => hk₁ b o (of_hideAll _ e), Nat.le_of_eq (hideAll_size _ _)⟩ hk₁ (X.keeps sg) (T.keeps sg) sg) (fun _ _ x => x) (fun _ _ x => x.elim)
theorem ne_of_allLt {d : Nat} : ∀ {l : List (Addr × Obj)}, AllLt d l → ∀ p ∈ l, p.1 ≠ d := by
  intro l
  induction l with
  | nil => intro _ p hp; exact (List.not_mem_nil hp).elim
  | cons q l ih =>
    intro h p hp
    rcases List.mem_cons.mp hp with rfl | hp
    · exact Nat.ne_of_lt h.1
    · exact ih h.2 p hp
/-- the frames of the callers, as they lie in the heap, off the base -/
noncomputable def FrsIn (hb h : Heap) (l : List Env) (frs : List (Addr × Obj)) : Prop := TI.Frs l frs ∧ ∀ p ∈ frs, h.get? p.1 = some p.2 ∧ hb.get? p.1 = none
theorem frs_data : ∀ {l : List Env} {frs : List (Addr × Obj)}, TI.Frs l frs → ∀ p ∈ frs, ∃ es ep, p.2.data = .dict es ep := by
  intro l frs
  induction frs generalizing l with
  | nil => intro _ p hp; exact (List.not_mem_nil hp).elim
  | cons q frs ih =>
    intro h p hp
    cases l with
    | nil => exact h.elim
    | cons env l =>
      rcases List.mem_cons.mp hp with rfl | hp
      · exact h.2.2.1
      · exact ih h.2.2.2 p hp
theorem sameUp_fst : ∀ {a b : List (Addr × Obj)}, TI.SameUp a b → b.map (·.1) = a.map (·.1) := by
  intro a
  induction a with
  | nil => intro b h; cases b with
    | nil => rfl
    | cons => exact h.elim
  | cons p a ih => intro b h; cases b with
    | nil => exact h.elim
    | cons q b => rw [List.map_cons, List.map_cons, h.1, ih h.2.2]
theorem sameUp_ne {a b : List (Addr × Obj)} {d : Addr} (h : TI.SameUp a b) (n : ∀ p ∈ a, p.1 ≠ d) : ∀ p ∈ b, p.1 ≠ d := fun p hp e => by
  have : p.1 ∈ a.map (·.1) := by rw [← sameUp_fst h]; exact List.mem_map_of_mem hp
  obtain ⟨q, hq, hq'⟩ := List.mem_map.mp this
  exact n q hq (hq'.trans e)
theorem isList_hide {hb h : Heap} {l : List Env} {frs : List (Addr × Obj)} {a : Addr} {v : Array Value} (x : h.IsList a v) (Fs : FrsIn hb h l frs) : (hideAll h (frs.map (·.1))).IsList a v := by
  obtain ⟨o, ho, hc, n, hd⟩ := x
  refine ⟨o, hideAll_get _ ho fun q => ?_, hc, n, hd⟩
  obtain ⟨p, hp, rfl⟩ := List.mem_map.mp q
  obtain ⟨es, ep, he⟩ := frs_data Fs.1 p hp
  have := (Fs.2 p hp).1
  rw [ho] at this
  cases this
  rw [hd] at he
  cases he
theorem frs_off {hb h : Heap} {l : List Env} {frs : List (Addr × Obj)} (Fs : FrsIn hb h l frs) : ∀ a ∈ frs.map (·.1), hb.get? a = none := fun a ha => by
  obtain ⟨p, hp, rfl⟩ := List.mem_map.mp ha
  exact (Fs.2 p hp).2
theorem frs_news {hb h h' : Heap} {l : List Env} {frs : List (Addr × Obj)} (Fs : FrsIn hb h l frs) (k : ∀ b o, h.get? b = some o → h'.get? b = some o) : News (hideAll h (frs.map (·.1))) h.objs.size h' frs := fun p hp =>
  ⟨k _ _ (Fs.2 p hp).1, Nat.ne_of_lt (Heap.lt_size (Fs.2 p hp).1), hideAll_none _ (List.mem_map_of_mem hp)⟩
section
variable {prog : Program} {w : World} {A₀ : Around} {E : Value → Shared → Prop} {s' : Shared} {hb h : Heap} {L a e : Addr} {m : Str → Option Value} {name : Str} {scope : Scope} {cd : Value} {X : String} {l : List Env} {frs new : List (Addr × Obj)}
  {x : Str} {np pos : Pos} {b₀ : Stmt} {suite : List Stmt} {rest : List ExceptHandler} {Q : Flow → Shared → Prop} {p : Program} {loose : List Str} {mean : ExcName → Option Value} {mg mb : Str → Option Value}
/-- a new exception, whatever its context -/
structure NewExcG (h h' : Heap) (e : Addr) (X : String) : Prop where
  keeps : ∀ b o, h.get? b = some o → h'.get? b = some o
  new : h.get? e = none
  there : ∃ ob vs t, h'.get? e = some ob ∧ ob.cls = .type X ∧ ob.data = .fields vs ∧ 1 < vs.size ∧ vs[0]? = some t ∧ vs[1]? = some .none
theorem NewExcG.of {h h' : Heap} {e : Addr} {X : String} (x : Heap.NewExc h h' e X) : NewExcG h h' e X := by
  obtain ⟨ob, t, h1, h2, h3⟩ := x.there
  exact ⟨x.keeps, x.new, ob, _, t, h1, h2, h3, by simp, rfl, rfl⟩
theorem noted_G {Q : Unit → Shared → Prop} (hfr : A₀.frames = some l) (Fs : TI.Frs l frs) (hx : NewExcG h s'.heap e X) (F : Fr hb L h m) (N : News hb L h (new ++ frs)) (hap : ∀ p ∈ new, p.1 ∉ L :: frs.map (·.1))
    (k : ∀ h' frs', TI.SameUp frs frs' → TI.Frs l frs' → TT.HeldN hb L h' m e X (new ++ frs') → Q () { s' with heap := h' }) (hk : scope.kind = .function) :
    wpAny (model prog w) (A₀.deeper (envOf name scope L a cd)) (noteFrame (.ref e) (envOf name scope L a cd)) Q E s' := by
  obtain ⟨ob, vs, tp, he, hcls, hd, hsz, h0, h1⟩ := hx.there
  obtain ⟨hff, hNs, frs₁, SU, ht⟩ := TI.frames_at (name := name) (a := a) (cd := cd) (h' := s'.heap) (base := TI.gone h (L :: frs.map (·.1))) hk Fs F N TI.tail_sub (fun b o hb' => ⟨o.slots, hx.keeps b o hb'⟩) fun b hm => TI.gone_none hm
  unfold noteFrame
  simp only [show (envOf name scope L a cd).frame = some L from rfl]
  refine wpAny_bind (wpAny_field he hd (x := .none) h1 ?_)
  rw [if_neg (by decide)]
  refine wpAny_entryW (a0 := tp) (Around.frames_deeper hfr) hff rfl he (fun b o eb => hx.keeps b o (TI.gone_some eb).2) (TT.none_of (fun b o eb => (TI.gone_some eb).2) hx.new) hd hsz h0 fun h' hN => ?_
  obtain ⟨frs₂, SU₂, Fs₂, H⟩ := TLg.held_of_notedA (X := X) Fs F N hap hNs SU ht hx.new (by rw [← hcls]; exact hN)
  exact k h' frs₂ SU₂ Fs₂ H
/-- a built-in exception that is new in this frame meets its own clause -/
theorem catch_here (hfr : A₀.frames = some l) (Fs : TI.Frs l frs) (hx : NewExcG h s'.heap e X) (F : Fr hb L h m) (N : News hb L h (new ++ frs)) (hap : ∀ p ∈ new, p.1 ∉ L :: frs.map (·.1)) (T : Top p loose mean mg mb hb)
    (h3 : subB X (.type x.toString) = some true) (hv : bootBuiltins x = some (.type x.toString)) (h1 : subB x.toString (.type "BaseException") = some true)
    (h2 : subB ((Manifest.find? x.toString).elim "type" fun y => y.metatype) (.type "tuple") = some false)
    (k : ∀ h' frs', TI.SameUp frs frs' → TI.Frs l frs' → Fr hb L h' m → News hb L h' (new ++ frs') → wpAny (model prog w) ((A₀.deeper (envOf name scope L a cd)).mark (some (.ref e))) (execs (b₀ :: suite) (envOf name scope L a cd)) Q (fun _ _ => False) { s' with heap := h' })
    (n1 : x ∉ startupNames) (n2 : x ∉ loose) (n3 : x ∉ (recsOf p).map (·.name)) (n4 : x ∉ (litsOf p).map (·.1)) (n5 : x ∉ (clssOf p loose).map (·.name)) (hn : x ≠ "__name__")
    (hk : scope.kind = .function) (hxk : (envOf name scope L a cd).kindOf x = some .globalImplicit) (hdb : (x == ("__debug__" : Str)) = false) :
    wpAny (model prog w) (A₀.deeper (envOf name scope L a cd)) (noteFrame (.ref e) (envOf name scope L a cd))
      (fun _ s₂ => wpAny (model prog w) (A₀.deeper (envOf name scope L a cd)) (setFlight (.ref e) none) (fun _ s₃ =>
        wpAny (model prog w) (A₀.deeper (envOf name scope L a cd)) (handleBy (.ref e) (envOf name scope L a cd) (.ExceptHandler (some (.Name x np)) none (b₀ :: suite) pos :: rest)) Q E s₃) E s₂) E s' := by
  refine noted_G (new := new) hfr Fs hx F N hap (fun h₄ frs' SU Fs' H => ?_) hk
  refine TT.HeldNA.land H fun h₅ H₅ => ?_
  refine wpAny_handleBy_builtin (X := X) (T := x.toString) (b := true) (isSubtype_of_subB h1) (isSubtype_of_subB h2) (isSubtype_of_subB h3) ?_
  refine wpAny_mono (E := fun _ _ => False) (ld_builtin_at H₅.held.fr T.g (T.free x n1 n2 n3 n4 n5) T.b ((T.builtins x hn).trans hv) ⟨rfl, H₅.isA, ?_⟩ hk hxk hdb) (fun _ _ q => q) (fun _ _ q => q.elim)
  rw [if_pos rfl]
  refine TT.HeldNA.lands H₅ fun h₆ F₆ N₆ => ?_
  exact wpAny_mono (k h₆ frs' SU Fs' F₆ N₆) (fun _ _ q => q) (fun _ _ q => q.elim)
end
noncomputable def FreeName (x : Str) : Prop := x ∉ startupNames ∧ x ∉ looseW hd.view_1 [Str.ofString "_NodeInfo"] ∧ x ∉ (recsOf hd.view_1).map (·.name) ∧ x ∉ (litsOf hd.view_1).map (·.1) ∧ x ∉ (clssOf hd.view_1 (looseW hd.view_1 [Str.ofString "_NodeInfo"])).map (·.name)
theorem free_IndexError : FreeName (Str.ofString "IndexError") := by unfold FreeName; decide +kernel
theorem free_ValueError : FreeName (Str.ofString "ValueError") := by unfold FreeName; decide +kernel
theorem free_StopIteration : FreeName (Str.ofString "StopIteration") := by unfold FreeName; decide +kernel
section
variable {prog : Program} {w : World} {A₀ : Around} {E : Value → Shared → Prop} {s' : Shared} {hb h : Heap} {L a e : Addr} {m : Str → Option Value} {name : Str} {scope : Scope} {cd : Value} {l : List Env} {frs new : List (Addr × Obj)}
  {np pos : Pos} {b₀ : Stmt} {suite : List Stmt} {rest : List ExceptHandler} {Q : Flow → Shared → Prop} {mean : ExcName → Option Value} {mg mb : Str → Option Value}
theorem catch_IndexError (hfr : A₀.frames = some l) (Fs : TI.Frs l frs) (hx : NewExcG h s'.heap e "IndexError") (F : Fr hb L h m) (N : News hb L h (new ++ frs)) (hap : ∀ p ∈ new, p.1 ∉ L :: frs.map (·.1)) (T : Top hd.view_1 (looseW hd.view_1 [Str.ofString "_NodeInfo"]) mean mg mb hb)
    (k : ∀ h' frs', TI.SameUp frs frs' → TI.Frs l frs' → Fr hb L h' m → News hb L h' (new ++ frs') → wpAny (model prog w) ((A₀.deeper (envOf name scope L a cd)).mark (some (.ref e))) (execs (b₀ :: suite) (envOf name scope L a cd)) Q (fun _ _ => False) { s' with heap := h' })
    (hk : scope.kind = .function) (hxk : (envOf name scope L a cd).kindOf (Str.ofString "IndexError") = some .globalImplicit) :
    wpAny (model prog w) (A₀.deeper (envOf name scope L a cd)) (noteFrame (.ref e) (envOf name scope L a cd))
      (fun _ s₂ => wpAny (model prog w) (A₀.deeper (envOf name scope L a cd)) (setFlight (.ref e) none) (fun _ s₃ =>
        wpAny (model prog w) (A₀.deeper (envOf name scope L a cd)) (handleBy (.ref e) (envOf name scope L a cd) (.ExceptHandler (some (.Name (Str.ofString "IndexError") np)) none (b₀ :: suite) pos :: rest)) Q E s₃) E s₂) E s' :=
  catch_here hfr Fs hx F N hap T (by decide +kernel) (by decide +kernel) (by decide +kernel) (by decide +kernel) k free_IndexError.1 free_IndexError.2.1 free_IndexError.2.2.1 free_IndexError.2.2.2.1 free_IndexError.2.2.2.2 (by decide) hk hxk (by decide)
theorem catch_ValueError (hfr : A₀.frames = some l) (Fs : TI.Frs l frs) (hx : NewExcG h s'.heap e "ValueError") (F : Fr hb L h m) (N : News hb L h (new ++ frs)) (hap : ∀ p ∈ new, p.1 ∉ L :: frs.map (·.1)) (T : Top hd.view_1 (looseW hd.view_1 [Str.ofString "_NodeInfo"]) mean mg mb hb)
    (k : ∀ h' frs', TI.SameUp frs frs' → TI.Frs l frs' → Fr hb L h' m → News hb L h' (new ++ frs') → wpAny (model prog w) ((A₀.deeper (envOf name scope L a cd)).mark (some (.ref e))) (execs (b₀ :: suite) (envOf name scope L a cd)) Q (fun _ _ => False) { s' with heap := h' })
    (hk : scope.kind = .function) (hxk : (envOf name scope L a cd).kindOf (Str.ofString "ValueError") = some .globalImplicit) :
    wpAny (model prog w) (A₀.deeper (envOf name scope L a cd)) (noteFrame (.ref e) (envOf name scope L a cd))
      (fun _ s₂ => wpAny (model prog w) (A₀.deeper (envOf name scope L a cd)) (setFlight (.ref e) none) (fun _ s₃ =>
        wpAny (model prog w) (A₀.deeper (envOf name scope L a cd)) (handleBy (.ref e) (envOf name scope L a cd) (.ExceptHandler (some (.Name (Str.ofString "ValueError") np)) none (b₀ :: suite) pos :: rest)) Q E s₃) E s₂) E s' :=
  catch_here hfr Fs hx F N hap T (by decide +kernel) (by decide +kernel) (by decide +kernel) (by decide +kernel) k free_ValueError.1 free_ValueError.2.1 free_ValueError.2.2.1 free_ValueError.2.2.2.1 free_ValueError.2.2.2.2 (by decide) hk hxk (by decide)
theorem catch_StopIteration (hfr : A₀.frames = some l) (Fs : TI.Frs l frs) (hx : NewExcG h s'.heap e "StopIteration") (F : Fr hb L h m) (N : News hb L h (new ++ frs)) (hap : ∀ p ∈ new, p.1 ∉ L :: frs.map (·.1)) (T : Top hd.view_1 (looseW hd.view_1 [Str.ofString "_NodeInfo"]) mean mg mb hb)
    (k : ∀ h' frs', TI.SameUp frs frs' → TI.Frs l frs' → Fr hb L h' m → News hb L h' (new ++ frs') → wpAny (model prog w) ((A₀.deeper (envOf name scope L a cd)).mark (some (.ref e))) (execs (b₀ :: suite) (envOf name scope L a cd)) Q (fun _ _ => False) { s' with heap := h' })
    (hk : scope.kind = .function) (hxk : (envOf name scope L a cd).kindOf (Str.ofString "StopIteration") = some .globalImplicit) :
    wpAny (model prog w) (A₀.deeper (envOf name scope L a cd)) (noteFrame (.ref e) (envOf name scope L a cd))
      (fun _ s₂ => wpAny (model prog w) (A₀.deeper (envOf name scope L a cd)) (setFlight (.ref e) none) (fun _ s₃ =>
        wpAny (model prog w) (A₀.deeper (envOf name scope L a cd)) (handleBy (.ref e) (envOf name scope L a cd) (.ExceptHandler (some (.Name (Str.ofString "StopIteration") np)) none (b₀ :: suite) pos :: rest)) Q E s₃) E s₂) E s' :=
  catch_here hfr Fs hx F N hap T (by decide +kernel) (by decide +kernel) (by decide +kernel) (by decide +kernel) k free_StopIteration.1 free_StopIteration.2.1 free_StopIteration.2.2.1 free_StopIteration.2.2.2.1 free_StopIteration.2.2.2.2 (by decide) hk hxk (by decide)
end
/-- a while whose test is false at once (or raises) -/
theorem while_once {prog : Program} {w : World} {A : Around} {E : Value → Shared → Prop} {s : Shared} {env : Env} {test : Expr} {body : List Stmt} {pos : Pos} {Q : Flow → Shared → Prop}
    (hE : PassesOwn (model prog w) A env E) (h : wpAny (model prog w) A (isTrue test env (eval test env)) (fun b s₂ => b = false ∧ Q .next s₂) E s) :
    wpAny (model prog w) A (exec (.While test body [] pos) env) Q E s := by
  refine wpAny_While (codeAny_whileLoop (fun _ s' => s' = s) ?_ 0 rfl)
  rintro n s' rfl
  refine wpAny_mono h (fun b s₂ h₂ => ?_) hE
  obtain ⟨rfl, h₂⟩ := h₂
  simp only [Bool.false_eq_true, if_false]
  exact wpAny_execs_nil h₂
/-- a goal at which the walk shall stop -/
theorem eps_all {α : Sort _} (ne : Nonempty α) {P : α → Prop} (h : P (@Classical.epsilon α ne fun x => ¬ P x)) : ∀ x, P x := fun x => Classical.byContradiction fun q => @Classical.epsilon_spec α (fun x => ¬ P x) ⟨x, q⟩ h
noncomputable def Park (P : Prop) : Prop := P
theorem park {P : Prop} (h : Park P) : P := h
noncomputable def PkAt (_ : Nat) : Prop := True
theorem parkAt {n : Nat} {P : Prop} (_ : PkAt n) (h : Park P) : P := h
theorem unpark {P : Prop} (h : P) : Park P := h
theorem News.lead {h₀ h : Heap} {L a : Addr} {o : Obj} {news : List (Addr × Obj)} (_ : News h₀ L h ((a, o) :: news)) : ∃ b, b = a := ⟨a, rfl⟩
theorem ints_kf {its : List Value} {ns : List Int} (h : IntsAre its ns) : kf_ints its = true := by
  induction h with
  | nil => rfl
  | cons n t _ ih => exact ih
theorem ints_any {its : List Value} {ns : List Int} (h : IntsAre its ns) (k : Int) : its.any (isInt k) = decide (k ∈ ns) := by
  induction h with
  | nil => rfl
  | cons n t _ ih =>
    rw [List.any_cons, ih]
    have : isInt k (.int n t) = decide (k = n) := by
      show (n == k) = _
      by_cases e : k = n
      · subst e; simp
      · simp [e, Ne.symm e]
    rw [this]
    by_cases e : k = n <;> simp [e]
theorem ints_app {a b : List Value} {x y : List Int} (h : IntsAre a x) (k : IntsAre b y) : IntsAre (a ++ b) (x ++ y) := by
  induction h with
  | nil => exact k
  | cons n u _ ih => exact .cons n u ih
theorem ints_snoc {its : List Value} {ns : List Int} (h : IntsAre its ns) (k : Int) (t : Tok) : IntsAre (its ++ [.int k t]) (ns ++ [k]) := by
  induction h with
  | nil => exact .cons k t .nil
  | cons n u _ ih => exact .cons n u ih
section
variable {prog : Program} {w : World} {A : Around} {E : Value → Shared → Prop} {s : Shared} {h₀ h : Heap} {L D : Addr} {m : Str → Option Value} {news news' : List (Addr × Obj)} {its : List Value} {ns : List Int} {n : Nat}
theorem isL (N : News h₀ L s.heap news) (hm : (D, listOf its.toArray n) ∈ news) : s.heap.IsList D its.toArray := ⟨_, (N _ hm).1, rfl, n, rfl⟩
theorem isB (F : Fr h₀ L s.heap m) (hl : h₀.IsList D its.toArray) : s.heap.IsList D its.toArray := stays_list F.keep hl
theorem len_L {Q : Value → Shared → Prop} (hl : s.heap.IsList D its.toArray) (hi : IntsAre its ns) (hf : ns.length < 4294967296)
    (h : Q (.int (ns.length : Int) (s.toks + 1)) { s with toks := s.toks + 1 + 1 }) : wpAny (model prog w) A (call (.builtin "len") [.ref D]) Q E s := by
  have e2 : its.toArray.size = ns.length := by rw [List.size_toArray, hi.length]
  exact len_list hl (by rw [e2]; omega) (by rw [e2]; exact h)
theorem item_L {value slice : Expr} {k x : Int} {u : Tok} {Q : Value → Shared → Prop} (hl : s.heap.IsList D its.toArray) (hi : IntsAre its ns) (h0 : 0 ≤ k) (hx : ns[k.toNat]? = some x) (hb : ns.length < 4294967296)
    (h : ∀ t, Q (.int x t) s)
    (hs : subscripted slice false (.ref D) (.int k u) = operate [.ref D, .int k u] (getItem (.ref D) (.int k u)) := by with_unfolding_all rfl) :
    wpAny (model prog w) A (subscriptTail value slice (.ref D) (.int k u)) Q E s := by
  obtain ⟨t, ht⟩ := hi.get _ _ hx
  have hk : k.toNat < ns.length := (List.getElem?_eq_some_iff.mp hx).1
  exact tail_any hl.typeIs slot_list_getitem.lookup (wpAny_getItem_list hl h0 (by omega) (by simpa using ht) (h t)) hs
theorem out_L {value slice : Expr} {k : Int} {u : Tok} {Q : Value → Shared → Prop} (hA : A.handled = none) (hl : s.heap.IsList D its.toArray) (hi : IntsAre its ns) (h0 : (ns.length : Int) ≤ k) (hb : k < 4294967296)
    (hE : ∀ h' tk e, Heap.NewExc s.heap h' e "IndexError" → E (.ref e) { s with heap := h', toks := tk })
    (hs : subscripted slice false (.ref D) (.int k u) = operate [.ref D, .int k u] (getItem (.ref D) (.int k u)) := by with_unfolding_all rfl) :
    wpAny (model prog w) A (subscriptTail value slice (.ref D) (.int k u)) Q E s :=
  item_outK hA hl (.inr (by rw [List.size_toArray, hi.length]; exact h0)) (by omega) (by omega) hE hs
theorem in_L {k : Int} {t : Tok} {Q : Value → Shared → Prop} (hl : s.heap.IsList D its.toArray) (hi : IntsAre its ns) (h : Q (.bool (decide (k ∈ ns))) s) :
    wpAny (model prog w) A (compareOp .In (.int k t) (.ref D)) Q E s :=
  SeqInW.in_listW (isInt k) (fun y hy => kf_eq (ints_kf hi) y (by simpa using hy)) hl (by rw [← Array.any_toList]; rw [show its.toArray.toList.any (isInt k) = decide (k ∈ ns) from by simpa using ints_any hi k]; exact h)
/-- the list at D turned by f, in the ledger -/
theorem turn_L {its' : List Value} (f : Array Value → Array Value) (F : Fr h₀ L h m) (N : News h₀ L h news) (he : f its.toArray = its'.toArray)
    (U : Upd D (listOf its.toArray n) (listOf its'.toArray (if its'.length = its.length then n else n + 1)) news news') :
    Fr h₀ L (h.update D (Obj.mapSeq f)) m ∧ News h₀ L (h.update D (Obj.mapSeq f)) news' := by
  obtain ⟨pre, post, rfl, rfl, a', b'⟩ := U.split
  have z := N (D, listOf its.toArray n) (List.mem_append.mpr (.inr (.head _)))
  refine ⟨F.change (Heap.SameBut.update ..) z.2.1 z.2.2, ki_turn f N a' b' he ?_⟩
  simp
theorem extend_L {b : Addr} {its2 : List Value} {ns2 : List Int} {n2 : Nat} {Q : Value → Shared → Prop} (F : Fr h₀ L s.heap m) (N : News h₀ L s.heap news) (h2 : (b, listOf its2.toArray n2) ∈ news)
    (U : Upd D (listOf its.toArray n) (listOf (its ++ its2).toArray (if (its ++ its2).length = its.length then n else n + 1)) news news') (hi : IntsAre its ns) (hi2 : IntsAre its2 ns2) (hz : ns.length + ns2.length < 100000)
    (h : ∀ h', Fr h₀ L h' m → News h₀ L h' news' → IntsAre (its ++ its2) (ns ++ ns2) → Q .none { s with heap := h' }) : wpAny (model prog w) A (call (.builtin "list.extend") [.ref D, .ref b]) Q E s := by
  have hm : (D, listOf its.toArray n) ∈ news := by
    obtain ⟨pre, post, rfl, _, _, _⟩ := U.split
    exact List.mem_append.mpr (.inr (.head _))
  have hs := sizeLine_eq
  have q1 := hi.length
  have q2 := hi2.length
  obtain ⟨F', N'⟩ := turn_L (fun x => x ++ its2.toArray) F N (by simp) U
  exact call_meets PySem.F.slot_list_extend ⟨_, (N _ hm).1, rfl⟩ PySem.F.entry_list_extend (PySem.F.args_list_extend_2 _ _)
    (AutoSeq1.list_extend_list_list_0 D its.toArray n b its2.toArray n2 (by simp [Builtin.List.listTooLong]; omega) (by simp; omega) (by simp; omega)) ⟨(N _ hm).1, (N _ h2).1, h _ F' N' (ints_app hi hi2)⟩
end
end Mine
end Part_M0
section Part_M0b
open PySem PySem.W PySem.Spec PySem.Calls PyProof.Rows
set_option Elab.async false
set_option maxRecDepth 100000
set_option maxHeartbeats 0
set_option linter.unusedVariables false
namespace Mine
theorem anew_M0b : True := by k_with_none; w_top off; trivial
/-- an exception object without a context -/
noncomputable def BareOb (ob : Obj) : Prop := ∃ vs, ob.data = .fields vs ∧ vs[2]? = some .none
section
variable {prog : Program} {w : World} {A₀ : Around} {E : Value → Shared → Prop} {s' : Shared} {hb h : Heap} {L a e : Addr} {m : Str → Option Value} {name : Str} {scope : Scope} {cd : Value} {X : String} {l : List Env} {frs new : List (Addr × Obj)}
theorem bare_noted (hfr : A₀.frames = some l) (Fs : TI.Frs l frs) (hx : Heap.NewExc h s'.heap e X) (F : Fr hb L h m) (N : News hb L h (new ++ frs)) (hk : scope.kind = .function) :
    wpAny (model prog w) (A₀.deeper (envOf name scope L a cd)) (noteFrame (.ref e) (envOf name scope L a cd)) (fun _ s₂ => ∃ ob, s₂.heap.get? e = some ob ∧ BareOb ob) E s' := by
  obtain ⟨ob, tp, he, hcls, hd⟩ := hx.there
  obtain ⟨hff, hNs, frs₁, SU, ht⟩ := TI.frames_at (name := name) (a := a) (cd := cd) (h' := s'.heap) (base := TI.gone h (L :: frs.map (·.1))) hk Fs F N TI.tail_sub (fun b o hb' => ⟨o.slots, hx.keeps b o hb'⟩) fun b hm => TI.gone_none hm
  have hene : e ∉ (envOf name scope L a cd :: l).filterMap (·.frame) := fun hm => by
    obtain ⟨_, o, ho, hnf⟩ := hff.mem hm
    rw [he] at ho; cases ho; exact hnf _ hd
  unfold noteFrame
  simp only [show (envOf name scope L a cd).frame = some L from rfl]
  refine wpAny_bind (wpAny_field he hd (x := .none) rfl ?_)
  rw [if_neg (by decide)]
  refine wpAny_bind (wpAny_frameOf_fun (Around.frames_deeper hfr) hff rfl fun h₁ hs₁ => ?_)
  refine wpAny_bind (wpAny_entryPlaceOf fun pl hpl => ?_)
  unfold EntryCells.newEntry newFields
  refine wpAny_bind (wpAny_newObj_type ?_ (hpl.sizeOk5 _ _ _ _ _))
  refine wpAny_setField (Heap.get?_push_of_some _ ((hs₁.2.1 e hene).trans he)) hd (by show 1 < 6; decide) ?_
  refine ⟨_, Heap.get?_update_self _ (Heap.get?_push_of_some _ ((hs₁.2.1 e hene).trans he)) (Obj.isFreed_of_fields (Obj.data_mapFields hd _)), _, Obj.data_mapFields hd _, ?_⟩
  rw [Array.getElem?_setIfInBounds_ne (by decide)]
  rfl
theorem noted_bare {Q : Unit → Shared → Prop} (hfr : A₀.frames = some l) (Fs : TI.Frs l frs) (hx : Heap.NewExc h s'.heap e X) (F : Fr hb L h m) (N : News hb L h (new ++ frs)) (hap : ∀ p ∈ new, p.1 ∉ L :: frs.map (·.1))
    (k : ∀ h' frs' ob, TI.SameUp frs frs' → TI.Frs l frs' → TT.HeldN hb L h' m e X (new ++ frs') → h'.get? e = some ob → BareOb ob → Q () { s' with heap := h' }) (hk : scope.kind = .function) :
    wpAny (model prog w) (A₀.deeper (envOf name scope L a cd)) (noteFrame (.ref e) (envOf name scope L a cd)) Q E s' := by
  refine wpAny_mono (wpAny_and (nc_note _ _) (noted_G (new := new) (E := E) (Q := fun _ s₂ => ∃ h' frs', s₂ = { s' with heap := h' } ∧ TI.SameUp frs frs' ∧ TI.Frs l frs' ∧ TT.HeldN hb L h' m e X (new ++ frs')) hfr Fs (NewExcG.of hx) F N hap (fun h' frs' a b c => ⟨h', frs', rfl, a, b, c⟩) hk) (bare_noted (E := E) hfr Fs hx F N hk)) (fun _ s₂ q => ?_) (fun _ _ q => q.1)
  obtain ⟨⟨h', frs', rfl, a, b, c⟩, ob, ho, hb⟩ := q
  exact k h' frs' ob a b c ho hb
end
noncomputable abbrev finally_raisedP := (Program) × (World) × (Value → Shared → Prop) × (Shared) × (Heap) × (Addr) × (Addr) × (Addr) × (Str → Option Value) × (Str) × (Scope) × (Value) × (String) × (List Stmt) × (Flow → Shared → Prop) × (Around) × (Obj) × (List (Addr × Obj))
noncomputable def finally_raisedS : finally_raisedP → Prop := fun p => (fun (prog : Program) (w : World) (E : Value → Shared → Prop) (s' : Shared) (hb : Heap) (L : Addr) (a : Addr) (e : Addr) (m : Str → Option Value) (name : Str) (scope : Scope) (cd : Value) (X : String) (final : List Stmt) (Q : Flow → Shared → Prop) (A : Around) (ob : Obj) (news : List (Addr × Obj)) => ∀ (H : TT.HeldN hb L s'.heap m e X news)
   (he : s'.heap.get? e = some ob)
   (hb' : BareOb ob)
   (k : ∀ h', Fr hb L h' m → News hb L h' ((e, ob) :: news) → wpAny (model prog w) (A.mark (some (.ref e))) (execs final (envOf name scope L a cd))
      (fun g s₂ => match g with | .next => wpAny (model prog w) A (passOn "try.finally" (.ref e) (envOf name scope L a cd)) Q E s₂ | g => wpAny (model prog w) A (setFlight (.ref e) none) (fun _ s₃ => Q g s₃) E s₂) (notedBy (model prog w) (A.mark (some (.ref e))) (envOf name scope L a cd) (cameBackBy (model prog w) A (envOf name scope L a cd) E)) { s' with heap := h' }),
    FinallyRaised prog w A E (envOf name scope L a cd) final Q (.ref e) s') p.1 p.2.1 p.2.2.1 p.2.2.2.1 p.2.2.2.2.1 p.2.2.2.2.2.1 p.2.2.2.2.2.2.1 p.2.2.2.2.2.2.2.1 p.2.2.2.2.2.2.2.2.1 p.2.2.2.2.2.2.2.2.2.1 p.2.2.2.2.2.2.2.2.2.2.1 p.2.2.2.2.2.2.2.2.2.2.2.1 p.2.2.2.2.2.2.2.2.2.2.2.2.1 p.2.2.2.2.2.2.2.2.2.2.2.2.2.1 p.2.2.2.2.2.2.2.2.2.2.2.2.2.2.1 p.2.2.2.2.2.2.2.2.2.2.2.2.2.2.2.1 p.2.2.2.2.2.2.2.2.2.2.2.2.2.2.2.2.1 p.2.2.2.2.2.2.2.2.2.2.2.2.2.2.2.2.2
noncomputable def finally_raisedX : finally_raisedP := @Classical.epsilon finally_raisedP ⟨⟨default, ⟨fun _ _ => 0, { strHash := fun _ => 0, shareClass := fun _ => 0, mergeTok := fun t => t, idOf := fun _ => 0, idOfShared := fun _ _ => 0, followText := fun _ => false, idOfImm := fun _ => 0 }⟩, fun _ _ => True, {}, {}, 0, 0, 0, fun _ => none, ⟨#[]⟩, default, .none, default, [], default, callerA, { cls := .none, data := .plain }, []⟩⟩ fun x => ¬ finally_raisedS x
namespace finally_raisedC
noncomputable def prog : Program := finally_raisedX.1
noncomputable def w : World := finally_raisedX.2.1
noncomputable def E : Value → Shared → Prop := finally_raisedX.2.2.1
noncomputable def s' : Shared := finally_raisedX.2.2.2.1
noncomputable def hb : Heap := finally_raisedX.2.2.2.2.1
noncomputable def L : Addr := finally_raisedX.2.2.2.2.2.1
noncomputable def a : Addr := finally_raisedX.2.2.2.2.2.2.1
noncomputable def e : Addr := finally_raisedX.2.2.2.2.2.2.2.1
noncomputable def m : Str → Option Value := finally_raisedX.2.2.2.2.2.2.2.2.1
noncomputable def name : Str := finally_raisedX.2.2.2.2.2.2.2.2.2.1
noncomputable def scope : Scope := finally_raisedX.2.2.2.2.2.2.2.2.2.2.1
noncomputable def cd : Value := finally_raisedX.2.2.2.2.2.2.2.2.2.2.2.1
noncomputable def X : String := finally_raisedX.2.2.2.2.2.2.2.2.2.2.2.2.1
noncomputable def final : List Stmt := finally_raisedX.2.2.2.2.2.2.2.2.2.2.2.2.2.1
noncomputable def Q : Flow → Shared → Prop := finally_raisedX.2.2.2.2.2.2.2.2.2.2.2.2.2.2.1
noncomputable def A : Around := finally_raisedX.2.2.2.2.2.2.2.2.2.2.2.2.2.2.2.1
noncomputable def ob : Obj := finally_raisedX.2.2.2.2.2.2.2.2.2.2.2.2.2.2.2.2.1
noncomputable def news : List (Addr × Obj) := finally_raisedX.2.2.2.2.2.2.2.2.2.2.2.2.2.2.2.2.2
theorem key : ∀ (H : TT.HeldN hb L s'.heap m e X news)
   (he : s'.heap.get? e = some ob)
   (hb' : BareOb ob)
   (k : ∀ h', Fr hb L h' m → News hb L h' ((e, ob) :: news) → wpAny (model prog w) (A.mark (some (.ref e))) (execs final (envOf name scope L a cd))
      (fun g s₂ => match g with | .next => wpAny (model prog w) A (passOn "try.finally" (.ref e) (envOf name scope L a cd)) Q E s₂ | g => wpAny (model prog w) A (setFlight (.ref e) none) (fun _ s₃ => Q g s₃) E s₂) (notedBy (model prog w) (A.mark (some (.ref e))) (envOf name scope L a cd) (cameBackBy (model prog w) A (envOf name scope L a cd) E)) { s' with heap := h' }),
    FinallyRaised prog w A E (envOf name scope L a cd) final Q (.ref e) s' := by
  intro H he hb' k
  refine ⟨ref_ne_byPass _, noted_again H.held fun _ _ => ?_⟩
  have hl := H.held
  obtain ⟨F, ⟨ob', vs, tb, otb, tvs, he', hcls, hd, h1, htb, htd, h3, htbL, htbe, htb0⟩, hfr⟩ := hl
  have hsz : 3 < tvs.size := (Array.getElem?_eq_some_iff.mp h3).1
  have hz : wpAny (model prog w) A (setFlight (.ref e) none) (fun _ s₂ => s₂.heap.get? e = some ob) E s' := by
    refine wpAny_setFlight_none he' hd h1 htb htd hsz ?_
    exact (Heap.get?_update_ne _ _ _ _ htbe.symm).trans he
  refine wpAny_mono (wpAny_and (nc_flight _ _) (TT.HeldNA.land (E := E) (Q := fun _ s₂ => ∃ h', s₂ = { s' with heap := h' } ∧ TT.HeldNA hb L h' m e X news .none) H (fun h' H' => ⟨h', rfl, H'⟩)) hz) (fun _ s₂ q => ?_) (fun _ _ q => q.1)
  obtain ⟨⟨h', rfl, H'⟩, hz⟩ := q
  refine k h' H'.held.fr fun p hp => ?_
  rcases List.mem_cons.mp hp with rfl | hp
  · refine ⟨hz, fun q => ?_, hfr⟩
    obtain ⟨oL, es, ep, hL, hLd, _⟩ := F.ns
    have q' : e = L := q
    rw [← q', he'] at hL
    cases hL
    rw [hd] at hLd
    cases hLd
  · exact H'.made p hp
end finally_raisedC
section
variable {dmy : Nat}
theorem finally_raised {prog : Program} {w : World} {E : Value → Shared → Prop} {s' : Shared} {hb : Heap} {L : Addr} {a : Addr} {e : Addr} {m : Str → Option Value} {name : Str} {scope : Scope} {cd : Value} {X : String} {final : List Stmt} {Q : Flow → Shared → Prop} {A : Around} {ob : Obj} {news : List (Addr × Obj)} (H : TT.HeldN hb L s'.heap m e X news) (he : s'.heap.get? e = some ob) (hb' : BareOb ob)
    (k : ∀ h', Fr hb L h' m → News hb L h' ((e, ob) :: news) → wpAny (model prog w) (A.mark (some (.ref e))) (execs final (envOf name scope L a cd))
      (fun g s₂ => match g with | .next => wpAny (model prog w) A (passOn "try.finally" (.ref e) (envOf name scope L a cd)) Q E s₂ | g => wpAny (model prog w) A (setFlight (.ref e) none) (fun _ s₃ => Q g s₃) E s₂) (notedBy (model prog w) (A.mark (some (.ref e))) (envOf name scope L a cd) (cameBackBy (model prog w) A (envOf name scope L a cd) E)) { s' with heap := h' }) :
    FinallyRaised prog w A E (envOf name scope L a cd) final Q (.ref e) s' := by
  refine Classical.byContradiction fun hz9 => ?_
  exact @Classical.epsilon_spec finally_raisedP (fun x => ¬ finally_raisedS x) ⟨⟨prog, w, E, s', hb, L, a, e, m, name, scope, cd, X, final, Q, A, ob, news⟩, fun zz9 => hz9 (zz9 H he hb' k)⟩ finally_raisedC.key
end
section
variable {prog : Program} {w : World} {A₀ : Around} {E : Value → Shared → Prop} {s' : Shared} {hb h : Heap} {L a e : Addr} {m : Str → Option Value} {name : Str} {scope : Scope} {cd : Value} {X : String} {l : List Env} {frs new : List (Addr × Obj)}
end
section
variable {α : Type} {prog : Program} {w : World} {A : Around} {E : Value → Shared → Prop} {s : Shared}
theorem entry_unchain : entryFor table "proto.unchain" = some Builtin.«proto.unchain» := entryFor_of_tree (by kernel_rfl)
/-- a built-in exception raised while a bare one is handled -/
theorem raise_over {cls msg : String} {Q : α → Shared → Prop} {e : Addr} {ob : Obj} (hp : PlainExc cls) (hh : A.handled = some (.ref e)) (he : s.heap.get? e = some ob) (hb : BareOb ob)
    (h : ∀ h' tk e', NewExcG s.heap h' e' cls → E (.ref e') { s with heap := h', toks := tk }) :
    wpAny (model prog w) A (raiseErrorWords cls msg : Sem α) Q E s := by
  obtain ⟨vs, hd, h2⟩ := hb
  unfold raiseErrorWords
  refine wpAny_bind (wpAny_mkText (wpAny_bind ?_))
  unfold newExc newTuple
  refine wpAny_bind (wpAny_newObj_type ?_)
  refine wpAny_bind (m := firstArgMember _ _) (wpAny_of_eq (a := Value.none) (by simp only [firstArgMember, hp.first]; rfl) ?_)
  rw [hp.own]
  refine wpAny_newObj_type ?_
  unfold raiseNew
  refine wpAny_bind (wpAny_handled ?_)
  rw [hh]
  have hne : e ≠ (s.heap.push { cls := .type "tuple", data := .seq [Value.str (Str.ofString msg) s.toks].toArray }).objs.size := Nat.ne_of_lt (by
    have := Heap.lt_size he
    simp only [Heap.push, Array.size_push]
    exact Nat.lt_succ_of_lt this)
  have hq : (Value.ref e != Value.ref (s.heap.push { cls := .type "tuple", data := .seq [Value.str (Str.ofString msg) s.toks].toArray }).objs.size) = true := by
    simp only [bne_iff_ne, ne_eq, Value.ref.injEq]
    exact hne
  dsimp only
  rw [if_pos hq]
  have he2 := Heap.get?_push_of_some (h := s.heap.push { cls := .type "tuple", data := .seq [Value.str (Str.ofString msg) s.toks].toArray }) { cls := .type cls, data := .fields (#[.ref s.heap.objs.size, .none, .none, .none, .bool false, .none] ++ #[]) } (Heap.get?_push_of_some { cls := .type "tuple", data := .seq [Value.str (Str.ofString msg) s.toks].toArray } he)
  refine wpAny_bind (wpAny_holding (wpAny_runValue (codeAny_builtin entry_unchain ?_)))
  unfold Builtin.«proto.unchain»
  refine wpAny_bind (wpAny_field he2 hd h2 ?_)
  rw [if_pos (by decide)]
  refine wpAny_bind (wpAny_pure (wpAny_pure ?_))
  have he3 := Heap.get?_push_size (s.heap.push { cls := .type "tuple", data := .seq #[Value.str (Str.ofString msg) s.toks] }) (o := { cls := .type cls, data := .fields (#[.ref s.heap.objs.size, .none, .none, .none, .bool false, .none] ++ #[]) }) rfl
  refine wpAny_bind (wpAny_setField (i := 2) he3 rfl (by show 2 < 6; decide) (wpAny_throw ?_))
  refine h _ _ _ ⟨fun b o hb => ?_, Heap.get?_none_of_le (by simp), _, _, _, Heap.get?_update_self _ he3 rfl, rfl, rfl, by simp, by simp; rfl, by simp⟩
  refine (Heap.get?_update_ne _ _ _ _ fun q => ?_).trans (Heap.get?_push_of_some _ (Heap.get?_push_of_some _ hb))
  have := Heap.lt_size hb
  rw [q] at this
  simp only [Heap.push, Array.size_push] at this
  exact absurd (Nat.lt_of_succ_lt this) (Nat.lt_irrefl _)
theorem item_over {l : Addr} {items : Array Value} {k : Int} {t : Tok} {Q : Value → Shared → Prop} {e : Addr} {ob : Obj} (hh : A.handled = some (.ref e)) (he : s.heap.get? e = some ob) (hb : BareOb ob) (hl : s.heap.IsList l items)
    (hout : (items.size : Int) ≤ k) (hhi : k < 2 ^ 63)
    (hE : ∀ h' tk e', NewExcG s.heap h' e' "IndexError" → E (.ref e') { s with heap := h', toks := tk }) :
    wpAny (model prog w) A (getItem (.ref l) (.int k t)) Q E s := by
  obtain ⟨o, ho, hc, ne, hd⟩ := id hl
  obtain ⟨j, hj⟩ : ∃ j : Nat, k = Int.ofNat j := ⟨k.toNat, by simp only [Int.ofNat_eq_natCast]; omega⟩
  have hx : items[j]? = none := Array.getElem?_eq_none (by simp only [Int.ofNat_eq_natCast] at hj; omega)
  have hfit : Builtin.List.listFitsIndex k = true := fitsIndex_both (by omega) hhi
  clear hhi hout
  unfold getItem
  try with_reducible refine wpAny_holding ?_
  first | refine wpAny_bind (wpAny_pure ?_) | skip
  refine wpAny_bind (wpAny_sequenceKey hl.typeIs (by decide) ?_)
  refine wpAny_bind (wpAny_callSpecial?_slot (name := Str.ofString "__getitem__") hl.typeIs slot_list_getitem
    (wpAny_call_entry slot_list_getitem hl.typeIs entry_list_getitem ?_ (args_list_getitem _ _)))
  show wpAny _ _ (Builtin.List.listSubscript? (.int k t) >>= _) _ _ s
  refine wpAny_bind (wpAny_listSubscript_int hfit ?_)
  clear hfit
  subst hj
  show wpAny _ _ ((seqItemAt l j >>= fun r => pure (r.map (j, ·))) >>= _) _ _ s
  refine wpAny_bind (wpAny_bind (wpAny_seqItemAt ho hd (wpAny_pure ?_)))
  rw [hx]
  first
    | exact wpAny_bind (wpAny_rule (raise_over plainExc_IndexError hh he hb hE))
    | exact wpAny_bind (wpAny_rule (wpAny_bind (raise_over plainExc_IndexError hh he hb hE)))
    | exact wpAny_bind (wpAny_bind (wpAny_rule (raise_over plainExc_IndexError hh he hb hE)))
    | exact wpAny_rule (raise_over plainExc_IndexError hh he hb hE)
theorem out_over {D : Addr} {its : List Value} {ns : List Int} {value slice : Expr} {k : Int} {u : Tok} {Q : Value → Shared → Prop} {e : Addr} {ob : Obj} {h₀ : Heap} {L : Addr} {news : List (Addr × Obj)} (hA : A.handled = some (.ref e)) (N : News h₀ L s.heap news) (hm : (e, ob) ∈ news) (hb : BareOb ob)
    (hl : s.heap.IsList D its.toArray) (hi : IntsAre its ns) (h0 : (ns.length : Int) ≤ k) (hb' : k < 4294967296)
    (hE : ∀ h' tk e', NewExcG s.heap h' e' "IndexError" → E (.ref e') { s with heap := h', toks := tk })
    (hs : subscripted slice false (.ref D) (.int k u) = operate [.ref D, .int k u] (getItem (.ref D) (.int k u)) := by with_unfolding_all rfl) :
    wpAny (model prog w) A (subscriptTail value slice (.ref D) (.int k u)) Q E s :=
  tail_any hl.typeIs slot_list_getitem.lookup (item_over hA (N _ hm).1 hb hl (by rw [List.size_toArray, hi.length]; exact h0) (by omega) hE) hs
end
end Mine
end Part_M0b
section Walks
open PySem PySem.W PySem.Spec PySem.Calls PyProof.Rows
set_option Elab.async false
set_option maxRecDepth 100000
set_option maxHeartbeats 0
set_option linter.unusedVariables false
namespace Mine
local macro_rules | `(tactic| walk_at $s:str) => do (let t := Lean.Syntax.mkStrLit ("m " ++ s.getString); `(tactic| k_extra $t))
local macro_rules | `(tactic| k_room) => `(tactic| first | omega | ((try simp only [depth_under_make, depth_under_kw, depth_in1, depth_deeper, depth_caller]); omega))
local macro_rules | `(tactic| k_all) => `(tactic| first | assumption | exact ne_of_allLt (by assumption))
local macro_rules | `(tactic| k_mem) => `(tactic| first | with_reducible assumption | with_reducible exact List.mem_cons_self | (refine List.mem_cons_of_mem _ ?_; k_mem))
section Part_M1
theorem rules_M1 : True := by
  k_with_none
  w_top off
  k_with "exec While Compare cons nil" => refine parkAt (n := 0) (by with_reducible assumption) ?_
  k_with "m mine list" => first | exact isL (by k_asm) (by k_mem) | exact isB (by k_asm) (by assumption)
  k_with "m call builtin:len" => (k_here; (try dsimp only); (with_reducible show wpAny _ _ (call (Value.builtin "len") [Value.ref _]) _ _ _); k_dflt (refine' len_L ?zqk1 ?zqk3 ?zqk4 ?_; (case zqk1 => walk_at "mine list"); (case zqk3 => assumption); (case zqk4 => omega)))
  k_with "m subscriptTail" => (k_here; (try dsimp only); (with_reducible show wpAny _ _ (subscriptTail _ _ (Value.ref _) (Value.int _ _)) _ _ _); k_dflt (first | (refine' item_L ?zqk1 ?zqk3 ?zqk4 ?zqk5 ?zqk6 ?_ ?zqk8; (case zqk1 => walk_at "mine list"); (case zqk3 => assumption); (case zqk5 => with_reducible assumption); (case zqk4 => omega); (case zqk6 => omega); (case zqk8 => with_unfolding_all rfl); k_whole; intro t9) | (refine' out_L ?zqk0 ?zqk1 ?zqk3 ?zqk4 ?zqk5 ?_ ?zqk8; (case zqk0 => first | rfl | assumption); (case zqk1 => walk_at "mine list"); (case zqk3 => assumption); (case zqk4 => omega); (case zqk5 => omega); (case zqk8 => with_unfolding_all rfl); k_whole; intro h9 tk9 e9 x9)))
  k_with "m subscriptTail Name Name ref int" => (k_here; (try dsimp only); (with_reducible show wpAny _ _ (subscriptTail _ _ (Value.ref _) (Value.int _ _)) _ _ _); k_dflt (first | (refine' item_L ?zqk1 ?zqk3 ?zqk4 ?zqk5 ?zqk6 ?_ ?zqk8; (case zqk1 => walk_at "mine list"); (case zqk3 => assumption); (case zqk5 => with_reducible assumption); (case zqk4 => omega); (case zqk6 => omega); (case zqk8 => with_unfolding_all rfl); k_whole; intro t9) | (refine' out_L ?zqk0 ?zqk1 ?zqk3 ?zqk4 ?zqk5 ?_ ?zqk8; (case zqk0 => first | rfl | assumption); (case zqk1 => walk_at "mine list"); (case zqk3 => assumption); (case zqk4 => omega); (case zqk5 => omega); (case zqk8 => with_unfolding_all rfl); k_whole; intro h9 tk9 e9 x9) | (refine' out_over ?zqk0 ?zqkN ?zqkm ?zqkb ?zqk1 ?zqk3 ?zqk4 ?zqk5 ?_ ?zqk8; (case zqk0 => rfl); (case zqkN => k_asm); (case zqkm => k_mem); (case zqkb => assumption); (case zqk1 => walk_at "mine list"); (case zqk3 => assumption); (case zqk4 => omega); (case zqk5 => omega); (case zqk8 => with_unfolding_all rfl); k_whole; intro h9 tk9 e9 x9)))
  k_with "m subscriptTail Name Slice ref ref" => (k_here; k_dflt (refine' kmk_slice_ints ?zqF ?zqN ?zql ?zqpl ?zqpu ?zqhi ?zqhm rfl ?_ ?zqhs ?zqht ?zqhz; (case zqF => k_asm); (case zqN => k_asm); (case zql => walk_at "mine list"); (case zqpl => kmk_part); (case zqpu => kmk_part); (case zqhi => assumption); (case zqhm => first | (with_reducible refine kmk_from (by assumption) ?_; omega) | (with_reducible refine kmk_upto (by assumption) ?_; omega) | with_reducible exact kmk_all (by assumption)); (case zqhs => with_unfolding_all rfl); (case zqht => kmk_pure); (case zqhz => exact kmk_sz (by assumption) (by simp only [sizeLine_eq]; omega)); k_whole; intro D9 ws9 h9 F9 N9 l9 I9 e9 e9'; (try k_lt l9)))
  k_with "m call builtin:list.extend" => (k_here; k_dflt (refine' extend_L ?zqF ?zqN ?zqm ?zqU ?zqi1 ?zqi2 ?zqz ?_; (case zqF => k_asm); (case zqN => k_asm); (case zqU => k_upd); (case zqm => k_mem); (case zqi1 => walk_at "mine ints"); (case zqi2 => walk_at "mine ints"); (case zqz => walk_at "mine len"); k_whole; intro h9 F9 N9 I9))
  k_with "m mine len" => first | omega | (simp only [List.length_append, List.length_drop, List.length_take, List.length_nil, List.length_cons] at *; omega)
  k_with "m mine ints" => first | exact IntsAre.nil | assumption
  k_with "m compareOp In int ref" => (k_here; (try dsimp only); k_dflt (refine' in_L ?zqm ?zqi ?_; (case zqm => walk_at "mine list"); (case zqi => assumption)))
  trivial
theorem fillM1 (w : World) (h : Heap) : PySem.Challenge.rw_oh0070_01.foot = 5 → (hd.heap_1 w.params).In h → True := by
  k_fill
  intro _ _
  trivial
theorem stands_step {ns : List Int} {size res sp : Int} {k : Nat} (h : standsN ns size k sp = res) (hr : res ∉ ns) (hin : sp ∈ ns) : ∃ k', k = k' + 1 ∧ standsN ns size k' ((sp + 1).fmod size) = res := by
  cases k with
  | zero => exact absurd ((show sp = res from h) ▸ hin) hr
  | succ k => exact ⟨k, rfl, by rw [← h, standsN, if_pos hin]⟩
theorem stands_out {ns : List Int} {size res sp : Int} {k : Nat} (h : standsN ns size k sp = res) (hin : sp ∉ ns) : sp = res := by
  cases k with
  | zero => exact h
  | succ k => rw [standsN, if_neg hin] at h; exact h
noncomputable abbrev stands_cP := (World) × (ExcName → Option Value) × (Str → Option Value) × (Str → Option Value) × (Around) × (Heap) × (Shared) × (Value → Shared → Prop) × (Value → Shared → Prop) × (Addr) × (List Value) × (List Int) × (Int) × (Int) × (Tok) × (Tok)
noncomputable def stands_cS : stands_cP → Prop := fun p => (fun (w : World) (mean : ExcName → Option Value) (mg : Str → Option Value) (mb : Str → Option Value) (A : Around) (hb : Heap) (s : Shared) (Q : Value → Shared → Prop) (E : Value → Shared → Prop) (lf : Addr) (its : List Value) (ns : List Int) (wish : Int) (size : Int) (t1 : Tok) (t2 : Tok) => ∀ (X : (hd.heap_1 w.params).In hb)
   (T : Top hd.view_1 (looseW hd.view_1 [Str.ofString "_NodeInfo"]) mean mg mb hb)
   (St : hb.StaysIn s.heap)
   (hl : s.heap.IsList lf its.toArray)
   (hi : IntsAre its ns)
   (hsz : 0 < size)
   (hst : stands ns wish size ∉ ns)
   (hd : A.depth + 2 < recursionLimit)
   (hret : ∀ t h' tk', (∀ b o, s.heap.get? b = some o → h'.get? b = some o) → Q (.int (stands ns wish size) t) { s with heap := h', toks := tk' }),
    wpAny (model PySem.Challenge.rw_oh0070_01.row.prog w) A (call (.ref 190) [.ref lf, .int wish t1, .int size t2]) Q E s) p.1 p.2.1 p.2.2.1 p.2.2.2.1 p.2.2.2.2.1 p.2.2.2.2.2.1 p.2.2.2.2.2.2.1 p.2.2.2.2.2.2.2.1 p.2.2.2.2.2.2.2.2.1 p.2.2.2.2.2.2.2.2.2.1 p.2.2.2.2.2.2.2.2.2.2.1 p.2.2.2.2.2.2.2.2.2.2.2.1 p.2.2.2.2.2.2.2.2.2.2.2.2.1 p.2.2.2.2.2.2.2.2.2.2.2.2.2.1 p.2.2.2.2.2.2.2.2.2.2.2.2.2.2.1 p.2.2.2.2.2.2.2.2.2.2.2.2.2.2.2
noncomputable def stands_cX : stands_cP := @Classical.epsilon stands_cP ⟨⟨⟨fun _ _ => 0, { strHash := fun _ => 0, shareClass := fun _ => 0, mergeTok := fun t => t, idOf := fun _ => 0, idOfShared := fun _ _ => 0, followText := fun _ => false, idOfImm := fun _ => 0 }⟩, fun _ => none, fun _ => none, fun _ => none, callerA, {}, {}, fun _ _ => True, fun _ _ => True, 0, [], [], 0, 0, 0, 0⟩⟩ fun x => ¬ stands_cS x
namespace stands_cC
noncomputable def w : World := stands_cX.1
noncomputable def mean : ExcName → Option Value := stands_cX.2.1
noncomputable def mg : Str → Option Value := stands_cX.2.2.1
noncomputable def mb : Str → Option Value := stands_cX.2.2.2.1
noncomputable def A : Around := stands_cX.2.2.2.2.1
noncomputable def hb : Heap := stands_cX.2.2.2.2.2.1
noncomputable def s : Shared := stands_cX.2.2.2.2.2.2.1
noncomputable def Q : Value → Shared → Prop := stands_cX.2.2.2.2.2.2.2.1
noncomputable def E : Value → Shared → Prop := stands_cX.2.2.2.2.2.2.2.2.1
noncomputable def lf : Addr := stands_cX.2.2.2.2.2.2.2.2.2.1
noncomputable def its : List Value := stands_cX.2.2.2.2.2.2.2.2.2.2.1
noncomputable def ns : List Int := stands_cX.2.2.2.2.2.2.2.2.2.2.2.1
noncomputable def wish : Int := stands_cX.2.2.2.2.2.2.2.2.2.2.2.2.1
noncomputable def size : Int := stands_cX.2.2.2.2.2.2.2.2.2.2.2.2.2.1
noncomputable def t1 : Tok := stands_cX.2.2.2.2.2.2.2.2.2.2.2.2.2.2.1
noncomputable def t2 : Tok := stands_cX.2.2.2.2.2.2.2.2.2.2.2.2.2.2.2
theorem key : ∀ (X : (hd.heap_1 w.params).In hb)
   (T : Top hd.view_1 (looseW hd.view_1 [Str.ofString "_NodeInfo"]) mean mg mb hb)
   (St : hb.StaysIn s.heap)
   (hl : s.heap.IsList lf its.toArray)
   (hi : IntsAre its ns)
   (hsz : 0 < size)
   (hst : stands ns wish size ∉ ns)
   (hd : A.depth + 2 < recursionLimit)
   (hret : ∀ t h' tk', (∀ b o, s.heap.get? b = some o → h'.get? b = some o) → Q (.int (stands ns wish size) t) { s with heap := h', toks := tk' }),
    wpAny (model PySem.Challenge.rw_oh0070_01.row.prog w) A (call (.ref 190) [.ref lf, .int wish t1, .int size t2]) Q E s := by
  intro X T St hl hi hsz hst hd hret
  refine wpAny_call ?_
  k_dflt (refine' enter_def (H := []) (binds := [(Str.ofString "full", .ref lf), (Str.ofString "wish", .int wish t1), (Str.ofString "size", .int size t2)]) ?k1 ?k2 ?k3 ?k4 ?k6 ?k7 ?k8 ?k9 ?kB ?_ ?c2 ?c3 ?c4 ?c5; (case k1 => k_asm); (case k2 => k_asm); (case k3 => k_asm); (case k4 => first | assumption | (intro a ha; cases ha)); (case k6 => k_is); (case k7 => k_is); (case k8 => k_room); (case k9 => first | exact BindsTo.of_eq rfl | exact binds_K (X.keeps St) rfl (by k_is) rfl rfl rfl); (case c5 => decide); (case kB => exact locs rfl); (case c2 => exact rfl); (case c3 => exact rfl); (case c4 => exact rfl); k_whole; intro g L' h' hg hL' F' K' X' T' S'; (try dsimp only); (try k_fold))
  subst hg
  have N' : News s.heap L' h' [] := News.nil
  have pk : PkAt 0 := trivial
  k_steps
  refine unpark ?_
  rename Fr _ _ _ _ => lF'
  rename News _ _ _ _ => lN'
  rename IntsAre its ns => hi
  refine ksw_while (σ := Int × Tok × Nat) (fun _ => []) (fun c => [(Str.ofString "spot", .int c.1 c.2.1)]) (fun _ => True) [] (fun c => standsN ns size c.2.2 c.1 = stands ns wish size) (fun c => c.2.2) (wish, t1, size.toNat) lF' lN' trivial ?kk rfl ?_
  case kk => (intro p hp; cases List.mem_singleton.mp hp; rfl)
  intro c u h tk hf hp Fk Nk
  obtain ⟨sp, tt, k⟩ := c
  dsimp only at hp Fk ⊢
  clear lF' lN'
  k_steps
  · have hin : sp ∈ ns := by simp_all
    obtain ⟨k', rfl, hs'⟩ := stands_step hp hst hin
    refine ksw_end ((sp + 1).fmod size, ?tk, k') (by assumption) (by assumption) (fun _ h => h) trivial ?hk ?hr hs' (Nat.lt_succ_self _)
    case hk => (intro q hq; cases List.mem_singleton.mp hq; rfl)
    case hr => (intro z h2 _; have hz : z ≠ Str.ofString "spot" := h2 _ (List.mem_singleton.mpr rfl); simp [hz, kstB])
  · have hin : sp ∉ ns := by (intro hc; simp_all)
    obtain rfl := stands_out hp hin
    exact hret _ _ _ (Fr.keep (by assumption))
end stands_cC
section
variable {w : World} {mean : ExcName → Option Value} {mg mb : Str → Option Value} {A : Around} {hb : Heap} {s : Shared} {Q E : Value → Shared → Prop}
theorem stands_c {lf : Addr} {its : List Value} {ns : List Int} {wish size : Int} {t1 t2 : Tok} (X : (hd.heap_1 w.params).In hb) (T : Top hd.view_1 (looseW hd.view_1 [Str.ofString "_NodeInfo"]) mean mg mb hb) (St : hb.StaysIn s.heap)
   (hl : s.heap.IsList lf its.toArray) (hi : IntsAre its ns) (hsz : 0 < size) (hst : stands ns wish size ∉ ns) (hd : A.depth + 2 < recursionLimit)
    (hret : ∀ t h' tk', (∀ b o, s.heap.get? b = some o → h'.get? b = some o) → Q (.int (stands ns wish size) t) { s with heap := h', toks := tk' }) :
    wpAny (model PySem.Challenge.rw_oh0070_01.row.prog w) A (call (.ref 190) [.ref lf, .int wish t1, .int size t2]) Q E s := by
  refine Classical.byContradiction fun hz9 => ?_
  exact @Classical.epsilon_spec stands_cP (fun x => ¬ stands_cS x) ⟨⟨w, mean, mg, mb, A, hb, s, Q, E, lf, its, ns, wish, size, t1, t2⟩, fun zz9 => hz9 (zz9 X T St hl hi hsz hst hd hret)⟩ stands_cC.key
end
end Part_M1
section Part_M2
theorem rules_M2 : True := by
  k_with_none
  w_top off
  k_with "m pyIter ref" => refine parkAt (n := 0) (by with_reducible assumption) ?_
  k_with "m mine list" => first | exact isL (by k_asm) (by k_mem) | exact isB (by k_asm) (by assumption)
  k_with "m call builtin:len" => (k_here; (try dsimp only); (with_reducible show wpAny _ _ (call (Value.builtin "len") [Value.ref _]) _ _ _); k_dflt (refine' len_L ?zqk1 ?zqk3 ?zqk4 ?_; (case zqk1 => walk_at "mine list"); (case zqk3 => assumption); (case zqk4 => omega)))
  k_with "m subscriptTail" => (k_here; (try dsimp only); (with_reducible show wpAny _ _ (subscriptTail _ _ (Value.ref _) (Value.int _ _)) _ _ _); k_dflt (first | (refine' item_L ?zqk1 ?zqk3 ?zqk4 ?zqk5 ?zqk6 ?_ ?zqk8; (case zqk1 => walk_at "mine list"); (case zqk3 => assumption); (case zqk5 => with_reducible assumption); (case zqk4 => omega); (case zqk6 => omega); (case zqk8 => with_unfolding_all rfl); k_whole; intro t9) | (refine' out_L ?zqk0 ?zqk1 ?zqk3 ?zqk4 ?zqk5 ?_ ?zqk8; (case zqk0 => first | rfl | assumption); (case zqk1 => walk_at "mine list"); (case zqk3 => assumption); (case zqk4 => omega); (case zqk5 => omega); (case zqk8 => with_unfolding_all rfl); k_whole; intro h9 tk9 e9 x9)))
  k_with "m subscriptTail Name Name ref int" => (k_here; (try dsimp only); (with_reducible show wpAny _ _ (subscriptTail _ _ (Value.ref _) (Value.int _ _)) _ _ _); k_dflt (first | (refine' item_L ?zqk1 ?zqk3 ?zqk4 ?zqk5 ?zqk6 ?_ ?zqk8; (case zqk1 => walk_at "mine list"); (case zqk3 => assumption); (case zqk5 => with_reducible assumption); (case zqk4 => omega); (case zqk6 => omega); (case zqk8 => with_unfolding_all rfl); k_whole; intro t9) | (refine' out_L ?zqk0 ?zqk1 ?zqk3 ?zqk4 ?zqk5 ?_ ?zqk8; (case zqk0 => first | rfl | assumption); (case zqk1 => walk_at "mine list"); (case zqk3 => assumption); (case zqk4 => omega); (case zqk5 => omega); (case zqk8 => with_unfolding_all rfl); k_whole; intro h9 tk9 e9 x9) | (refine' out_over ?zqk0 ?zqkN ?zqkm ?zqkb ?zqk1 ?zqk3 ?zqk4 ?zqk5 ?_ ?zqk8; (case zqk0 => rfl); (case zqkN => k_asm); (case zqkm => k_mem); (case zqkb => assumption); (case zqk1 => walk_at "mine list"); (case zqk3 => assumption); (case zqk4 => omega); (case zqk5 => omega); (case zqk8 => with_unfolding_all rfl); k_whole; intro h9 tk9 e9 x9)))
  k_with "m subscriptTail Name Slice ref ref" => (k_here; k_dflt (refine' kmk_slice_ints ?zqF ?zqN ?zql ?zqpl ?zqpu ?zqhi ?zqhm rfl ?_ ?zqhs ?zqht ?zqhz; (case zqF => k_asm); (case zqN => k_asm); (case zql => walk_at "mine list"); (case zqpl => kmk_part); (case zqpu => kmk_part); (case zqhi => assumption); (case zqhm => first | (with_reducible refine kmk_from (by assumption) ?_; omega) | (with_reducible refine kmk_upto (by assumption) ?_; omega) | with_reducible exact kmk_all (by assumption)); (case zqhs => with_unfolding_all rfl); (case zqht => kmk_pure); (case zqhz => exact kmk_sz (by assumption) (by simp only [sizeLine_eq]; omega)); k_whole; intro D9 ws9 h9 F9 N9 l9 I9 e9 e9'; (try k_lt l9)))
  k_with "m call builtin:list.extend" => (k_here; k_dflt (refine' extend_L ?zqF ?zqN ?zqm ?zqU ?zqi1 ?zqi2 ?zqz ?_; (case zqF => k_asm); (case zqN => k_asm); (case zqU => k_upd); (case zqm => k_mem); (case zqi1 => walk_at "mine ints"); (case zqi2 => walk_at "mine ints"); (case zqz => walk_at "mine len"); k_whole; intro h9 F9 N9 I9))
  k_with "m mine len" => first | omega | (simp only [List.length_append, List.length_drop, List.length_take, List.length_nil, List.length_cons] at *; omega)
  k_with "m mine ints" => first | exact IntsAre.nil | assumption
  k_with "m compareOp In int ref" => (k_here; (try dsimp only); k_dflt (refine' in_L ?zqm ?zqi ?_; (case zqm => walk_at "mine list"); (case zqi => assumption)))
  trivial
theorem fillM2 (w : World) (h : Heap) : PySem.Challenge.rw_oh0070_01.foot = 5 → (hd.heap_1 w.params).In h → True := by
  k_fill
  intro _ _
  trivial
noncomputable def tableFrom (size : Int) : List Int → List Int → List Int
  | acc, [] => acc
  | acc, x :: xs => tableFrom size (acc ++ [stands acc x size]) xs
noncomputable def tableOf (ws : List Int) : List Int := tableFrom (ws.length + 1) [] ws
theorem tableFrom_snoc (size : Int) : ∀ (xs acc : List Int) (x : Int), tableFrom size acc (xs ++ [x]) = tableFrom size acc xs ++ [stands (tableFrom size acc xs) x size]
  | [], _, _ => rfl
  | y :: ys, acc, x => by
    show tableFrom size (acc ++ [stands acc y size]) (ys ++ [x]) = _
    rw [tableFrom_snoc size ys]; rfl
noncomputable abbrev table_cP := (World) × (ExcName → Option Value) × (Str → Option Value) × (Str → Option Value) × (Around) × (Heap) × (Shared) × (Value → Shared → Prop) × (Value → Shared → Prop) × (Addr) × (List Value) × (List Int)
noncomputable def table_cS : table_cP → Prop := fun p => (fun (w : World) (mean : ExcName → Option Value) (mg : Str → Option Value) (mb : Str → Option Value) (A : Around) (hb : Heap) (s : Shared) (Q : Value → Shared → Prop) (E : Value → Shared → Prop) (lw : Addr) (its : List Value) (ws : List Int) => ∀ (X : (hd.heap_1 w.params).In hb)
   (T : Top hd.view_1 (looseW hd.view_1 [Str.ofString "_NodeInfo"]) mean mg mb hb)
   (St : hb.StaysIn s.heap)
   (hl : s.heap.IsList lw its.toArray)
   (hi : IntsAre its ws)
   (hlen : ws.length ≤ 63)
   (hh : A.handled = none)
   (hst : ∀ pre x post, ws = pre ++ x :: post → stands (tableFrom (ws.length + 1) [] pre) x (ws.length + 1) ∉ tableFrom (ws.length + 1) [] pre)
   (hd : A.depth + 4 < recursionLimit)
   (hret : ∀ l its' n' h' tk', (∀ b o, s.heap.get? b = some o → h'.get? b = some o) → h'.get? l = some (listOf its'.toArray n') → s.heap.get? l = none → IntsAre its' (tableOf ws) → Q (.ref l) { s with heap := h', toks := tk' }),
    wpAny (model PySem.Challenge.rw_oh0070_01.row.prog w) A (call (.ref 197) [.ref lw]) Q E s) p.1 p.2.1 p.2.2.1 p.2.2.2.1 p.2.2.2.2.1 p.2.2.2.2.2.1 p.2.2.2.2.2.2.1 p.2.2.2.2.2.2.2.1 p.2.2.2.2.2.2.2.2.1 p.2.2.2.2.2.2.2.2.2.1 p.2.2.2.2.2.2.2.2.2.2.1 p.2.2.2.2.2.2.2.2.2.2.2
noncomputable def table_cX : table_cP := @Classical.epsilon table_cP ⟨⟨⟨fun _ _ => 0, { strHash := fun _ => 0, shareClass := fun _ => 0, mergeTok := fun t => t, idOf := fun _ => 0, idOfShared := fun _ _ => 0, followText := fun _ => false, idOfImm := fun _ => 0 }⟩, fun _ => none, fun _ => none, fun _ => none, callerA, {}, {}, fun _ _ => True, fun _ _ => True, 0, [], []⟩⟩ fun x => ¬ table_cS x
namespace table_cC
noncomputable def w : World := table_cX.1
noncomputable def mean : ExcName → Option Value := table_cX.2.1
noncomputable def mg : Str → Option Value := table_cX.2.2.1
noncomputable def mb : Str → Option Value := table_cX.2.2.2.1
noncomputable def A : Around := table_cX.2.2.2.2.1
noncomputable def hb : Heap := table_cX.2.2.2.2.2.1
noncomputable def s : Shared := table_cX.2.2.2.2.2.2.1
noncomputable def Q : Value → Shared → Prop := table_cX.2.2.2.2.2.2.2.1
noncomputable def E : Value → Shared → Prop := table_cX.2.2.2.2.2.2.2.2.1
noncomputable def lw : Addr := table_cX.2.2.2.2.2.2.2.2.2.1
noncomputable def its : List Value := table_cX.2.2.2.2.2.2.2.2.2.2.1
noncomputable def ws : List Int := table_cX.2.2.2.2.2.2.2.2.2.2.2
theorem key : ∀ (X : (hd.heap_1 w.params).In hb)
   (T : Top hd.view_1 (looseW hd.view_1 [Str.ofString "_NodeInfo"]) mean mg mb hb)
   (St : hb.StaysIn s.heap)
   (hl : s.heap.IsList lw its.toArray)
   (hi : IntsAre its ws)
   (hlen : ws.length ≤ 63)
   (hh : A.handled = none)
   (hst : ∀ pre x post, ws = pre ++ x :: post → stands (tableFrom (ws.length + 1) [] pre) x (ws.length + 1) ∉ tableFrom (ws.length + 1) [] pre)
   (hd : A.depth + 4 < recursionLimit)
   (hret : ∀ l its' n' h' tk', (∀ b o, s.heap.get? b = some o → h'.get? b = some o) → h'.get? l = some (listOf its'.toArray n') → s.heap.get? l = none → IntsAre its' (tableOf ws) → Q (.ref l) { s with heap := h', toks := tk' }),
    wpAny (model PySem.Challenge.rw_oh0070_01.row.prog w) A (call (.ref 197) [.ref lw]) Q E s := by
  intro X T St hl hi hlen hh hst hd hret
  refine wpAny_call ?_
  k_dflt (refine' enter_def (H := []) (binds := [(Str.ofString "wishes", .ref lw)]) ?k1 ?k2 ?k3 ?k4 ?k6 ?k7 ?k8 ?k9 ?kB ?_ ?c2 ?c3 ?c4 ?c5; (case k1 => k_asm); (case k2 => k_asm); (case k3 => k_asm); (case k4 => first | assumption | (intro a ha; cases ha)); (case k6 => k_is); (case k7 => k_is); (case k8 => k_room); (case k9 => first | exact BindsTo.of_eq rfl | exact binds_K (X.keeps St) rfl (by k_is) rfl rfl rfl); (case c5 => decide); (case kB => exact locs rfl); (case c2 => exact rfl); (case c3 => exact rfl); (case c4 => exact rfl); k_whole; intro g L' h' hg hL' F' K' X' T' S'; (try dsimp only); (try k_fold))
  subst hg
  have N' : News s.heap L' h' [] := News.nil
  ((try clear pk); (try clear pk))
  have pk : PkAt 0 := trivial
  k_steps
  refine unpark ?_
  rename Fr _ _ _ _ => lF'
  rename News _ _ _ _ => lN'
  rename IntsAre its ws => hi
  obtain ⟨lt, hlt⟩ := News.lead lN'
  subst hlt
  refine kst_list (σ := List Value × Nat × List Int) (fun c => [(lt, listOf c.1.toArray c.2.1)]) (fun _ => []) (fun c => IntsAre c.1 c.2.2 ∧ c.1.length ≤ 63) [] (fun pre c => c.2.2 = tableFrom (ws.length + 1) [] pre ∧ c.1.length = pre.length) ([], 0, []) hh hl hi lF' lN' ⟨.nil, by simp⟩ (fun _ h => nomatch h) ⟨rfl, rfl⟩ ?_ ?_
  · intro c pre post x t u h tk own hws _ hoff hf hp Fk Nk
    obtain ⟨ti, tn, ta⟩ := c
    obtain ⟨hf, hf2⟩ := hf
    obtain ⟨hp, hp2⟩ := hp
    dsimp only at hf hf2 hp hp2 Fk Nk ⊢
    subst hp
    have hst' := hst pre x post hws
    have hall : ∀ p ∈ own, p.1 ≠ lt := fun p h => hoff p h lt (.head _)
    clear lF' lN'
    have Nk' : News _ _ _ ((lt, listOf ti.toArray tn) :: own) := Nk
    clear Nk
    k_with "call ref" => (k_dflt (refine' stands_c ?k1 ?k2 ?k3 ?k4 ?k5 ?k6 hst' ?k7 ?_; (case k1 => k_asm); (case k2 => k_asm); (case k3 => exact Fr.keep (by k_asm)); (case k4 => exact isL (by k_asm) (by k_mem)); (case k5 => assumption); (case k6 => omega); (case k7 => k_room); intro t9 h9 tk9 K9; have F9 := fr_keeps (by k_asm) K9; have N9 := news_keeps (by k_asm) K9; clear K9))
    k_steps
    rename News _ _ _ _ => nE
    simp only [List.push_toArray] at nE
    have e1 : (pre.length : Int) < ws.length := by rw [hws]; simp; omega
    refine kst_end (ti ++ [.int (stands (tableFrom (ws.length + 1) [] pre) x (ws.length + 1)) ?tk], tn + 1, tableFrom (ws.length + 1) [] (pre ++ [x])) (by assumption) nE ?h1 ?h2 rfl ?h3 (fun _ h => nomatch h) ?h5 ?h6
    case h1 => (intro p hp; cases List.mem_singleton.mp hp; exact .head _)
    case h2 => exact fun p hp => .tail _ hp
    case h3 =>
      refine ⟨?_, ?_⟩
      · rw [tableFrom_snoc]; exact ints_snoc (by assumption) _ _
      · simp only [List.length_append, List.length_singleton]; omega
    case h5 => (intro z hz _ _; simp [hz, kstB])
    case h6 => (refine ⟨rfl, ?_⟩; simp only [List.length_append, List.length_singleton]; omega)
  · intro c u h tk hf hp Fk Nk
    obtain ⟨ti, tn, ta⟩ := c
    obtain ⟨hf, hf2⟩ := hf
    obtain ⟨hp, hp2⟩ := hp
    dsimp only at hf hf2 hp hp2 Fk Nk ⊢
    clear lF' lN'
    k_steps
    rename News _ _ _ _ => nE
    exact hret _ _ _ _ _ (Fr.keep (by assumption)) (nE _ (.head _)).1 (nE _ (.head _)).2.2 (by show IntsAre ti (tableFrom _ _ _); rw [← hp]; exact hf)
end table_cC
section
variable {w : World} {mean : ExcName → Option Value} {mg mb : Str → Option Value} {A : Around} {hb : Heap} {s : Shared} {Q E : Value → Shared → Prop}
theorem table_c {lw : Addr} {its : List Value} {ws : List Int} (X : (hd.heap_1 w.params).In hb) (T : Top hd.view_1 (looseW hd.view_1 [Str.ofString "_NodeInfo"]) mean mg mb hb) (St : hb.StaysIn s.heap)
   (hl : s.heap.IsList lw its.toArray) (hi : IntsAre its ws) (hlen : ws.length ≤ 63) (hh : A.handled = none)
   (hst : ∀ pre x post, ws = pre ++ x :: post → stands (tableFrom (ws.length + 1) [] pre) x (ws.length + 1) ∉ tableFrom (ws.length + 1) [] pre) (hd : A.depth + 4 < recursionLimit)
    (hret : ∀ l its' n' h' tk', (∀ b o, s.heap.get? b = some o → h'.get? b = some o) → h'.get? l = some (listOf its'.toArray n') → s.heap.get? l = none → IntsAre its' (tableOf ws) → Q (.ref l) { s with heap := h', toks := tk' }) :
    wpAny (model PySem.Challenge.rw_oh0070_01.row.prog w) A (call (.ref 197) [.ref lw]) Q E s := by
  refine Classical.byContradiction fun hz9 => ?_
  exact @Classical.epsilon_spec table_cP (fun x => ¬ table_cS x) ⟨⟨w, mean, mg, mb, A, hb, s, Q, E, lw, its, ws⟩, fun zz9 => hz9 (zz9 X T St hl hi hlen hh hst hd hret)⟩ table_cC.key
end
end Part_M2
section Part_M3
theorem rules_M3 : True := by
  k_with_none
  w_top off
  k_with "exec While Constant cons nil" => refine parkAt (n := 0) (by with_reducible assumption) ?_
  k_with "noteFrame ref" => refine parkAt (n := 1) (by with_reducible assumption) ?_
  k_with "m mine list" => first | exact isL (by k_asm) (by k_mem) | exact isB (by k_asm) (by assumption)
  k_with "m call builtin:len" => (k_here; (try dsimp only); (with_reducible show wpAny _ _ (call (Value.builtin "len") [Value.ref _]) _ _ _); k_dflt (refine' len_L ?zqk1 ?zqk3 ?zqk4 ?_; (case zqk1 => walk_at "mine list"); (case zqk3 => assumption); (case zqk4 => omega)))
  k_with "m subscriptTail" => (k_here; (try dsimp only); (with_reducible show wpAny _ _ (subscriptTail _ _ (Value.ref _) (Value.int _ _)) _ _ _); k_dflt (first | (refine' item_L ?zqk1 ?zqk3 ?zqk4 ?zqk5 ?zqk6 ?_ ?zqk8; (case zqk1 => walk_at "mine list"); (case zqk3 => assumption); (case zqk5 => with_reducible assumption); (case zqk4 => omega); (case zqk6 => omega); (case zqk8 => with_unfolding_all rfl); k_whole; intro t9) | (refine' out_L ?zqk0 ?zqk1 ?zqk3 ?zqk4 ?zqk5 ?_ ?zqk8; (case zqk0 => first | rfl | assumption); (case zqk1 => walk_at "mine list"); (case zqk3 => assumption); (case zqk4 => omega); (case zqk5 => omega); (case zqk8 => with_unfolding_all rfl); k_whole; intro h9 tk9 e9 x9)))
  k_with "m subscriptTail Name Name ref int" => (k_here; (try dsimp only); (with_reducible show wpAny _ _ (subscriptTail _ _ (Value.ref _) (Value.int _ _)) _ _ _); k_dflt (first | (refine' item_L ?zqk1 ?zqk3 ?zqk4 ?zqk5 ?zqk6 ?_ ?zqk8; (case zqk1 => walk_at "mine list"); (case zqk3 => assumption); (case zqk5 => with_reducible assumption); (case zqk4 => omega); (case zqk6 => omega); (case zqk8 => with_unfolding_all rfl); k_whole; intro t9) | (refine' out_L ?zqk0 ?zqk1 ?zqk3 ?zqk4 ?zqk5 ?_ ?zqk8; (case zqk0 => first | rfl | assumption); (case zqk1 => walk_at "mine list"); (case zqk3 => assumption); (case zqk4 => omega); (case zqk5 => omega); (case zqk8 => with_unfolding_all rfl); k_whole; intro h9 tk9 e9 x9) | (refine' out_over ?zqk0 ?zqkN ?zqkm ?zqkb ?zqk1 ?zqk3 ?zqk4 ?zqk5 ?_ ?zqk8; (case zqk0 => rfl); (case zqkN => k_asm); (case zqkm => k_mem); (case zqkb => assumption); (case zqk1 => walk_at "mine list"); (case zqk3 => assumption); (case zqk4 => omega); (case zqk5 => omega); (case zqk8 => with_unfolding_all rfl); k_whole; intro h9 tk9 e9 x9)))
  k_with "m subscriptTail Name Slice ref ref" => (k_here; k_dflt (refine' kmk_slice_ints ?zqF ?zqN ?zql ?zqpl ?zqpu ?zqhi ?zqhm rfl ?_ ?zqhs ?zqht ?zqhz; (case zqF => k_asm); (case zqN => k_asm); (case zql => walk_at "mine list"); (case zqpl => kmk_part); (case zqpu => kmk_part); (case zqhi => assumption); (case zqhm => first | (with_reducible refine kmk_from (by assumption) ?_; omega) | (with_reducible refine kmk_upto (by assumption) ?_; omega) | with_reducible exact kmk_all (by assumption)); (case zqhs => with_unfolding_all rfl); (case zqht => kmk_pure); (case zqhz => exact kmk_sz (by assumption) (by simp only [sizeLine_eq]; omega)); k_whole; intro D9 ws9 h9 F9 N9 l9 I9 e9 e9'; (try k_lt l9)))
  k_with "m call builtin:list.extend" => (k_here; k_dflt (refine' extend_L ?zqF ?zqN ?zqm ?zqU ?zqi1 ?zqi2 ?zqz ?_; (case zqF => k_asm); (case zqN => k_asm); (case zqU => k_upd); (case zqm => k_mem); (case zqi1 => walk_at "mine ints"); (case zqi2 => walk_at "mine ints"); (case zqz => walk_at "mine len"); k_whole; intro h9 F9 N9 I9))
  k_with "m mine len" => first | omega | (simp only [List.length_append, List.length_drop, List.length_take, List.length_nil, List.length_cons] at *; omega)
  k_with "m mine ints" => first | exact IntsAre.nil | assumption
  k_with "m compareOp In int ref" => (k_here; (try dsimp only); k_dflt (refine' in_L ?zqm ?zqi ?_; (case zqm => walk_at "mine list"); (case zqi => assumption)))
  trivial
theorem fillM3 (w : World) (h : Heap) : PySem.Challenge.rw_oh0070_01.foot = 5 → (hd.heap_1 w.params).In h → True := by
  k_fill
  intro _ _
  trivial
noncomputable def sldM : List Int → List Int → List Int
  | es, [] => es
  | [], _ :: _ => []
  | e :: es, a :: as => if e = a then sldM es as else e :: sldM es (a :: as)
structure SldPost (h h' : Heap) (frs frs' : List (Addr × Obj)) (lt lm lu : Addr) (mi : List Value) (mn un : Nat) (res : List Int) : Prop where
  keep : ∀ b o, b ∉ frs.map (·.1) → h.get? b = some o → h'.get? b = some o
  up : TI.SameUp frs frs'
  frames : ∀ p ∈ frs', h'.get? p.1 = some p.2
  tup : h'.get? lt = some { cls := .type "tuple", data := .seq #[.ref lm, .ref lu] }
  mis : h'.get? lm = some (listOf mi.toArray mn)
  une : h'.get? lu = some (listOf #[] un)
  areInts : IntsAre mi res
  newT : h.get? lt = none
  newM : h.get? lm = none
  newU : h.get? lu = none
theorem hide_none {h : Heap} {H : List Addr} {a : Addr} (x : (hideAll h H).get? a = none) (n : a ∉ H) : h.get? a = none := by
  cases q : h.get? a with
  | none => rfl
  | some o => rw [hideAll_get _ q n] at x; cases x
theorem not_in_fst {frs : List (Addr × Obj)} {a : Addr} (n : ∀ p ∈ frs, p.1 ≠ a) : a ∉ frs.map (·.1) := fun q => by
  obtain ⟨p, hp, e⟩ := List.mem_map.mp q
  exact n p hp e
theorem sld_fin {h h' : Heap} {L lt lm lu : Addr} {m : Str → Option Value} {frs frs6 : List (Addr × Obj)} {p1 p2 : Addr × Obj} {mi ui : List Value} {mn un : Nat} {us ms res : List Int} (F : Fr (hideAll h (frs.map (·.1))) L h' m)
    (N : News (hideAll h (frs.map (·.1))) L h' ((lt, { cls := .type "tuple", data := .seq #[.ref lm, .ref lu] }) :: p1 :: p2 :: (lu, listOf ui.toArray un) :: (lm, listOf mi.toArray mn) :: frs6))
    (SU : TI.SameUp frs frs6) (nm : ∀ p ∈ frs, p.1 ≠ lm) (nu : ∀ p ∈ frs, p.1 ≠ lu) (nt : AllLt lt frs6) (Iu : IntsAre ui us) (hu : us = []) (Im : IntsAre mi ms) (hm : ms = res) : SldPost h h' frs frs6 lt lm lu mi mn un res := by
  subst hu hm
  have hu : ui = [] := by cases Iu; rfl
  subst hu
  have nt' : ∀ p ∈ frs, p.1 ≠ lt := by
    intro p hp q
    have : p.1 ∈ frs6.map (·.1) := by rw [sameUp_fst SU]; exact List.mem_map_of_mem hp
    obtain ⟨r, hr, e⟩ := List.mem_map.mp this
    exact ne_of_allLt nt r hr (e.trans q)
  exact ⟨fun b o hb ho => F.keep b o (hideAll_get _ ho hb), SU, fun p hp => (N p (.tail _ (.tail _ (.tail _ (.tail _ (.tail _ hp)))))).1, (N _ (.head _)).1,
    (N _ (.tail _ (.tail _ (.tail _ (.tail _ (.head _)))))).1, (N _ (.tail _ (.tail _ (.tail _ (.head _))))).1, Im,
    hide_none (N _ (.head _)).2.2 (not_in_fst nt'), hide_none (N _ (.tail _ (.tail _ (.tail _ (.tail _ (.head _)))))).2.2 (not_in_fst nm), hide_none (N _ (.tail _ (.tail _ (.tail _ (.head _))))).2.2 (not_in_fst nu)⟩
theorem hap2 {hb h : Heap} {L : Addr} {p q : Addr × Obj} {frs : List (Addr × Obj)} (lN : News hb L h (p :: q :: frs)) (np : ∀ r ∈ frs, r.1 ≠ p.1) (nq : ∀ r ∈ frs, r.1 ≠ q.1) : ∀ x ∈ [p, q], x.1 ∉ L :: frs.map (·.1) := by
  intro x hx hq
  rcases List.mem_cons.mp hx with rfl | hx
  · rcases List.mem_cons.mp hq with e | e
    · exact (lN _ (.head _)).2.1 e
    · exact not_in_fst np e
  · cases List.mem_singleton.mp hx
    rcases List.mem_cons.mp hq with e | e
    · exact (lN _ (.tail _ (.head _))).2.1 e
    · exact not_in_fst nq e
theorem rising_next {l : List Int} (h : l.Pairwise (· < ·)) {i : Nat} (hi : i + 1 < l.length) : l[i + 1] ≠ l[i] := by
  have := (List.pairwise_iff_getElem.mp h) i (i + 1) (by omega) hi (by omega)
  omega
theorem tok_of {h₀ h : Heap} {L lm : Addr} {p : Addr × Obj} {mi : List Value} {e : Int} {t : Tok} {n : Nat} {frs : List (Addr × Obj)} (N : News h₀ L h (p :: (lm, listOf (mi ++ [Value.int e t]).toArray n) :: frs)) :
    ∃ tt, News h₀ L h (p :: (lm, listOf (mi ++ [Value.int e tt]).toArray n) :: frs) := ⟨t, N⟩
noncomputable abbrev sld_cP := (World) × (ExcName → Option Value) × (Str → Option Value) × (Str → Option Value) × (Around) × (Heap) × (Shared) × (Value → Shared → Prop) × (Value → Shared → Prop) × (Addr) × (Addr) × (List Value) × (List Value) × (List Int) × (List Int) × (List Env) × (List (Addr × Obj))
noncomputable def sld_cS : sld_cP → Prop := fun p => (fun (w : World) (mean : ExcName → Option Value) (mg : Str → Option Value) (mb : Str → Option Value) (A : Around) (hb : Heap) (s : Shared) (Q : Value → Shared → Prop) (E : Value → Shared → Prop) (le : Addr) (la : Addr) (ei : List Value) (ai : List Value) (es : List Int) (as : List Int) (l : List Env) (frs : List (Addr × Obj)) => ∀ (X : (hd.heap_1 w.params).In hb)
   (T : Top hd.view_1 (looseW hd.view_1 [Str.ofString "_NodeInfo"]) mean mg mb hb)
   (St : hb.StaysIn s.heap)
   (hfr : A.frames = some l)
   (Fs : FrsIn hb s.heap l frs)
   (hh : A.handled = none)
   (hle : s.heap.IsList le ei.toArray)
   (hie : IntsAre ei es)
   (hla : s.heap.IsList la ai.toArray)
   (hia : IntsAre ai as)
   (hel : es.length ≤ 63)
   (hal : as.length ≤ 63)
   (hes : es.Pairwise (· < ·))
   (hsub : as.Sublist es)
   (hpos : 0 < es.length)
   (hd : A.depth + 3 < recursionLimit)
   (hret : ∀ lt lm lu mi mn un frs' h' tk', SldPost s.heap h' frs frs' lt lm lu mi mn un (sldM es as) → Q (.ref lt) { s with heap := h', toks := tk' }),
    wpAny (model PySem.Challenge.rw_oh0070_01.row.prog w) A (call (.ref 176) [.ref le, .ref la]) Q E s) p.1 p.2.1 p.2.2.1 p.2.2.2.1 p.2.2.2.2.1 p.2.2.2.2.2.1 p.2.2.2.2.2.2.1 p.2.2.2.2.2.2.2.1 p.2.2.2.2.2.2.2.2.1 p.2.2.2.2.2.2.2.2.2.1 p.2.2.2.2.2.2.2.2.2.2.1 p.2.2.2.2.2.2.2.2.2.2.2.1 p.2.2.2.2.2.2.2.2.2.2.2.2.1 p.2.2.2.2.2.2.2.2.2.2.2.2.2.1 p.2.2.2.2.2.2.2.2.2.2.2.2.2.2.1 p.2.2.2.2.2.2.2.2.2.2.2.2.2.2.2.1 p.2.2.2.2.2.2.2.2.2.2.2.2.2.2.2.2
noncomputable def sld_cX : sld_cP := @Classical.epsilon sld_cP ⟨⟨⟨fun _ _ => 0, { strHash := fun _ => 0, shareClass := fun _ => 0, mergeTok := fun t => t, idOf := fun _ => 0, idOfShared := fun _ _ => 0, followText := fun _ => false, idOfImm := fun _ => 0 }⟩, fun _ => none, fun _ => none, fun _ => none, callerA, {}, {}, fun _ _ => True, fun _ _ => True, 0, 0, [], [], [], [], [], []⟩⟩ fun x => ¬ sld_cS x
namespace sld_cC
noncomputable def w : World := sld_cX.1
noncomputable def mean : ExcName → Option Value := sld_cX.2.1
noncomputable def mg : Str → Option Value := sld_cX.2.2.1
noncomputable def mb : Str → Option Value := sld_cX.2.2.2.1
noncomputable def A : Around := sld_cX.2.2.2.2.1
noncomputable def hb : Heap := sld_cX.2.2.2.2.2.1
noncomputable def s : Shared := sld_cX.2.2.2.2.2.2.1
noncomputable def Q : Value → Shared → Prop := sld_cX.2.2.2.2.2.2.2.1
noncomputable def E : Value → Shared → Prop := sld_cX.2.2.2.2.2.2.2.2.1
noncomputable def le : Addr := sld_cX.2.2.2.2.2.2.2.2.2.1
noncomputable def la : Addr := sld_cX.2.2.2.2.2.2.2.2.2.2.1
noncomputable def ei : List Value := sld_cX.2.2.2.2.2.2.2.2.2.2.2.1
noncomputable def ai : List Value := sld_cX.2.2.2.2.2.2.2.2.2.2.2.2.1
noncomputable def es : List Int := sld_cX.2.2.2.2.2.2.2.2.2.2.2.2.2.1
noncomputable def as : List Int := sld_cX.2.2.2.2.2.2.2.2.2.2.2.2.2.2.1
noncomputable def l : List Env := sld_cX.2.2.2.2.2.2.2.2.2.2.2.2.2.2.2.1
noncomputable def frs : List (Addr × Obj) := sld_cX.2.2.2.2.2.2.2.2.2.2.2.2.2.2.2.2
theorem key : ∀ (X : (hd.heap_1 w.params).In hb)
   (T : Top hd.view_1 (looseW hd.view_1 [Str.ofString "_NodeInfo"]) mean mg mb hb)
   (St : hb.StaysIn s.heap)
   (hfr : A.frames = some l)
   (Fs : FrsIn hb s.heap l frs)
   (hh : A.handled = none)
   (hle : s.heap.IsList le ei.toArray)
   (hie : IntsAre ei es)
   (hla : s.heap.IsList la ai.toArray)
   (hia : IntsAre ai as)
   (hel : es.length ≤ 63)
   (hal : as.length ≤ 63)
   (hes : es.Pairwise (· < ·))
   (hsub : as.Sublist es)
   (hpos : 0 < es.length)
   (hd : A.depth + 3 < recursionLimit)
   (hret : ∀ lt lm lu mi mn un frs' h' tk', SldPost s.heap h' frs frs' lt lm lu mi mn un (sldM es as) → Q (.ref lt) { s with heap := h', toks := tk' }),
    wpAny (model PySem.Challenge.rw_oh0070_01.row.prog w) A (call (.ref 176) [.ref le, .ref la]) Q E s := by
  intro X T St hfr Fs hh hle hie hla hia hel hal hes hsub hpos hd hret
  have has : as.Pairwise (· < ·) := hes.sublist hsub
  refine wpAny_call ?_
  have hH := frs_off Fs
  k_dflt (refine' enter_def (H := frs.map (·.1)) (binds := [(Str.ofString "expected", .ref le), (Str.ofString "actual", .ref la)]) ?k1 ?k2 ?k3 ?k4 ?k6 ?k7 ?k8 ?k9 ?kB ?_ ?c2 ?c3 ?c4 ?c5; (case k1 => k_asm); (case k2 => k_asm); (case k3 => k_asm); (case k4 => first | assumption | (intro a ha; cases ha)); (case k6 => k_is); (case k7 => k_is); (case k8 => k_room); (case k9 => first | exact BindsTo.of_eq rfl | exact binds_K (X.keeps St) rfl (by k_is) rfl rfl rfl); (case c5 => decide); (case kB => exact locs rfl); (case c2 => exact rfl); (case c3 => exact rfl); (case c4 => exact rfl); k_whole; intro g L' h' hg hL' F' K' X' T' S'; (try dsimp only); (try k_fold))
  subst hg hL'
  have N' := frs_news Fs K'
  replace hle := isList_hide hle Fs
  replace hla := isList_hide hla Fs
  ((try clear pk); (try clear pk))
  have pk : PkAt 0 := trivial
  k_steps
  refine unpark ?_
  rename Fr _ _ _ _ => lF'
  rename News _ _ _ _ => lN'
  obtain ⟨lu, hlu⟩ := News.lead lN'
  subst hlu
  obtain ⟨lm, hlm⟩ := News.lead (fun p hp => lN' p (.tail _ hp))
  subst hlm
  rename (lm < lu ∧ AllLt lu frs) => l2
  rename (∀ p ∈ frs, p.1 < lm) => l1
  rename IntsAre ei es => hie
  rename IntsAre ai as => hia
  have nm : ∀ p ∈ frs, p.1 ≠ lm := fun p hp => Nat.ne_of_lt (l1 p hp)
  have nu : ∀ p ∈ frs, p.1 ≠ lu := ne_of_allLt l2.2
  have hlt : lm < lu := l2.1
  refine ksw_while (σ := (Nat × Nat) × (Tok × Tok) × List Value × Nat × List Int) (fun c => (lu, listOf #[] 0) :: (lm, listOf c.2.2.1.toArray c.2.2.2.1) :: frs) (fun c => [(Str.ofString "i", .int c.1.1 c.2.1.1), (Str.ofString "j", .int c.1.2 c.2.1.2)]) (fun c => IntsAre c.2.2.1 c.2.2.2.2) [Str.ofString "e", Str.ofString "a"]
    (fun c => c.1.1 < es.length ∧ (as.drop c.1.2).Sublist (es.drop c.1.1) ∧ c.2.2.2.2.length ≤ c.1.1 ∧ c.2.2.2.2 ++ sldM (es.drop c.1.1) (as.drop c.1.2) = sldM es as ∧ c.1.2 ≤ as.length) (fun c => es.length - c.1.1) ((0, 0), (?ta, ?tb), [], 0, []) lF' lN' .nil ?kk ?kp ?_
  case kk => (intro p hp; rcases List.mem_cons.mp hp with rfl | hp; exact rfl; cases List.mem_singleton.mp hp; exact rfl)
  case kp => exact ⟨hpos, by simpa using hsub, by simp, by simp, by simp⟩
  clear lF' lN'
  intro c u h tk hf hp Fk Nk
  obtain ⟨⟨i, j⟩, ⟨ti, tj⟩, mi, mn, ms⟩ := c
  dsimp only at hf hp Fk Nk ⊢
  obtain ⟨hi, hsb, hml, hres, hjl⟩ := hp
  cases hq : as.drop j with
  | nil =>
    have hj : as.length ≤ j := List.drop_eq_nil_iff.mp hq
    have hx : es[((i : Nat) : Int).toNat]? = some es[i] := by simp
    have hj' : j ≤ 100 := by omega
    have pk : PkAt 1 := trivial
    k_steps
    refine unpark ?_
    rename Heap.NewExc _ _ _ _ => hx
    rename Fr _ _ _ _ => lF
    rename News _ _ _ _ => lN
    refine catch_IndexError (new := [_, _]) hfr Fs.1 (NewExcG.of hx) lF lN (hap2 lN nu nm) T' ?_ rfl rfl
    clear hx lF lN
    intro h6 frs6 SU6 Fs6 F6 N6
    simp only [List.cons_append, List.nil_append] at N6
    have nm6 := sameUp_ne SU6 nm
    have nu6 := sameUp_ne SU6 nu
    ((try clear pk); (try clear pk))
    k_steps
    rename News _ _ _ _ => nE
    rename Fr _ _ _ _ => fE
    rename (_ ∧ _ ∧ _ ∧ _ ∧ AllLt _ frs6) => lE
    exact hret _ _ _ _ _ _ _ _ _ (sld_fin fE nE SU6 nm nu lE.2.2.2.2 (by assumption) (by rw [List.nil_append, Int.toNat_natCast]; exact hq) (by assumption) (by rw [← hres, hq, Int.toNat_natCast]; cases es.drop i <;> rfl))
  | cons a as' =>
    have hj : j < as.length := by
      refine Nat.lt_of_not_le fun hle => ?_
      rw [List.drop_eq_nil_of_le hle] at hq
      cases hq
    have hxa : as[((j : Nat) : Int).toNat]? = some a := by
      have := congrArg List.head? hq
      simpa [List.head?_drop] using this
    obtain ⟨e, he⟩ : ∃ e, es[i]? = some e := ⟨es[i], by simp⟩
    have hxe : es[((i : Nat) : Int).toNat]? = some e := by simpa using he
    have hgi : es[i] = e := by simpa [hi] using he
    have hgj : as[j] = a := by
      have h1 := List.drop_eq_getElem_cons hj
      rw [hq] at h1
      exact (List.cons.inj h1).1.symm
    have hqs : as' = as.drop (j + 1) := by
      have h1 := List.drop_eq_getElem_cons hj
      rw [hq] at h1
      exact (List.cons.inj h1).2
    have hde : es.drop i = e :: es.drop (i + 1) := by
      have h1 := List.drop_eq_getElem_cons hi
      rw [h1, hgi]
    rw [hq, hde] at hsb hres
    have hj' : j ≤ 100 := by omega
    by_cases hea : e = a
    · subst hea
      rw [sldM, if_pos rfl] at hres
      have hsb' : as'.Sublist (es.drop (i + 1)) := by
        cases hsb with
        | cons _ h => exact (List.sublist_cons_self _ _).trans h
        | cons_cons _ h => exact h
      by_cases hi1 : i + 1 < es.length
      · have hx2 : es[(((i : Nat) : Int) + 1).toNat]? = some es[i + 1] := by
          rw [show (((i : Nat) : Int) + 1).toNat = i + 1 by omega]; simp
        have hne2 : es[i + 1] ≠ e := by
          have := rising_next hes hi1
          rwa [hgi] at this
        by_cases hj1 : j + 1 < as.length
        · have hxa2 : as[(((j : Nat) : Int) + 1).toNat]? = some as[j + 1] := by
            rw [show (((j : Nat) : Int) + 1).toNat = j + 1 by omega]; simp
          have hne3 : as[j + 1] ≠ e := by
            have := rising_next has hj1
            rwa [hgj] at this
          ((try clear pk); (try clear pk))
          k_with "exec While Compare cons nil" => refine while_once (by passes_own) ?_
          k_steps
          · simpa using hne2
          · simpa using hne3
          · refine ksw_end ((i + 1, j + 1), (?t1, ?t2), mi, mn, ms) (by assumption) (by assumption) (fun _ h => h) ?hf ?hk ?hr ⟨hi1, ?_, ?_, ?_, ?_⟩ ?_
            case hf => assumption
            case hk => (intro p hp; rcases List.mem_cons.mp hp with rfl | hp; exact rfl; cases List.mem_singleton.mp hp; exact rfl)
            case hr => (intro z h2 h3; have z1 : z ≠ Str.ofString "i" := h2 _ (List.mem_cons_self); have z2 : z ≠ Str.ofString "j" := h2 _ (List.mem_cons_of_mem _ List.mem_cons_self); have z3 : z ≠ Str.ofString "e" ∧ z ≠ Str.ofString "a" := (by simpa using h3); simp [z1, z2, z3.1, z3.2, kstB])
            · rw [← hqs]; exact hsb'
            · show ms.length ≤ i + 1; omega
            · rw [← hqs]; exact hres
            · show j + 1 ≤ as.length; omega
            · show es.length - (i + 1) < es.length - i; omega
        · have hj1' : as.length ≤ j + 1 := by omega
          have hqn : as.drop (j + 1) = [] := List.drop_eq_nil_of_le hj1'
          ((try clear pk); (try clear pk))
          have pk : PkAt 1 := trivial
          k_with "exec While Compare cons nil" => refine while_once (by passes_own) ?_
          k_steps
          · simpa using hne2
          · refine PassesOwn.looking _ _ ?_
            rename Heap.NewExc _ _ _ _ => hx
            rename Fr _ _ _ _ => lF
            rename News _ _ _ _ => lN
            refine catch_IndexError (new := [_, _]) hfr Fs.1 (NewExcG.of hx) lF lN (hap2 lN nu nm) T' ?_ rfl rfl
            clear hx lF lN
            intro h6 frs6 SU6 Fs6 F6 N6
            simp only [List.cons_append, List.nil_append] at N6
            have nm6 := sameUp_ne SU6 nm
            have nu6 := sameUp_ne SU6 nu
            ((try clear pk); (try clear pk))
            k_steps
            rename News _ _ _ _ => nE
            rename Fr _ _ _ _ => fE
            rename (_ ∧ _ ∧ _ ∧ _ ∧ AllLt _ frs6) => lE
            exact hret _ _ _ _ _ _ _ _ _ (sld_fin fE nE SU6 nm nu lE.2.2.2.2 (by assumption) (by rw [List.nil_append, show (((j : Nat) : Int) + 1).toNat = j + 1 by omega]; exact hqn) (by assumption) (by rw [← hres, hqs, hqn, show (((i : Nat) : Int) + 1).toNat = i + 1 by omega]; cases es.drop (i + 1) <;> rfl))
      · have hi1' : es.length ≤ i + 1 := by omega
        have hen : es.drop (i + 1) = [] := List.drop_eq_nil_of_le hi1'
        have hqn : as.drop (j + 1) = [] := by
          rw [hen] at hsb'
          rw [← hqs]; exact List.sublist_nil.mp hsb'
        have hj1' : as.length ≤ j + 1 := List.drop_eq_nil_iff.mp hqn
        ((try clear pk); (try clear pk))
        have pk : PkAt 1 := trivial
        k_with "exec While Compare cons nil" => refine while_once (by passes_own) ?_
        k_steps
        refine unpark ?_
        rename Heap.NewExc _ _ _ _ => hx
        rename Fr _ _ _ _ => lF
        rename News _ _ _ _ => lN
        refine noted_bare (new := [_, _]) hfr Fs.1 hx lF lN (hap2 lN nu nm) ?_ rfl
        clear hx lF lN
        intro h6 frs6 ob6 SU6 Fs6 H6 he6 hb6
        have nm6 := sameUp_ne SU6 nm
        have nu6 := sameUp_ne SU6 nu
        refine finally_raised H6 he6 hb6 ?_
        clear H6 he6
        intro h7 F7 N7
        simp only [List.cons_append, List.nil_append] at N7
        k_steps
        refine PassesOwnAt.looking _ _ ?_
        rename NewExcG _ _ _ _ => hx
        rename Fr _ _ _ _ => lF
        rename News _ _ _ _ => lN
        replace lN : News _ _ _ ([_, _] ++ frs6) := fun p hp => lN p (.tail _ hp)
        refine catch_IndexError (new := [_, _]) hfr Fs6 hx lF lN (hap2 lN nu6 nm6) T' ?_ rfl rfl
        clear hx lF lN
        intro h8 frs8 SU8 Fs8 F8 N8
        simp only [List.cons_append, List.nil_append] at N8
        have SU9 := TI.SameUp.trans SU6 SU8
        have nm8 := sameUp_ne SU9 nm
        have nu8 := sameUp_ne SU9 nu
        ((try clear pk); (try clear pk))
        k_steps
        rename News _ _ _ _ => nE
        rename Fr _ _ _ _ => fE
        rename (_ ∧ _ ∧ _ ∧ _ ∧ AllLt _ frs8) => lE
        exact hret _ _ _ _ _ _ _ _ _ (sld_fin fE nE SU9 nm nu lE.2.2.2.2 (by assumption) (by rw [List.nil_append, show (((j : Nat) : Int) + 1).toNat = j + 1 by omega]; exact hqn) (by assumption) (by rw [← hres, hqs, hqn, show (((i : Nat) : Int) + 1).toNat = i + 1 by omega]; cases es.drop (i + 1) <;> rfl))
    · have hin : a ∈ es.drop (i + 1) := by
        have h1 : a ∈ e :: es.drop (i + 1) := hsb.subset (.head _)
        rcases List.mem_cons.mp h1 with h1 | h1
        · exact absurd h1.symm hea
        · exact h1
      have hlt2 : e < a := by
        have h1 : (e :: es.drop (i + 1)).Pairwise (· < ·) := hde ▸ (hes.sublist (List.drop_sublist _ _))
        exact (List.pairwise_cons.mp h1).1 a hin
      have hi1 : i + 1 < es.length := by
        refine Nat.lt_of_not_le fun hle => ?_
        rw [List.drop_eq_nil_of_le hle] at hin
        cases hin
      have hx2 : es[(((i : Nat) : Int) + 1).toNat]? = some es[i + 1] := by
        rw [show (((i : Nat) : Int) + 1).toNat = i + 1 by omega]; simp
      have hne2 : es[i + 1] ≠ e := by
        have := rising_next hes hi1
        rwa [hgi] at this
      rw [sldM, if_neg hea] at hres
      have hsb' : (a :: as').Sublist (es.drop (i + 1)) := by
        cases hsb with
        | cons _ h => exact h
        | cons_cons _ h => exact absurd rfl hea
      ((try clear pk); (try clear pk))
      k_with "exec While Compare cons nil" => refine while_once (by passes_own) ?_
      k_steps
      · simpa using hne2
      · rename News _ _ _ _ => nE
        simp only [List.push_toArray] at nE
        obtain ⟨tt, nE⟩ := tok_of nE
        refine ksw_end ((i + 1, j), (?t4, ?t5), mi ++ [.int e tt], mn + 1, ms ++ [e]) (by assumption) nE (fun _ h => h) ?hf ?hk ?hr ⟨hi1, ?_, ?_, ?_, ?_⟩ ?_
        case hf => exact ints_snoc (by assumption) _ _
        case hk => (intro p hp; rcases List.mem_cons.mp hp with rfl | hp; exact rfl; cases List.mem_singleton.mp hp; exact rfl)
        case hr => (intro z h2 h3; have z1 : z ≠ Str.ofString "i" := h2 _ (List.mem_cons_self); have z2 : z ≠ Str.ofString "j" := h2 _ (List.mem_cons_of_mem _ List.mem_cons_self); have z3 : z ≠ Str.ofString "e" ∧ z ≠ Str.ofString "a" := (by simpa using h3); simp [z1, z2, z3.1, z3.2, kstB])
        · rw [hq]; exact hsb'
        · show (ms ++ [e]).length ≤ i + 1; simp; omega
        · rw [hq, List.append_assoc]; exact hres
        · show j ≤ as.length; omega
        · show es.length - (i + 1) < es.length - i; omega
end sld_cC
section
variable {w : World} {mean : ExcName → Option Value} {mg mb : Str → Option Value} {A : Around} {hb : Heap} {s : Shared} {Q E : Value → Shared → Prop}
theorem sld_c {le la : Addr} {ei ai : List Value} {es as : List Int} {l : List Env} {frs : List (Addr × Obj)} (X : (hd.heap_1 w.params).In hb) (T : Top hd.view_1 (looseW hd.view_1 [Str.ofString "_NodeInfo"]) mean mg mb hb) (St : hb.StaysIn s.heap)
   (hfr : A.frames = some l) (Fs : FrsIn hb s.heap l frs) (hh : A.handled = none)
   (hle : s.heap.IsList le ei.toArray) (hie : IntsAre ei es) (hla : s.heap.IsList la ai.toArray) (hia : IntsAre ai as) (hel : es.length ≤ 63) (hal : as.length ≤ 63)
   (hes : es.Pairwise (· < ·)) (hsub : as.Sublist es) (hpos : 0 < es.length)
   (hd : A.depth + 3 < recursionLimit)
    (hret : ∀ lt lm lu mi mn un frs' h' tk', SldPost s.heap h' frs frs' lt lm lu mi mn un (sldM es as) → Q (.ref lt) { s with heap := h', toks := tk' }) :
    wpAny (model PySem.Challenge.rw_oh0070_01.row.prog w) A (call (.ref 176) [.ref le, .ref la]) Q E s := by
  refine Classical.byContradiction fun hz9 => ?_
  exact @Classical.epsilon_spec sld_cP (fun x => ¬ sld_cS x) ⟨⟨w, mean, mg, mb, A, hb, s, Q, E, le, la, ei, ai, es, as, l, frs⟩, fun zz9 => hz9 (zz9 X T St hfr Fs hh hle hie hla hia hel hal hes hsub hpos hd hret)⟩ sld_cC.key
end
end Part_M3
section Part_M4
theorem rules_M4 : True := by
  k_with_none
  w_top off
  k_with "exec While Name cons nil" => refine parkAt (n := 0) (by with_reducible assumption) ?_
  k_with "noteFrame ref" => refine parkAt (n := 1) (by with_reducible assumption) ?_
  k_with "m mine list" => first | exact isL (by k_asm) (by k_mem) | exact isB (by k_asm) (by assumption)
  k_with "m call builtin:len" => (k_here; (try dsimp only); (with_reducible show wpAny _ _ (call (Value.builtin "len") [Value.ref _]) _ _ _); k_dflt (refine' len_L ?zqk1 ?zqk3 ?zqk4 ?_; (case zqk1 => walk_at "mine list"); (case zqk3 => assumption); (case zqk4 => omega)))
  k_with "m subscriptTail" => (k_here; (try dsimp only); (with_reducible show wpAny _ _ (subscriptTail _ _ (Value.ref _) (Value.int _ _)) _ _ _); k_dflt (first | (refine' item_L ?zqk1 ?zqk3 ?zqk4 ?zqk5 ?zqk6 ?_ ?zqk8; (case zqk1 => walk_at "mine list"); (case zqk3 => assumption); (case zqk5 => with_reducible assumption); (case zqk4 => omega); (case zqk6 => omega); (case zqk8 => with_unfolding_all rfl); k_whole; intro t9) | (refine' out_L ?zqk0 ?zqk1 ?zqk3 ?zqk4 ?zqk5 ?_ ?zqk8; (case zqk0 => first | rfl | assumption); (case zqk1 => walk_at "mine list"); (case zqk3 => assumption); (case zqk4 => omega); (case zqk5 => omega); (case zqk8 => with_unfolding_all rfl); k_whole; intro h9 tk9 e9 x9)))
  k_with "m subscriptTail Name Name ref int" => (k_here; (try dsimp only); (with_reducible show wpAny _ _ (subscriptTail _ _ (Value.ref _) (Value.int _ _)) _ _ _); k_dflt (first | (refine' item_L ?zqk1 ?zqk3 ?zqk4 ?zqk5 ?zqk6 ?_ ?zqk8; (case zqk1 => walk_at "mine list"); (case zqk3 => assumption); (case zqk5 => with_reducible assumption); (case zqk4 => omega); (case zqk6 => omega); (case zqk8 => with_unfolding_all rfl); k_whole; intro t9) | (refine' out_L ?zqk0 ?zqk1 ?zqk3 ?zqk4 ?zqk5 ?_ ?zqk8; (case zqk0 => first | rfl | assumption); (case zqk1 => walk_at "mine list"); (case zqk3 => assumption); (case zqk4 => omega); (case zqk5 => omega); (case zqk8 => with_unfolding_all rfl); k_whole; intro h9 tk9 e9 x9) | (refine' out_over ?zqk0 ?zqkN ?zqkm ?zqkb ?zqk1 ?zqk3 ?zqk4 ?zqk5 ?_ ?zqk8; (case zqk0 => rfl); (case zqkN => k_asm); (case zqkm => k_mem); (case zqkb => assumption); (case zqk1 => walk_at "mine list"); (case zqk3 => assumption); (case zqk4 => omega); (case zqk5 => omega); (case zqk8 => with_unfolding_all rfl); k_whole; intro h9 tk9 e9 x9)))
  k_with "m subscriptTail Name Slice ref ref" => (k_here; k_dflt (refine' kmk_slice_ints ?zqF ?zqN ?zql ?zqpl ?zqpu ?zqhi ?zqhm rfl ?_ ?zqhs ?zqht ?zqhz; (case zqF => k_asm); (case zqN => k_asm); (case zql => walk_at "mine list"); (case zqpl => kmk_part); (case zqpu => kmk_part); (case zqhi => assumption); (case zqhm => first | (with_reducible refine kmk_from (by assumption) ?_; omega) | (with_reducible refine kmk_upto (by assumption) ?_; omega) | with_reducible exact kmk_all (by assumption)); (case zqhs => with_unfolding_all rfl); (case zqht => kmk_pure); (case zqhz => exact kmk_sz (by assumption) (by simp only [sizeLine_eq]; omega)); k_whole; intro D9 ws9 h9 F9 N9 l9 I9 e9 e9'; (try k_lt l9)))
  k_with "m call builtin:list.extend" => (k_here; k_dflt (refine' extend_L ?zqF ?zqN ?zqm ?zqU ?zqi1 ?zqi2 ?zqz ?_; (case zqF => k_asm); (case zqN => k_asm); (case zqU => k_upd); (case zqm => k_mem); (case zqi1 => walk_at "mine ints"); (case zqi2 => walk_at "mine ints"); (case zqz => walk_at "mine len"); k_whole; intro h9 F9 N9 I9))
  k_with "m mine len" => first | omega | (simp only [List.length_append, List.length_drop, List.length_take, List.length_nil, List.length_cons] at *; omega)
  k_with "m mine ints" => first | exact IntsAre.nil | assumption
  k_with "m compareOp In int ref" => (k_here; (try dsimp only); k_dflt (refine' in_L ?zqm ?zqi ?_; (case zqm => walk_at "mine list"); (case zqi => assumption)))
  k_with "m call builtin:list.pop" => (k_here; (try dsimp only); (with_reducible show wpAny _ _ (call (Value.builtin "list.pop") [Value.ref _]) _ _ _); k_dflt (refine' pop_L ?zqF ?zqN ?zqi ?zqz ?zqU ?_; (case zqF => k_asm); (case zqN => k_asm); (case zqU => k_upd); (case zqi => with_reducible assumption); (case zqz => omega); k_whole; intro h9 t9 F9 N9 I9))
  k_with "m call builtin:list.remove" => (k_here; (try dsimp only); (with_reducible show wpAny _ _ (call (Value.builtin "list.remove") [Value.ref _, Value.int _ _]) _ _ _); k_dflt (first | (refine' remove_L ?zqF ?zqN ?zqi ?zqm ?zqz ?zqU ?_; (case zqF => k_asm); (case zqN => k_asm); (case zqU => k_upd); (case zqi => with_reducible assumption); (case zqm => assumption); (case zqz => omega); k_whole; intro h9 F9 N9 I9) | (refine' remove_none ?zqA ?zqN ?zqm ?zqi ?zqk ?_; (case zqA => first | rfl | assumption); (case zqN => k_asm); (case zqm => k_mem); (case zqi => with_reducible assumption); (case zqk => assumption); k_whole; intro h9 tk9 e9 x9)))
  trivial
theorem fillM4 (w : World) (h : Heap) : PySem.Challenge.rw_oh0070_01.foot = 5 → (hd.heap_1 w.params).In h → True := by
  k_fill
  intro _ _
  trivial
theorem ints_at {its : List Value} {ns : List Int} (h : IntsAre its ns) (x : Int) (hx : x ∈ ns) : kf_at x its = some (ns.idxOf x) := by
  induction h with
  | nil => cases hx
  | @cons n t its ns _ ih =>
    unfold kf_at
    by_cases e : n = x
    · subst e
      have : isInt n (.int n t) = true := by show (n == n) = true; simp
      rw [this]; simp
    · have : isInt x (.int n t) = false := by show (n == x) = false; simp [e]
      rw [this, ih ((List.mem_cons.mp hx).resolve_left (Ne.symm e)), List.idxOf_cons]
      have : (n == x) = false := by simpa using e
      rw [this]; rfl
theorem ints_del {its : List Value} {ns : List Int} (h : IntsAre its ns) : ∀ j : Nat, j < ns.length → ki_delL its j = some (its.eraseIdx j) ∧ IntsAre (its.eraseIdx j) (ns.eraseIdx j) := by
  induction h with
  | nil => intro j hj; exact absurd hj (Nat.not_lt_zero _)
  | @cons n t its ns hr ih =>
    intro j hj
    cases j with
    | zero => exact ⟨rfl, hr⟩
    | succ j =>
      obtain ⟨a, b⟩ := ih j (by simpa using hj)
      refine ⟨?_, .cons n t b⟩
      unfold ki_delL
      rw [a]; rfl
theorem erase_idx (l : List Int) (x : Int) (h : x ∈ l) : l.eraseIdx (l.idxOf x) = l.erase x := by
  exact (List.erase_eq_eraseIdx_of_idxOf rfl).symm
noncomputable def uldR : List Int → List Int → List Int → List Int × List Int
  | [], as, ms => (ms, as)
  | x :: r, as, ms => if x ∈ as then uldR r (as.erase x) ms else uldR r as (ms ++ [x])
theorem chg_off {hb h : Heap} {l : List (Addr × Obj)} (C : ∀ p ∈ l, h.get? p.1 = some p.2 ∧ hb.get? p.1 = none) : ∀ a ∈ l.map (·.1), hb.get? a = none := fun a ha => by
  obtain ⟨p, hp, rfl⟩ := List.mem_map.mp ha
  exact (C p hp).2
theorem chg_news {hb h h' : Heap} {l : List (Addr × Obj)} (C : ∀ p ∈ l, h.get? p.1 = some p.2 ∧ hb.get? p.1 = none) (k : ∀ b o, h.get? b = some o → h'.get? b = some o) : News (hideAll h (l.map (·.1))) h.objs.size h' l := fun p hp =>
  ⟨k _ _ (C p hp).1, Nat.ne_of_lt (Heap.lt_size (C p hp).1), hideAll_none _ (List.mem_map_of_mem hp)⟩
section
variable {prog : Program} {w : World} {A : Around} {E : Value → Shared → Prop} {s : Shared} {h₀ h : Heap} {L D : Addr} {m : Str → Option Value} {news news' : List (Addr × Obj)} {its : List Value} {ns : List Int} {n : Nat}
theorem remove_L {k : Int} {t : Tok} {Q : Value → Shared → Prop} (F : Fr h₀ L s.heap m) (N : News h₀ L s.heap news) (hi : IntsAre its ns) (hk : k ∈ ns) (hz : ns.length ≤ 100000)
    (U : Upd D (listOf its.toArray n) (listOf (its.eraseIdx (ns.idxOf k)).toArray (n + 1)) news news')
    (h : ∀ h', Fr h₀ L h' m → News h₀ L h' news' → IntsAre (its.eraseIdx (ns.idxOf k)) (ns.erase k) → Q .none { s with heap := h' }) : wpAny (model prog w) A (call (.builtin "list.remove") [.ref D, .int k t]) Q E s := by
  obtain ⟨a, b⟩ := ints_del hi (ns.idxOf k) (List.idxOf_lt_length_of_mem hk)
  rw [erase_idx _ _ hk] at b
  exact kf_remove F N (ints_kf hi) (ints_at hi k hk) a U (by rw [sizeLine_eq, List.toList_toArray, hi.length]; omega) fun h' F' N' => h h' F' N' b
theorem remove_none {k : Int} {t : Tok} {Q : Value → Shared → Prop} (hA : A.handled = none) (N : News h₀ L s.heap news) (hm : (D, listOf its.toArray n) ∈ news) (hi : IntsAre its ns) (hk : k ∉ ns)
    (hE : ∀ h' tk e, Heap.NewExc s.heap h' e "ValueError" → E (.ref e) { s with heap := h', toks := tk }) : wpAny (model prog w) A (call (.builtin "list.remove") [.ref D, .int k t]) Q E s := by
  refine call_meets PySem.F.slot_list_remove ⟨_, (N _ hm).1, rfl⟩ PySem.F.entry_list_remove (PySem.F.args_list_remove_2 _ _)
    (MeetsSeq.list_remove_none D its.toArray n (.int k t) (isInt k) (fun y hy => kf_eq (ints_kf hi) y (by simpa using hy)) fun m hm => ?_) ⟨(N _ hm).1, hA, hE⟩
  have h1 := ints_any hi k
  rw [decide_eq_false hk, List.any_eq_false] at h1
  have := h1 its.toArray[m] (by simp)
  simpa using this
end
section
variable {prog : Program} {w : World} {A : Around} {E : Value → Shared → Prop} {s : Shared} {h₀ h : Heap} {L D : Addr} {m : Str → Option Value} {news news' : List (Addr × Obj)} {its : List Value} {ns : List Int} {n : Nat}
theorem pop_L {x : Int} {Q : Value → Shared → Prop} (F : Fr h₀ L s.heap m) (N : News h₀ L s.heap news) (hi : IntsAre its (ns ++ [x])) (hz : ns.length ≤ 100000)
    (U : Upd D (listOf its.toArray n) (listOf its.dropLast.toArray (n + 1)) news news')
    (h : ∀ h' t, Fr h₀ L h' m → News h₀ L h' news' → IntsAre its.dropLast ns → Q (.int x t) { s with heap := h' }) : wpAny (model prog w) A (call (.builtin "list.pop") [.ref D]) Q E s := by
  have q := hi.length
  rw [List.length_append, List.length_singleton] at q
  refine kpa_pop F N U hi (by omega) (by rw [sizeLine_eq]; omega) fun h' t F' N' I => ?_
  rw [List.dropLast_concat] at I
  have := h h' t F' N' I
  simpa using this
end
structure UldPost (h h' : Heap) (le la : Addr) (frs frs' : List (Addr × Obj)) (lt lm : Addr) (mi ai : List Value) (mn an : Nat) (res : List Int × List Int) : Prop where
  keep : ∀ b o, b ∉ le :: la :: frs.map (·.1) → h.get? b = some o → h'.get? b = some o
  up : TI.SameUp frs frs'
  frames : ∀ p ∈ frs', h'.get? p.1 = some p.2
  tup : h'.get? lt = some { cls := .type "tuple", data := .seq #[.ref lm, .ref la] }
  mis : h'.get? lm = some (listOf mi.toArray mn)
  act : h'.get? la = some (listOf ai.toArray an)
  misInts : IntsAre mi res.1
  actInts : IntsAre ai res.2
  newT : h.get? lt = none
  newM : h.get? lm = none
theorem uld_fin {h h' : Heap} {L lt lm le la : Addr} {m : Str → Option Value} {oe oa : Obj} {frs frs6 : List (Addr × Obj)} {mi ai : List Value} {p : Addr × Obj} {mn an : Nat} {res : List Int × List Int} (F : Fr (hideAll h (((le, oe) :: (la, oa) :: frs).map (·.1))) L h' m)
    (N : News (hideAll h (((le, oe) :: (la, oa) :: frs).map (·.1))) L h' ((lt, { cls := .type "tuple", data := .seq #[.ref lm, .ref la] }) :: (lm, listOf mi.toArray mn) :: p :: (la, listOf ai.toArray an) :: frs6))
    (SU : TI.SameUp frs frs6) (nm : ∀ p ∈ frs, p.1 ≠ lm) (n1 : le ≠ lm) (n2 : la ≠ lm) (nt : lm < lt ∧ p.1 < lt ∧ la < lt ∧ AllLt lt frs6) (hp : p.1 = le) (Im : IntsAre mi res.1) (Ia : IntsAre ai res.2) : UldPost h h' le la frs frs6 lt lm mi ai mn an res := by
  have nt' : ∀ p ∈ frs, p.1 ≠ lt := by
    intro p hp q
    have : p.1 ∈ frs6.map (·.1) := by rw [sameUp_fst SU]; exact List.mem_map_of_mem hp
    obtain ⟨r, hr, e⟩ := List.mem_map.mp this
    exact ne_of_allLt nt.2.2.2 r hr (e.trans q)
  have e : ((le, oe) :: (la, oa) :: frs).map (·.1) = le :: la :: frs.map (·.1) := rfl
  rw [e] at F N
  have off : ∀ {x : Addr}, le ≠ x → la ≠ x → (∀ p ∈ frs, p.1 ≠ x) → x ∉ le :: la :: frs.map (·.1) := fun a b c q => by
    rcases List.mem_cons.mp q with q | q
    · exact a q.symm
    · rcases List.mem_cons.mp q with q | q
      · exact b q.symm
      · exact not_in_fst c q
  exact ⟨fun b o hb ho => F.keep b o (hideAll_get _ ho hb), SU, fun p hp => (N p (.tail _ (.tail _ (.tail _ (.tail _ hp))))).1, (N _ (.head _)).1,
    (N _ (.tail _ (.head _))).1, (N _ (.tail _ (.tail _ (.tail _ (.head _))))).1, Im, Ia,
    hide_none (N _ (.head _)).2.2 (off (hp ▸ Nat.ne_of_lt nt.2.1) (Nat.ne_of_lt nt.2.2.1) nt'), hide_none (N _ (.tail _ (.head _))).2.2 (off n1 n2 nm)⟩
theorem tok_of0 {h₀ h : Heap} {L lm : Addr} {mi : List Value} {e : Int} {t : Tok} {n : Nat} {frs : List (Addr × Obj)} (N : News h₀ L h ((lm, listOf (mi ++ [Value.int e t]).toArray n) :: frs)) :
    ∃ tt, News h₀ L h ((lm, listOf (mi ++ [Value.int e tt]).toArray n) :: frs) := ⟨t, N⟩
noncomputable abbrev uld_cP := (World) × (ExcName → Option Value) × (Str → Option Value) × (Str → Option Value) × (Around) × (Heap) × (Shared) × (Value → Shared → Prop) × (Value → Shared → Prop) × (Addr) × (Addr) × (List Value) × (List Value) × (Nat) × (Nat) × (List Int) × (List Int) × (List Env) × (List (Addr × Obj))
noncomputable def uld_cS : uld_cP → Prop := fun p => (fun (w : World) (mean : ExcName → Option Value) (mg : Str → Option Value) (mb : Str → Option Value) (A : Around) (hb : Heap) (s : Shared) (Q : Value → Shared → Prop) (E : Value → Shared → Prop) (le : Addr) (la : Addr) (ei : List Value) (ai : List Value) (en : Nat) (an : Nat) (es : List Int) (as : List Int) (l : List Env) (frs : List (Addr × Obj)) => ∀ (X : (hd.heap_1 w.params).In hb)
   (T : Top hd.view_1 (looseW hd.view_1 [Str.ofString "_NodeInfo"]) mean mg mb hb)
   (St : hb.StaysIn s.heap)
   (hfr : A.frames = some l)
   (Fs : FrsIn hb s.heap l frs)
   (hh : A.handled = none)
   (hle : s.heap.get? le = some (listOf ei.toArray en))
   (hle' : hb.get? le = none)
   (hla : s.heap.get? la = some (listOf ai.toArray an))
   (hla' : hb.get? la = none)
   (hne : le ≠ la)
   (hie : IntsAre ei es)
   (hia : IntsAre ai as)
   (hel : es.length ≤ 63)
   (hal : as.length ≤ 63)
   (hd : A.depth + 3 < recursionLimit)
   (hret : ∀ lt lm mi mn ai' an' frs' h' tk', UldPost s.heap h' le la frs frs' lt lm mi ai' mn an' (uldR es.reverse as []) → Q (.ref lt) { s with heap := h', toks := tk' }),
    wpAny (model PySem.Challenge.rw_oh0070_01.row.prog w) A (call (.ref 183) [.ref le, .ref la]) Q E s) p.1 p.2.1 p.2.2.1 p.2.2.2.1 p.2.2.2.2.1 p.2.2.2.2.2.1 p.2.2.2.2.2.2.1 p.2.2.2.2.2.2.2.1 p.2.2.2.2.2.2.2.2.1 p.2.2.2.2.2.2.2.2.2.1 p.2.2.2.2.2.2.2.2.2.2.1 p.2.2.2.2.2.2.2.2.2.2.2.1 p.2.2.2.2.2.2.2.2.2.2.2.2.1 p.2.2.2.2.2.2.2.2.2.2.2.2.2.1 p.2.2.2.2.2.2.2.2.2.2.2.2.2.2.1 p.2.2.2.2.2.2.2.2.2.2.2.2.2.2.2.1 p.2.2.2.2.2.2.2.2.2.2.2.2.2.2.2.2.1 p.2.2.2.2.2.2.2.2.2.2.2.2.2.2.2.2.2.1 p.2.2.2.2.2.2.2.2.2.2.2.2.2.2.2.2.2.2
noncomputable def uld_cX : uld_cP := @Classical.epsilon uld_cP ⟨⟨⟨fun _ _ => 0, { strHash := fun _ => 0, shareClass := fun _ => 0, mergeTok := fun t => t, idOf := fun _ => 0, idOfShared := fun _ _ => 0, followText := fun _ => false, idOfImm := fun _ => 0 }⟩, fun _ => none, fun _ => none, fun _ => none, callerA, {}, {}, fun _ _ => True, fun _ _ => True, 0, 0, [], [], 0, 0, [], [], [], []⟩⟩ fun x => ¬ uld_cS x
namespace uld_cC
noncomputable def w : World := uld_cX.1
noncomputable def mean : ExcName → Option Value := uld_cX.2.1
noncomputable def mg : Str → Option Value := uld_cX.2.2.1
noncomputable def mb : Str → Option Value := uld_cX.2.2.2.1
noncomputable def A : Around := uld_cX.2.2.2.2.1
noncomputable def hb : Heap := uld_cX.2.2.2.2.2.1
noncomputable def s : Shared := uld_cX.2.2.2.2.2.2.1
noncomputable def Q : Value → Shared → Prop := uld_cX.2.2.2.2.2.2.2.1
noncomputable def E : Value → Shared → Prop := uld_cX.2.2.2.2.2.2.2.2.1
noncomputable def le : Addr := uld_cX.2.2.2.2.2.2.2.2.2.1
noncomputable def la : Addr := uld_cX.2.2.2.2.2.2.2.2.2.2.1
noncomputable def ei : List Value := uld_cX.2.2.2.2.2.2.2.2.2.2.2.1
noncomputable def ai : List Value := uld_cX.2.2.2.2.2.2.2.2.2.2.2.2.1
noncomputable def en : Nat := uld_cX.2.2.2.2.2.2.2.2.2.2.2.2.2.1
noncomputable def an : Nat := uld_cX.2.2.2.2.2.2.2.2.2.2.2.2.2.2.1
noncomputable def es : List Int := uld_cX.2.2.2.2.2.2.2.2.2.2.2.2.2.2.2.1
noncomputable def as : List Int := uld_cX.2.2.2.2.2.2.2.2.2.2.2.2.2.2.2.2.1
noncomputable def l : List Env := uld_cX.2.2.2.2.2.2.2.2.2.2.2.2.2.2.2.2.2.1
noncomputable def frs : List (Addr × Obj) := uld_cX.2.2.2.2.2.2.2.2.2.2.2.2.2.2.2.2.2.2
theorem key : ∀ (X : (hd.heap_1 w.params).In hb)
   (T : Top hd.view_1 (looseW hd.view_1 [Str.ofString "_NodeInfo"]) mean mg mb hb)
   (St : hb.StaysIn s.heap)
   (hfr : A.frames = some l)
   (Fs : FrsIn hb s.heap l frs)
   (hh : A.handled = none)
   (hle : s.heap.get? le = some (listOf ei.toArray en))
   (hle' : hb.get? le = none)
   (hla : s.heap.get? la = some (listOf ai.toArray an))
   (hla' : hb.get? la = none)
   (hne : le ≠ la)
   (hie : IntsAre ei es)
   (hia : IntsAre ai as)
   (hel : es.length ≤ 63)
   (hal : as.length ≤ 63)
   (hd : A.depth + 3 < recursionLimit)
   (hret : ∀ lt lm mi mn ai' an' frs' h' tk', UldPost s.heap h' le la frs frs' lt lm mi ai' mn an' (uldR es.reverse as []) → Q (.ref lt) { s with heap := h', toks := tk' }),
    wpAny (model PySem.Challenge.rw_oh0070_01.row.prog w) A (call (.ref 183) [.ref le, .ref la]) Q E s := by
  intro X T St hfr Fs hh hle hle' hla hla' hne hie hia hel hal hd hret
  refine wpAny_call ?_
  have C : ∀ p ∈ (le, listOf ei.toArray en) :: (la, listOf ai.toArray an) :: frs, s.heap.get? p.1 = some p.2 ∧ hb.get? p.1 = none := by
    intro p hp
    rcases List.mem_cons.mp hp with rfl | hp
    · exact ⟨hle, hle'⟩
    · rcases List.mem_cons.mp hp with rfl | hp
      · exact ⟨hla, hla'⟩
      · exact Fs.2 p hp
  have nle : ∀ p ∈ frs, p.1 ≠ le := fun p hp q => by
    obtain ⟨es, ep, he⟩ := frs_data Fs.1 p hp
    have h1 := (Fs.2 p hp).1
    rw [q, hle] at h1; rw [← Option.some.inj h1] at he; cases he
  have nla : ∀ p ∈ frs, p.1 ≠ la := fun p hp q => by
    obtain ⟨es, ep, he⟩ := frs_data Fs.1 p hp
    have h1 := (Fs.2 p hp).1
    rw [q, hla] at h1; rw [← Option.some.inj h1] at he; cases he
  have hH : ∀ a ∈ ((le, listOf ei.toArray en) :: (la, listOf ai.toArray an) :: frs).map (·.1), hb.get? a = none := chg_off C
  k_dflt (refine' enter_def (H := ((le, listOf ei.toArray en) :: (la, listOf ai.toArray an) :: frs).map (·.1)) (binds := [(Str.ofString "expected", .ref le), (Str.ofString "actual", .ref la)]) ?k1 ?k2 ?k3 ?k4 ?k6 ?k7 ?k8 ?k9 ?kB ?_ ?c2 ?c3 ?c4 ?c5; (case k1 => k_asm); (case k2 => k_asm); (case k3 => k_asm); (case k4 => first | assumption | (intro a ha; cases ha)); (case k6 => k_is); (case k7 => k_is); (case k8 => k_room); (case k9 => first | exact BindsTo.of_eq rfl | exact binds_K (X.keeps St) rfl (by k_is) rfl rfl rfl); (case c5 => decide); (case kB => exact locs rfl); (case c2 => exact rfl); (case c3 => exact rfl); (case c4 => exact rfl); k_whole; intro g L' h' hg hL' F' K' X' T' S'; (try dsimp only); (try k_fold))
  subst hg hL'
  have N' := chg_news C K'
  ((try clear pk); (try clear pk))
  have pk : PkAt 0 := trivial
  k_steps
  refine unpark ?_
  rename Fr _ _ _ _ => lF'
  rename News _ _ _ _ => lN'
  obtain ⟨lm, hlm⟩ := News.lead lN'
  subst hlm
  rename (_ ∧ _ ∧ AllLt lm frs) => l1
  have nlm : ∀ p ∈ frs, p.1 ≠ lm := ne_of_allLt l1.2.2
  have h1 : @LT.lt Nat _ le lm := l1.1
  have h2 : @LT.lt Nat _ la lm := l1.2.1
  have h3 : @Ne Nat le la := hne
  have hlm1 : le ≠ lm := Nat.ne_of_lt h1
  have hlm2 : la ≠ lm := Nat.ne_of_lt h2
  clear l1
  refine ksw_while (σ := (List Value × Nat × List Int) × (List Value × Nat × List Int) × (List Value × Nat × List Int) × List (Addr × Obj))
    (fun c => (lm, listOf c.2.2.1.1.toArray c.2.2.1.2.1) :: (le, listOf c.1.1.toArray c.1.2.1) :: (la, listOf c.2.1.1.toArray c.2.1.2.1) :: c.2.2.2) (fun c => [])
    (fun c => IntsAre c.1.1 c.1.2.2 ∧ IntsAre c.2.1.1 c.2.1.2.2 ∧ IntsAre c.2.2.1.1 c.2.2.1.2.2 ∧ TI.SameUp frs c.2.2.2 ∧ TI.Frs l c.2.2.2) [Str.ofString "item"]
    (fun c => c.1.2.2.length ≤ 63 ∧ c.2.1.2.2.length ≤ 63 ∧ c.1.2.2.length + c.2.2.1.2.2.length ≤ 63 ∧ uldR c.1.2.2.reverse c.2.1.2.2 c.2.2.1.2.2 = uldR es.reverse as []) (fun c => c.1.2.2.length) ((ei, en, es), (ai, an, as), ([], 0, []), frs) lF' lN' ⟨hie, hia, .nil, TI.SameUp.refl _, Fs.1⟩ (fun _ h => nomatch h) ⟨hel, hal, by simpa using hel, rfl⟩ ?_
  clear lF' lN'
  intro c u h tk hf hp Fk Nk
  obtain ⟨⟨ei', en', es'⟩, ⟨ai', an', as'⟩, ⟨mi, mn, ms⟩, frs'⟩ := c
  dsimp only at hf hp Fk Nk ⊢
  obtain ⟨I1, I2, I3, SU, Fs'⟩ := hf
  obtain ⟨z1, z2, z3, hres⟩ := hp
  have nlm' := sameUp_ne SU nlm
  have nle' := sameUp_ne SU nle
  have nla' := sameUp_ne SU nla
  have q1 := I1.length
  rcases List.eq_nil_or_concat es' with rfl | ⟨es2, x, rfl⟩
  · obtain rfl : ei' = [] := by cases I1; rfl
    ((try clear pk); (try clear pk))
    k_steps
    rename News _ _ _ _ => nE
    rename Fr _ _ _ _ => fE
    rename (_ ∧ _ ∧ _ ∧ AllLt _ frs') => lE
    exact hret _ _ _ _ _ _ _ _ _ (uld_fin fE nE SU nlm hlm1 hlm2 lE rfl (by rw [← hres]; exact I3) (by rw [← hres]; exact I2))
  · rw [List.concat_eq_append] at I1 z1 z3 hres
    simp only [List.length_append, List.length_singleton] at z1 z3
    clear q1
    rw [List.reverse_append, List.reverse_singleton, List.singleton_append, uldR] at hres
    by_cases hx : x ∈ as'
    · rw [if_pos hx] at hres
      ((try clear pk); (try clear pk))
      k_steps
      refine ksw_end ((ei'.dropLast, en' + 1, es2), (ai'.eraseIdx (as'.idxOf x), an' + 1, as'.erase x), (mi, mn, ms), frs') (by assumption) (by assumption) (fun _ h => h) ⟨by assumption, by assumption, by assumption, SU, Fs'⟩ (fun _ h => nomatch h) ?hr ⟨?_, ?_, ?_, hres⟩ ?_
      case hr => (intro z h2 h3; have z3 : z ≠ Str.ofString "item" := (by simpa using h3); simp [z3, kstB])
      · show es2.length ≤ 63; omega
      · show (as'.erase x).length ≤ 63; rw [List.length_erase_of_mem hx]; omega
      · show es2.length + ms.length ≤ 63; omega
      · show es2.length < (es2.concat x).length; simp
    · rw [if_neg hx] at hres
      ((try clear pk); (try clear pk))
      have pk : PkAt 1 := trivial
      k_steps
      refine unpark ?_
      rename Heap.NewExc _ _ _ _ => hx
      rename Fr _ _ _ _ => lF
      rename News _ _ _ _ => lN
      refine catch_ValueError (new := [_, _, _]) hfr Fs' (NewExcG.of hx) lF lN ?hap T' ?_ rfl rfl
      case hap =>
        intro p hp hq
        rcases List.mem_cons.mp hq with q | q
        · exact (lN p (List.mem_append_left _ hp)).2.1 q
        · obtain ⟨r, hr, q⟩ := List.mem_map.mp q
          rcases List.mem_cons.mp hp with rfl | hp
          · exact nlm' r hr q
          · rcases List.mem_cons.mp hp with rfl | hp
            · exact nle' r hr q
            · cases List.mem_singleton.mp hp
              exact nla' r hr q
      clear hx lF lN
      intro h6 frs6 SU6 Fs6 F6 N6
      simp only [List.cons_append, List.nil_append] at N6
      have nlm6 := sameUp_ne SU6 nlm'
      have nle6 := sameUp_ne SU6 nle'
      have nla6 := sameUp_ne SU6 nla'
      ((try clear pk); (try clear pk))
      k_steps
      rename News _ _ _ _ => nE
      simp only [List.push_toArray] at nE
      obtain ⟨tt, nE⟩ := tok_of0 nE
      refine ksw_end ((ei'.dropLast, en' + 1, es2), (ai', an', as'), (mi ++ [.int x tt], mn + 1, ms ++ [x]), frs6) (by assumption) nE (fun _ h => h) ⟨by assumption, by assumption, ints_snoc (by assumption) _ _, TI.SameUp.trans SU SU6, Fs6⟩ (fun _ h => nomatch h) ?hr ⟨?_, ?_, ?_, hres⟩ ?_
      case hr => (intro z h2 h3; have z3 : z ≠ Str.ofString "item" := (by simpa using h3); simp [z3, kstB])
      · show es2.length ≤ 63; omega
      · show as'.length ≤ 63; omega
      · show es2.length + (ms ++ [x]).length ≤ 63; simp; omega
      · show es2.length < (es2.concat x).length; simp
end uld_cC
section
variable {w : World} {mean : ExcName → Option Value} {mg mb : Str → Option Value} {A : Around} {hb : Heap} {s : Shared} {Q E : Value → Shared → Prop}
theorem uld_c {le la : Addr} {ei ai : List Value} {en an : Nat} {es as : List Int} {l : List Env} {frs : List (Addr × Obj)} (X : (hd.heap_1 w.params).In hb) (T : Top hd.view_1 (looseW hd.view_1 [Str.ofString "_NodeInfo"]) mean mg mb hb) (St : hb.StaysIn s.heap)
   (hfr : A.frames = some l) (Fs : FrsIn hb s.heap l frs) (hh : A.handled = none)
   (hle : s.heap.get? le = some (listOf ei.toArray en)) (hle' : hb.get? le = none) (hla : s.heap.get? la = some (listOf ai.toArray an)) (hla' : hb.get? la = none) (hne : le ≠ la)
   (hie : IntsAre ei es) (hia : IntsAre ai as) (hel : es.length ≤ 63) (hal : as.length ≤ 63)
   (hd : A.depth + 3 < recursionLimit)
    (hret : ∀ lt lm mi mn ai' an' frs' h' tk', UldPost s.heap h' le la frs frs' lt lm mi ai' mn an' (uldR es.reverse as []) → Q (.ref lt) { s with heap := h', toks := tk' }) :
    wpAny (model PySem.Challenge.rw_oh0070_01.row.prog w) A (call (.ref 183) [.ref le, .ref la]) Q E s := by
  refine Classical.byContradiction fun hz9 => ?_
  exact @Classical.epsilon_spec uld_cP (fun x => ¬ uld_cS x) ⟨⟨w, mean, mg, mb, A, hb, s, Q, E, le, la, ei, ai, en, an, es, as, l, frs⟩, fun zz9 => hz9 (zz9 X T St hfr Fs hh hle hle' hla hla' hne hie hia hel hal hd hret)⟩ uld_cC.key
end
end Part_M4
section Part_M5
theorem rules_M5 : True := by
  k_with_none
  w_top off
  k_with "call ref" => refine parkAt (n := 0) (by with_reducible assumption) ?_
  k_with "m mine list" => first | exact isL (by k_asm) (by k_mem) | exact isB (by k_asm) (by assumption)
  k_with "m call builtin:len" => (k_here; (try dsimp only); (with_reducible show wpAny _ _ (call (Value.builtin "len") [Value.ref _]) _ _ _); k_dflt (refine' len_L ?zqk1 ?zqk3 ?zqk4 ?_; (case zqk1 => walk_at "mine list"); (case zqk3 => assumption); (case zqk4 => omega)))
  k_with "m subscriptTail" => (k_here; (try dsimp only); (with_reducible show wpAny _ _ (subscriptTail _ _ (Value.ref _) (Value.int _ _)) _ _ _); k_dflt (first | (refine' item_L ?zqk1 ?zqk3 ?zqk4 ?zqk5 ?zqk6 ?_ ?zqk8; (case zqk1 => walk_at "mine list"); (case zqk3 => assumption); (case zqk5 => with_reducible assumption); (case zqk4 => omega); (case zqk6 => omega); (case zqk8 => with_unfolding_all rfl); k_whole; intro t9) | (refine' out_L ?zqk0 ?zqk1 ?zqk3 ?zqk4 ?zqk5 ?_ ?zqk8; (case zqk0 => first | rfl | assumption); (case zqk1 => walk_at "mine list"); (case zqk3 => assumption); (case zqk4 => omega); (case zqk5 => omega); (case zqk8 => with_unfolding_all rfl); k_whole; intro h9 tk9 e9 x9)))
  k_with "m subscriptTail Name Name ref int" => (k_here; (try dsimp only); (with_reducible show wpAny _ _ (subscriptTail _ _ (Value.ref _) (Value.int _ _)) _ _ _); k_dflt (first | (refine' item_L ?zqk1 ?zqk3 ?zqk4 ?zqk5 ?zqk6 ?_ ?zqk8; (case zqk1 => walk_at "mine list"); (case zqk3 => assumption); (case zqk5 => with_reducible assumption); (case zqk4 => omega); (case zqk6 => omega); (case zqk8 => with_unfolding_all rfl); k_whole; intro t9) | (refine' out_L ?zqk0 ?zqk1 ?zqk3 ?zqk4 ?zqk5 ?_ ?zqk8; (case zqk0 => first | rfl | assumption); (case zqk1 => walk_at "mine list"); (case zqk3 => assumption); (case zqk4 => omega); (case zqk5 => omega); (case zqk8 => with_unfolding_all rfl); k_whole; intro h9 tk9 e9 x9) | (refine' out_over ?zqk0 ?zqkN ?zqkm ?zqkb ?zqk1 ?zqk3 ?zqk4 ?zqk5 ?_ ?zqk8; (case zqk0 => rfl); (case zqkN => k_asm); (case zqkm => k_mem); (case zqkb => assumption); (case zqk1 => walk_at "mine list"); (case zqk3 => assumption); (case zqk4 => omega); (case zqk5 => omega); (case zqk8 => with_unfolding_all rfl); k_whole; intro h9 tk9 e9 x9)))
  k_with "m subscriptTail Name Slice ref ref" => (k_here; k_dflt (refine' kmk_slice_ints ?zqF ?zqN ?zql ?zqpl ?zqpu ?zqhi ?zqhm rfl ?_ ?zqhs ?zqht ?zqhz; (case zqF => k_asm); (case zqN => k_asm); (case zql => walk_at "mine list"); (case zqpl => kmk_part); (case zqpu => kmk_part); (case zqhi => assumption); (case zqhm => first | (with_reducible refine kmk_from (by assumption) ?_; omega) | (with_reducible refine kmk_upto (by assumption) ?_; omega) | with_reducible exact kmk_all (by assumption)); (case zqhs => with_unfolding_all rfl); (case zqht => kmk_pure); (case zqhz => exact kmk_sz (by assumption) (by simp only [sizeLine_eq]; omega)); k_whole; intro D9 ws9 h9 F9 N9 l9 I9 e9 e9'; (try k_lt l9)))
  k_with "m call builtin:list.extend" => (k_here; k_dflt (refine' extend_L ?zqF ?zqN ?zqm ?zqU ?zqi1 ?zqi2 ?zqz ?_; (case zqF => k_asm); (case zqN => k_asm); (case zqU => k_upd); (case zqm => k_mem); (case zqi1 => walk_at "mine ints"); (case zqi2 => walk_at "mine ints"); (case zqz => walk_at "mine len"); k_whole; intro h9 F9 N9 I9))
  k_with "m mine len" => first | omega | (simp only [List.length_append, List.length_drop, List.length_take, List.length_nil, List.length_cons] at *; omega)
  k_with "m mine ints" => first | exact IntsAre.nil | assumption
  k_with "m compareOp In int ref" => (k_here; (try dsimp only); k_dflt (refine' in_L ?zqm ?zqi ?_; (case zqm => walk_at "mine list"); (case zqi => assumption)))
  k_with "m getMethod ref" => (k_here; (with_reducible show wpAny _ _ (getMethod (Value.ref _) (PySem.Str.ofString "get") _) _ _ _); k_dflt (refine' getm_I ?zqN ?zqm ?zqh ?_; (case zqN => k_asm); (case zqm => k_mem); (case zqh => assumption)))
  k_with "m call builtin:dict.get" => (k_here; (try dsimp only); (with_reducible show wpAny _ _ (call (Value.builtin "dict.get") [Value.ref _, Value.int _ _]) _ _ _); k_dflt (refine' get_I ?zqN ?zqm ?zqh ?zql ?zqv ?_; (case zqN => k_asm); (case zqm => k_mem); (case zqh => assumption); (case zql => assumption); (case zqv => assumption); dsimp only [Option.getD]))
  k_with "m setItem ref int" => (k_here; (try dsimp only); (with_reducible show wpAny _ _ (setItem (Value.ref _) (Value.int _ _) _) _ _ _); k_dflt (refine' set_I ?zqF ?zqN ?zqU ?zqh ?zqz ?_; (case zqF => k_asm); (case zqN => k_asm); (case zqU => first | assumption | k_updF); (case zqh => assumption); (case zqz => walk_at "mine size"); k_whole; intro h9 o9 F9 N9 D9))
  k_with "m mine size" => first | omega | (unfold kvsOf; rw [List.length_map]; omega)
  trivial
theorem fillM5 (w : World) (h : Heap) : PySem.Challenge.rw_oh0070_01.foot = 5 → (hd.heap_1 w.params).In h → True := by
  k_fill
  intro _ _
  trivial
structure Pre (hb h : Heap) (old : List (Addr × Obj)) : Prop where
  found : ∀ p ∈ old, h.get? p.1 = some p.2 ∧ hb.get? p.1 = none
  nodup : (old.map (·.1)).Nodup
structure Post (h h' : Heap) (old new : List (Addr × Obj)) : Prop where
  keep : ∀ b o, b ∉ old.map (·.1) → h.get? b = some o → h'.get? b = some o
  there : ∀ p ∈ new, h'.get? p.1 = some p.2
  fresh : ∀ p ∈ new, p.1 ∈ old.map (·.1) ∨ h.get? p.1 = none
  nodup : (new.map (·.1)).Nodup
theorem post_of {h h' : Heap} {old new l : List (Addr × Obj)} {L : Addr} {m : Str → Option Value} (F : Fr (hideAll h (old.map (·.1))) L h' m) (N : News (hideAll h (old.map (·.1))) L h' l) (sub : ∀ p ∈ new, p ∈ l) (nd : (new.map (·.1)).Nodup) : Post h h' old new :=
  ⟨fun b o hb ho => F.keep b o (hideAll_get _ ho hb), fun p hp => (N p (sub p hp)).1, fun p hp => Classical.byContradiction fun q => by
    rw [not_or] at q
    exact q.2 (hide_none (N p (sub p hp)).2.2 q.1), nd⟩
theorem Pre.of {base h : Heap} {L : Addr} {old l : List (Addr × Obj)} (N : News base L h l) (sub : ∀ p ∈ old, p ∈ l) (nd : (old.map (·.1)).Nodup) : Pre base h old := ⟨fun p hp => ⟨(N p (sub p hp)).1, (N p (sub p hp)).2.2⟩, nd⟩
theorem Post.back {base h h' : Heap} {L : Addr} {m : Str → Option Value} {old new rest : List (Addr × Obj)} (P : Post h h' old new) (F : Fr base L h m) (N : News base L h (old ++ rest)) (hnd : ((old ++ rest).map (·.1)).Nodup) :
    Fr base L h' m ∧ News base L h' (new ++ rest) ∧ ((new ++ rest).map (·.1)).Nodup := by
  rw [List.map_append] at hnd
  have hnd' := List.nodup_append.mp hnd
  obtain ⟨oL, es, ep, hL, hLd, hLk, hLf⟩ := F.ns
  have nL : L ∉ old.map (·.1) := fun q => by
    obtain ⟨p, hp, e⟩ := List.mem_map.mp q
    exact (N p (List.mem_append_left _ hp)).2.1 e
  have off : ∀ p ∈ rest, p.1 ∉ old.map (·.1) := fun p hp q => hnd'.2.2 _ q _ (List.mem_map_of_mem hp) rfl
  refine ⟨⟨⟨oL, es, ep, P.keep L oL nL hL, hLd, hLk, hLf⟩, fun b o e => P.keep b o (fun q => ?_) (F.keep b o e), F.above⟩, fun p hp => ?_, ?_⟩
  · obtain ⟨p, hp, e'⟩ := List.mem_map.mp q
    have := (N p (List.mem_append_left _ hp)).2.2
    rw [e', e] at this; cases this
  · rcases List.mem_append.mp hp with hp | hp
    · refine ⟨P.there p hp, ?_, ?_⟩
      · rcases P.fresh p hp with q | q
        · exact fun e => nL (e ▸ q)
        · intro e
          rw [e, hL] at q; cases q
      · rcases P.fresh p hp with q | q
        · obtain ⟨r, hr, e⟩ := List.mem_map.mp q
          rw [← e]; exact (N r (List.mem_append_left _ hr)).2.2
        · cases z : base.get? p.1 with
          | none => rfl
          | some o => rw [F.keep _ _ z] at q; cases q
    · obtain ⟨a, b, c⟩ := N p (List.mem_append_right _ hp)
      exact ⟨P.keep _ _ (off p hp) a, b, c⟩
  · rw [List.map_append]
    refine List.nodup_append.mpr ⟨P.nodup, hnd'.2.1, fun a ha b hb e => ?_⟩
    obtain ⟨p, hp, rfl⟩ := List.mem_map.mp ha
    obtain ⟨r, hr, rfl⟩ := List.mem_map.mp hb
    rcases P.fresh p hp with q | q
    · exact off r hr (e ▸ q)
    · rw [e, (N r (List.mem_append_right _ hr)).1] at q; cases q
theorem nd3 {a b c : Nat} (h1 : a ≠ b) (h2 : a ≠ c) (h3 : b ≠ c) : [a, b, c].Nodup := by simp [h1, h2, h3]
/-- a node of the sorter -/
structure Nd where
  a : Addr
  d : Addr
  l : Addr
  key : Int
  kt : Tok
  np : Int
  pt : Tok
  its : List Value
  n : Nat
  succ : List Int
noncomputable abbrev nodeOf (nd : Nd) : Obj := { cls := .ref 68, dict := some nd.d, slots := #[some (.int nd.key nd.kt), some (.int nd.np nd.pt), some (.ref nd.l)] }
noncomputable def ndObjs : List Nd → List (Addr × Obj)
  | [] => []
  | nd :: r => (nd.a, nodeOf nd) :: (nd.d, dictOf [] 0) :: (nd.l, listOf nd.its.toArray nd.n) :: ndObjs r
theorem ndObjs_app : ∀ a b : List Nd, ndObjs (a ++ b) = ndObjs a ++ ndObjs b
  | [], _ => rfl
  | x :: a, b => by
    show _ :: _ :: _ :: ndObjs (a ++ b) = _
    rw [ndObjs_app a b]; rfl
noncomputable def kvsOf (ns : List Nd) : List (Int × Value) := ns.map fun nd => (nd.key, Value.ref nd.a)
structure So where
  x : Addr
  dx : Addr
  d : Addr
  k1 : Tok
  k2 : Tok
  k3 : Tok
  k4 : Tok
  an : Nat
  o : Obj
  rd : Value
  po : Int
  pt : Tok
  nf : Int
  ft : Tok
  nodes : List Nd
  more : List (Addr × Obj)
noncomputable abbrev So.attrs (w : World) (S : So) : List DictEntry := [⟨PyData.keyHash w.params (Str.ofString "_node2info"), .str (Str.ofString "_node2info") S.k1, .ref S.d⟩, ⟨PyData.keyHash w.params (Str.ofString "_ready_nodes"), .str (Str.ofString "_ready_nodes") S.k2, S.rd⟩,
  ⟨PyData.keyHash w.params (Str.ofString "_npassedout"), .str (Str.ofString "_npassedout") S.k3, .int S.po S.pt⟩, ⟨PyData.keyHash w.params (Str.ofString "_nfinished"), .str (Str.ofString "_nfinished") S.k4, .int S.nf S.ft⟩]
noncomputable abbrev So.objs (w : World) (S : So) : List (Addr × Obj) := (S.x, instObj 165 S.dx) :: (S.dx, dictOf (S.attrs w) S.an) :: (S.d, S.o) :: (S.more ++ ndObjs S.nodes)
structure So.Ok (w : World) (S : So) : Prop where
  lo : (S.d == sysModules) = false
  dict : S.o.IsDictOf (intKind PySem.Challenge.rw_oh0070_01.row.prog w) (kvsOf S.nodes)
  areInts : ∀ nd ∈ S.nodes, IntsAre nd.its nd.succ
section
variable {w : World} {mean : ExcName → Option Value} {mg mb : Str → Option Value} {A : Around} {hb : Heap} {s : Shared} {Q E : Value → Shared → Prop}
theorem ni_c {R : Result → Shared → Prop} {x dx : Addr} {node : Int} {t : Tok} (X : (hd.heap_1 w.params).In hb) (T : Top hd.view_1 (looseW hd.view_1 [Str.ofString "_NodeInfo"]) mean mg mb hb) (St : hb.StaysIn s.heap)
   (C : Pre hb s.heap [(x, instObj 68 dx), (dx, dictOf [] 0)]) (hd : A.depth + 2 < recursionLimit)
    (hret : ∀ l pt h' tk', Post s.heap h' [(x, instObj 68 dx), (dx, dictOf [] 0)] [(x, nodeOf ⟨x, dx, l, node, t, 0, pt, [], 0, []⟩), (dx, dictOf [] 0), (l, listOf #[] 0)] → R (.ok (.ret .none)) { s with heap := h', toks := tk' }) :
    codeAny (model PySem.Challenge.rw_oh0070_01.row.prog w) A (.call (.ref 64) ⟨[.ref x, .int node t], []⟩) R s := by
  have hH : ∀ a ∈ [(x, instObj 68 dx), (dx, dictOf [] 0)].map (·.1), hb.get? a = none := chg_off C.found
  have hne : @Ne Nat x dx := by
    have := C.nodup
    simpa using this
  k_dflt (refine' enter_def (H := [(x, instObj 68 dx), (dx, dictOf [] 0)].map (·.1)) (binds := [(Str.ofString "self", .ref x), (Str.ofString "node", .int node t)]) ?k1 ?k2 ?k3 ?k4 ?k6 ?k7 ?k8 ?k9 ?kB ?_ ?c2 ?c3 ?c4 ?c5; (case k1 => k_asm); (case k2 => k_asm); (case k3 => k_asm); (case k4 => first | assumption | (intro a ha; cases ha)); (case k6 => k_is); (case k7 => k_is); (case k8 => k_room); (case k9 => first | exact BindsTo.of_eq rfl | exact binds_K (X.keeps St) rfl (by k_is) rfl rfl rfl); (case c5 => decide); (case kB => exact locs rfl); (case c2 => exact rfl); (case c3 => exact rfl); (case c4 => exact rfl); k_whole; intro g L' h' hg hL' F' K' X' T' S'; (try dsimp only); (try k_fold))
  subst hg hL'
  have N' := chg_news C.found K'
  ((try clear pk); (try clear pk))
  k_steps
  rename News _ _ _ _ => nE
  rename Fr _ _ _ _ => fE
  rename (_ < _ ∧ _ < _) => lE
  exact hret _ _ _ _ (post_of fE nE (List.forall_mem_cons.mpr ⟨.tail _ (.head _), List.forall_mem_cons.mpr ⟨.tail _ (.tail _ (.head _)), List.forall_mem_cons.mpr ⟨.head _, fun _ h => nomatch h⟩⟩⟩) (nd3 (by dsimp only; omega) (by dsimp only; omega) (by dsimp only; omega)))
end
theorem valueAt_none {ns : List Nd} {k : Int} (h : ∀ nd ∈ ns, nd.key ≠ k) : valueAt (kvsOf ns) k = none := by
  unfold valueAt kvsOf
  rw [List.find?_eq_none.mpr, Option.map_none]
  intro kv hkv
  obtain ⟨nd, hnd, rfl⟩ := List.mem_map.mp hkv
  simpa using h nd hnd
theorem valueAt_some : ∀ {ns : List Nd} {k : Int} {nd : Nd}, (ns.map (·.key)).Nodup → nd ∈ ns → nd.key = k → valueAt (kvsOf ns) k = some (.ref nd.a)
  | x :: ns, k, nd, hn, hm, hk => by
    have hn' := List.nodup_cons.mp hn
    unfold valueAt kvsOf
    rw [List.map_cons, List.find?_cons]
    rcases List.mem_cons.mp hm with rfl | hm
    · simp [hk]
    · have : x.key ≠ k := fun q => hn'.1 (by show x.key ∈ _; rw [q, ← hk]; exact List.mem_map_of_mem (f := fun x : Nd => x.key) hm)
      have e : (decide (x.key = k)) = false := by simpa using this
      simp only [e]
      exact valueAt_some hn'.2 hm hk
theorem So.Ok.keys {w : World} {S : So} (h : S.Ok w) : (S.nodes.map (·.key)).Nodup := by
  obtain ⟨es, ep, _, _, _, _, hn⟩ := h.dict
  rw [kvsOf, List.map_map] at hn
  exact hn
theorem stored_new {ns : List Nd} {k : Int} {v : Value} (h : ∀ nd ∈ ns, nd.key ≠ k) : stored (kvsOf ns) k v = kvsOf ns ++ [(k, v)] := by
  unfold stored
  rw [if_neg]
  simp only [List.any_eq_true, not_exists, not_and, decide_eq_true_eq]
  intro kv hkv
  obtain ⟨nd, hnd, rfl⟩ := List.mem_map.mp hkv
  exact h nd hnd
noncomputable def Ens (S : So) (k : Int) (S' : So) (nd : Nd) : Prop := (S' = S ∧ nd ∈ S.nodes ∧ nd.key = k) ∨ ((∀ n ∈ S.nodes, n.key ≠ k) ∧ ∃ o', S' = { S with o := o', nodes := S.nodes ++ [nd] } ∧ nd.key = k ∧ nd.np = 0 ∧ nd.its = [] ∧ nd.succ = [])
theorem isInt_self (k : Int) (t : Tok) : Value.isInt k (.int k t) = true := by simp [Value.isInt]
section
variable {prog : Program} {w : World} {A : Around} {E : Value → Shared → Prop} {s : Shared} {h₀ : Heap} {L d : Addr} {m : Str → Option Value} {news : List (Addr × Obj)} {g : Obj → List (Addr × Obj)} {o : Obj} {kvs : List (Int × Value)} {k : Int} {t : Tok} {v : Value}
theorem getm_I {pl : Sem Bool} {Q : Value × List Value → Shared → Prop} (N : News h₀ L s.heap news) (hp : (d, o) ∈ news) (hd : o.IsDictOf (intKind prog w) kvs) (h : Q (.builtin "dict.get", [.ref d]) s) : wpAny (model prog w) A (getMethod (.ref d) (Str.ofString "get") pl) Q E s := kdg_method N hp hd h
theorem get_I {x : Option Value} {Q : Value → Shared → Prop} (N : News h₀ L s.heap news) (hp : (d, o) ∈ news) (hd : o.IsDictOf (intKind prog w) kvs) (lo : (d == sysModules) = false) (hl : valueAt kvs k = x) (h : Q (x.getD .none) { s with toks := s.toks + 1 }) :
    wpAny (model prog w) A (call (.builtin "dict.get") [.ref d, .int k t]) Q E s := kdg_get1 N hp hd lo (isInt_self k t) x hl h
theorem set_I {Q : Unit → Shared → Prop} (F : Fr h₀ L s.heap m) (N : News h₀ L s.heap news) (U : UpdF d o news g) (hd : o.IsDictOf (intKind prog w) kvs) (hsz : kvs.length ≤ 16777216)
    (h : ∀ h' o', Fr h₀ L h' m → News h₀ L h' (g o') → o'.IsDictOf (intKind prog w) (stored kvs k v) → Q () { s with heap := h', toks := s.toks + 1 }) : wpAny (model prog w) A (setItem (.ref d) (.int k t) v) Q E s :=
  kda_set F N U hd (isInt_self k t) (by rw [sizeLine_eq]; omega) h
theorem item_I {value slice : PySem.Expr} {Q : Value → Shared → Prop} (N : News h₀ L s.heap news) (hp : (d, o) ∈ news) (hd : o.IsDictOf (intKind prog w) kvs) (hl : valueAt kvs k = some v) (h : Q v { s with toks := s.toks + 1 })
    (hs : subscripted slice false (.ref d) (.int k t) = operate [.ref d, .int k t] (getItem (.ref d) (.int k t)) := by with_unfolding_all rfl) (hg : ∀ r, letTemporaryGo value (.ref d) r = pure () := by intro _; with_unfolding_all rfl) :
    wpAny (model prog w) A (subscriptTail value slice (.ref d) (.int k t)) Q E s := kda_item N hp hd (isInt_self k t) hl h hs hg
theorem in_I {b : Bool} {Q : Value → Shared → Prop} (N : News h₀ L s.heap news) (hp : (d, o) ∈ news) (hd : o.IsDictOf (intKind prog w) kvs) (lo : (d == sysModules) = false) (hb : (valueAt kvs k).isSome = b) (h : Q (.bool b) { s with toks := s.toks + 1 }) :
    wpAny (model prog w) A (compareOp .In (.int k t) (.ref d)) Q E s := kda_in N hp hd lo (isInt_self k t) b hb h
end
theorem fst_mem {p : Addr × Obj} {l : List (Addr × Obj)} (h : p ∈ l) : p.1 ∈ l.map (·.1) := List.mem_map_of_mem h
theorem updF_nodup {d : Addr} {o : Obj} {post : List (Addr × Obj)} : ∀ pre : List (Addr × Obj), ((pre ++ (d, o) :: post).map (·.1)).Nodup → UpdF d o (pre ++ (d, o) :: post) (fun o' => pre ++ (d, o') :: post)
  | [], h => .head fun p hp q => by
      have h1 := fst_mem hp
      rw [q] at h1
      exact (List.nodup_cons.mp h).1 h1
  | x :: pre, h => .tail (fun q => by
      have h1 : (d, o).1 ∈ (pre ++ (d, o) :: post).map (·.1) := fst_mem (List.mem_append_right _ (.head _))
      have q' : x.1 = d := q
      refine (List.nodup_cons.mp h).1 ?_
      show x.1 ∈ _
      rw [q']; exact h1) (updF_nodup pre (List.nodup_cons.mp h).2)
theorem ens_perm {w : World} (S : So) (o' : Obj) (nd : Nd) : List.Perm (({ S with o := o', nodes := S.nodes ++ [nd] } : So).objs w) ((nd.a, nodeOf nd) :: (nd.d, dictOf [] 0) :: (nd.l, listOf nd.its.toArray nd.n) :: (S.x, instObj 165 S.dx) :: (S.dx, dictOf (S.attrs w) S.an) :: (S.d, o') :: (S.more ++ ndObjs S.nodes)) := by
  have e : (({ S with o := o', nodes := S.nodes ++ [nd] } : So).objs w) = ((S.x, instObj 165 S.dx) :: (S.dx, dictOf (S.attrs w) S.an) :: (S.d, o') :: (S.more ++ ndObjs S.nodes)) ++ [(nd.a, nodeOf nd), (nd.d, dictOf [] 0), (nd.l, listOf nd.its.toArray nd.n)] := by
    show (S.x, instObj 165 S.dx) :: (S.dx, dictOf (S.attrs w) S.an) :: (S.d, o') :: (S.more ++ ndObjs (S.nodes ++ [nd])) = _
    rw [ndObjs_app, ← List.append_assoc]; rfl
  rw [e]
  exact List.perm_append_comm
noncomputable abbrev gni_cP := (World) × (ExcName → Option Value) × (Str → Option Value) × (Str → Option Value) × (Around) × (Heap) × (Shared) × (Value → Shared → Prop) × (Value → Shared → Prop) × (So) × (Int) × (Tok)
noncomputable def gni_cS : gni_cP → Prop := fun p => (fun (w : World) (mean : ExcName → Option Value) (mg : Str → Option Value) (mb : Str → Option Value) (A : Around) (hb : Heap) (s : Shared) (Q : Value → Shared → Prop) (E : Value → Shared → Prop) (S : So) (k : Int) (t : Tok) => ∀ (X : (hd.heap_1 w.params).In hb)
   (T : Top hd.view_1 (looseW hd.view_1 [Str.ofString "_NodeInfo"]) mean mg mb hb)
   (St : hb.StaysIn s.heap)
   (C : Pre hb s.heap (S.objs w))
   (O : S.Ok w)
   (hz : S.nodes.length ≤ 1000)
   (hd : A.depth + 6 < recursionLimit)
   (hret : ∀ S' nd h' tk', Ens S k S' nd → S'.Ok w → Post s.heap h' (S.objs w) (S'.objs w) → Q (.ref nd.a) { s with heap := h', toks := tk' }),
    wpAny (model PySem.Challenge.rw_oh0070_01.row.prog w) A (call (.ref 108) [.ref S.x, .int k t]) Q E s) p.1 p.2.1 p.2.2.1 p.2.2.2.1 p.2.2.2.2.1 p.2.2.2.2.2.1 p.2.2.2.2.2.2.1 p.2.2.2.2.2.2.2.1 p.2.2.2.2.2.2.2.2.1 p.2.2.2.2.2.2.2.2.2.1 p.2.2.2.2.2.2.2.2.2.2.1 p.2.2.2.2.2.2.2.2.2.2.2
noncomputable def gni_cX : gni_cP := @Classical.epsilon gni_cP ⟨⟨⟨fun _ _ => 0, { strHash := fun _ => 0, shareClass := fun _ => 0, mergeTok := fun t => t, idOf := fun _ => 0, idOfShared := fun _ _ => 0, followText := fun _ => false, idOfImm := fun _ => 0 }⟩, fun _ => none, fun _ => none, fun _ => none, callerA, {}, {}, fun _ _ => True, fun _ _ => True, ⟨0, 0, 0, 0, 0, 0, 0, 0, { cls := .none, data := .plain }, .none, 0, 0, 0, 0, [], []⟩, 0, 0⟩⟩ fun x => ¬ gni_cS x
namespace gni_cC
noncomputable def w : World := gni_cX.1
noncomputable def mean : ExcName → Option Value := gni_cX.2.1
noncomputable def mg : Str → Option Value := gni_cX.2.2.1
noncomputable def mb : Str → Option Value := gni_cX.2.2.2.1
noncomputable def A : Around := gni_cX.2.2.2.2.1
noncomputable def hb : Heap := gni_cX.2.2.2.2.2.1
noncomputable def s : Shared := gni_cX.2.2.2.2.2.2.1
noncomputable def Q : Value → Shared → Prop := gni_cX.2.2.2.2.2.2.2.1
noncomputable def E : Value → Shared → Prop := gni_cX.2.2.2.2.2.2.2.2.1
noncomputable def S : So := gni_cX.2.2.2.2.2.2.2.2.2.1
noncomputable def k : Int := gni_cX.2.2.2.2.2.2.2.2.2.2.1
noncomputable def t : Tok := gni_cX.2.2.2.2.2.2.2.2.2.2.2
theorem key : ∀ (X : (hd.heap_1 w.params).In hb)
   (T : Top hd.view_1 (looseW hd.view_1 [Str.ofString "_NodeInfo"]) mean mg mb hb)
   (St : hb.StaysIn s.heap)
   (C : Pre hb s.heap (S.objs w))
   (O : S.Ok w)
   (hz : S.nodes.length ≤ 1000)
   (hd : A.depth + 6 < recursionLimit)
   (hret : ∀ S' nd h' tk', Ens S k S' nd → S'.Ok w → Post s.heap h' (S.objs w) (S'.objs w) → Q (.ref nd.a) { s with heap := h', toks := tk' }),
    wpAny (model PySem.Challenge.rw_oh0070_01.row.prog w) A (call (.ref 108) [.ref S.x, .int k t]) Q E s := by
  intro X T St C O hz hd hret
  refine wpAny_call ?_
  have hH : ∀ a ∈ (S.objs w).map (·.1), hb.get? a = none := chg_off C.found
  have hlo := O.lo
  have hdict := O.dict
  by_cases hin : ∃ nd ∈ S.nodes, nd.key = k
  · obtain ⟨nd, hnd, hk⟩ := hin
    have hv := valueAt_some O.keys hnd hk
    k_dflt (refine' enter_def (H := (S.objs w).map (·.1)) (binds := [(Str.ofString "self", .ref S.x), (Str.ofString "node", .int k t)]) ?k1 ?k2 ?k3 ?k4 ?k6 ?k7 ?k8 ?k9 ?kB ?_ ?c2 ?c3 ?c4 ?c5; (case k1 => k_asm); (case k2 => k_asm); (case k3 => k_asm); (case k4 => first | assumption | (intro a ha; cases ha)); (case k6 => k_is); (case k7 => k_is); (case k8 => k_room); (case k9 => first | exact BindsTo.of_eq rfl | exact binds_K (X.keeps St) rfl (by k_is) rfl rfl rfl); (case c5 => decide); (case kB => exact locs rfl); (case c2 => exact rfl); (case c3 => exact rfl); (case c4 => exact rfl); k_whole; intro g L' h' hg hL' F' K' X' T' S'; (try dsimp only); (try k_fold))
    subst hg hL'
    have N' := chg_news C.found K'
    ((try clear pk); (try clear pk))
    k_steps
    rename News _ _ _ _ => nE
    rename Fr _ _ _ _ => fE
    exact hret _ _ _ _ (.inl ⟨rfl, hnd, hk⟩) O (post_of fE nE (fun _ h => h) C.nodup)
  · have hno : ∀ nd ∈ S.nodes, nd.key ≠ k := fun nd hnd q => hin ⟨nd, hnd, q⟩
    have hv := valueAt_none hno
    k_dflt (refine' enter_def (H := (S.objs w).map (·.1)) (binds := [(Str.ofString "self", .ref S.x), (Str.ofString "node", .int k t)]) ?k1 ?k2 ?k3 ?k4 ?k6 ?k7 ?k8 ?k9 ?kB ?_ ?c2 ?c3 ?c4 ?c5; (case k1 => k_asm); (case k2 => k_asm); (case k3 => k_asm); (case k4 => first | assumption | (intro a ha; cases ha)); (case k6 => k_is); (case k7 => k_is); (case k8 => k_room); (case k9 => first | exact BindsTo.of_eq rfl | exact binds_K (X.keeps St) rfl (by k_is) rfl rfl rfl); (case c5 => decide); (case kB => exact locs rfl); (case c2 => exact rfl); (case c3 => exact rfl); (case c4 => exact rfl); k_whole; intro g L' h' hg hL' F' K' X' T' S'; (try dsimp only); (try k_fold))
    subst hg hL'
    have N' := chg_news C.found K'
    ((try clear pk); (try clear pk))
    have pk : PkAt 0 := trivial
    k_steps
    refine unpark ?_
    k_dflt (refine' call_cls ?k1 ?k2 ?k3 ?k4 ?k5 ?k6 ?_; (case k1 => k_asm); (case k2 => k_asm); (case k3 => k_asm); (case k4 => k_is); (case k5 => k_is); (case k6 => k_is); k_whole; intro x2 d2 h2 F2 N2 l1 l2)
    have hnd2 : (([(x2, instObj 68 d2), (d2, dictOf [] 0)] ++ S.objs w).map (·.1)).Nodup := by
      rw [List.map_append]
      refine List.nodup_append.mpr ⟨?_, C.nodup, fun a ha b hb e => ?_⟩
      · have : x2 ≠ d2 := Nat.ne_of_gt l2
        simp [this]
      · obtain ⟨r, hr, rfl⟩ := List.mem_map.mp hb
        have h1 := l1 r hr
        have h2 : a = x2 ∨ a = d2 := by simpa using ha
        rcases h2 with rfl | rfl
        · exact absurd (e ▸ Nat.lt_trans h1 l2) (Nat.lt_irrefl _)
        · exact absurd (e ▸ h1) (Nat.lt_irrefl _)
    refine ni_c X' T' (fun b o e => F2.keep b o e) (Pre.of N2 (fun p hp => by
      rcases List.mem_cons.mp hp with rfl | hp
      · exact .head _
      · cases List.mem_singleton.mp hp; exact .tail _ (.head _)) (List.nodup_append.mp (by rw [List.map_append] at hnd2; exact hnd2)).1) (by k_room) ?_
    intro l3 pt3 h3 tk3 P3
    obtain ⟨F3, N3, hnd3⟩ := P3.back F2 N2 hnd2
    clear P3 F2 N2 l1 l2 hnd2
    refine ⟨rfl, ?_⟩
    have hU := updF_nodup (d := S.d) (o := S.o) (post := S.more ++ ndObjs S.nodes) [(x2, nodeOf ⟨x2, d2, l3, k, t, 0, pt3, [], 0, []⟩), (d2, dictOf [] 0), (l3, listOf #[] 0), (S.x, instObj 165 S.dx), (S.dx, dictOf (S.attrs w) S.an)] hnd3
    simp only [List.cons_append, List.nil_append] at N3 hU
    ((try clear pk); (try clear pk))
    k_steps
    rename News _ _ _ _ => nE
    rename Fr _ _ _ _ => fE
    rename Obj.IsDictOf _ _ (stored _ _ _) => D9
    rw [stored_new hno] at D9
    refine hret { S with o := _, nodes := S.nodes ++ [⟨x2, d2, l3, k, t, 0, pt3, [], 0, []⟩] } ⟨x2, d2, l3, k, t, 0, pt3, [], 0, []⟩ _ _ (.inr ⟨hno, _, rfl, rfl, rfl, rfl, rfl⟩) ⟨hlo, ?_, ?_⟩ (post_of fE nE (fun p h => (ens_perm (w := w) S _ _).mem_iff.mp h) ((List.Perm.nodup_iff ((ens_perm (w := w) S _ _).map (·.1))).mpr hnd3))
    · show Obj.IsDictOf _ _ (kvsOf (S.nodes ++ [_]))
      unfold kvsOf
      rw [List.map_append]
      exact D9
    · intro nd hnd
      rcases List.mem_append.mp hnd with hnd | hnd
      · exact O.areInts nd hnd
      · cases List.mem_singleton.mp hnd; exact .nil
end gni_cC
section
variable {w : World} {mean : ExcName → Option Value} {mg mb : Str → Option Value} {A : Around} {hb : Heap} {s : Shared} {Q E : Value → Shared → Prop}
theorem gni_c (S : So) {k : Int} {t : Tok} (X : (hd.heap_1 w.params).In hb) (T : Top hd.view_1 (looseW hd.view_1 [Str.ofString "_NodeInfo"]) mean mg mb hb) (St : hb.StaysIn s.heap)
   (C : Pre hb s.heap (S.objs w)) (O : S.Ok w) (hz : S.nodes.length ≤ 1000) (hd : A.depth + 6 < recursionLimit)
    (hret : ∀ S' nd h' tk', Ens S k S' nd → S'.Ok w → Post s.heap h' (S.objs w) (S'.objs w) → Q (.ref nd.a) { s with heap := h', toks := tk' }) :
    wpAny (model PySem.Challenge.rw_oh0070_01.row.prog w) A (call (.ref 108) [.ref S.x, .int k t]) Q E s := by
  refine Classical.byContradiction fun hz9 => ?_
  exact @Classical.epsilon_spec gni_cP (fun x => ¬ gni_cS x) ⟨⟨w, mean, mg, mb, A, hb, s, Q, E, S, k, t⟩, fun zz9 => hz9 (zz9 X T St C O hz hd hret)⟩ gni_cC.key
end
end Part_M5
section Part_M6
theorem anew_M6 : True := by k_with_none; w_top off; trivial
noncomputable def Turn {σ : Type} (h₀ : Heap) (L I : Addr) (oI : Obj) (Led : σ → List (Addr × Obj)) (Jn : σ → (Str → Option Value) → Prop) (s : Shared) (Q : Flow → Shared → Prop) (f : Flow) (s' : Shared) : Prop :=
  match f with
  | .ret v => Q (.ret v) s'
  | .brk => Q .next s'
  | _ => ∃ c h tk m news, s' = { s with heap := h, toks := tk } ∧ Fr h₀ L h m ∧ News h₀ L h news ∧ (I, oI) ∈ news ∧ (∀ p ∈ Led c, p ∈ news) ∧ (∀ p ∈ Led c, p.1 ≠ I) ∧ Jn c m
section
variable {prog : Program} {w : World} {A : Around} {E : Value → Shared → Prop} {s : Shared} {h₀ : Heap} {env : Env} {x : Str} {body : List Stmt} {Q : Flow → Shared → Prop}
theorem turn_end {σ : Type} {L I : Addr} {oI : Obj} {Led : σ → List (Addr × Obj)} {Jn : σ → (Str → Option Value) → Prop} {h' : Heap} {tk : Nat} {m : Str → Option Value} {news : List (Addr × Obj)} (c : σ) (F : Fr h₀ L h' m) (N : News h₀ L h' news) (hI : (I, oI) ∈ news) (hL : ∀ p ∈ Led c, p ∈ news) (ho : ∀ p ∈ Led c, p.1 ≠ I) (hj : Jn c m) :
    ∃ c h tk' m news, ({ s with heap := h', toks := tk } : Shared) = { s with heap := h, toks := tk' } ∧ Fr h₀ L h m ∧ News h₀ L h news ∧ (I, oI) ∈ news ∧ (∀ p ∈ Led c, p ∈ news) ∧ (∀ p ∈ Led c, p.1 ≠ I) ∧ Jn c m := ⟨c, h', tk, m, news, rfl, F, N, hI, hL, ho, hj⟩
theorem loop_gen {σ : Type} {I : Addr} {fp : List Addr} {n : Nat} {P : Nat → Value → Prop} {St : Nat → Heap → Prop} {m₀ : Str → Option Value} (W : Walks prog w A I (I :: fp) [I] n P St) (hthere : ∀ i h, St i h → ∃ o, h.get? I = some o) (Led : σ → List (Addr × Obj)) (J : Nat → σ → (Str → Option Value) → Prop) (c₀ : σ)
    (hfp : ∀ b ∈ fp, (∃ o, h₀.get? b = some o) ∨ ∃ o, ∀ c, (b, o) ∈ Led c) (hst : St 0 s.heap) (hI : h₀.get? I = none) (hIL : I ≠ env.locals) (F : Fr h₀ env.locals s.heap m₀) (N : News h₀ env.locals s.heap (Led c₀)) (hoff : ∀ p ∈ Led c₀, p.1 ≠ I) (hj : J 0 c₀ m₀)
    (turn : ∀ i c m v h tk oI, i < n → P i v → J i c m → (∀ p ∈ Led c, p.1 ≠ I) → Fr h₀ env.locals h (fun y => if y = x then some v else m y) → News h₀ env.locals h ((I, oI) :: Led c) →
      wpAny (model prog w) A (execs body env) (Turn h₀ env.locals I oI Led (J (i + 1)) s Q) E { s with heap := h, toks := tk })
    (done : ∀ c m h tk, J n c m → Fr h₀ env.locals h m → News h₀ env.locals h (Led c) → Q .next { s with heap := h, toks := tk }) :
    LoopAtV prog w A h₀ env x body Q E (.ref I) s := by
  have hLfp : env.locals ∉ I :: fp := fun q => by
    rcases List.mem_cons.mp q with q | q
    · exact hIL q.symm
    · rcases hfp _ q with ⟨o, e⟩ | ⟨o, e⟩
      · exact absurd (Heap.lt_size e) (Nat.not_lt.mpr F.above)
      · exact (N _ (e c₀)).2.1 rfl
  refine ⟨I, _, _, n, P, St, m₀, Led c₀, fun i m news => ∃ c, news = Led c ∧ J i c m, rfl, W, hLfp, fun b hb => by rw [List.mem_singleton.mp hb]; exact hI, fun p hp q => hoff p hp (List.mem_singleton.mp q), hst, F, N, ⟨c₀, rfl, hj⟩, ?_, ?_⟩
  · rintro i v m₁ news₁ s₁ own ⟨h, tk, rfl⟩ hi hP ⟨c, rfl, hJ⟩ hoff' hown hget hall hst' F₁ N₁
    obtain ⟨oI, hoI⟩ := hthere _ _ hst'
    have hIo : (I, oI) ∈ own := hall I (.head _) hI oI hoI
    refine wpAny_mono (turn i c m₁ v h tk oI hi hP hJ (fun p hp q => hoff' p hp (List.mem_singleton.mpr q)) F₁ (fun p hp => ?_)) (fun f s₂ z => ?_) fun _ _ z => z
    · rcases List.mem_cons.mp hp with rfl | hp
      · exact N₁ _ (List.mem_append_left _ hIo)
      · exact N₁ _ (List.mem_append_right _ hp)
    · have fin : ∀ {s₂ : Shared}, (∃ c h' tk' m news, s₂ = { s with heap := h', toks := tk' } ∧ Fr h₀ env.locals h' m ∧ News h₀ env.locals h' news ∧ (I, oI) ∈ news ∧ (∀ p ∈ Led c, p ∈ news) ∧ (∀ p ∈ Led c, p.1 ≠ I) ∧ J (i + 1) c m) →
          LoopStepU h₀ env.locals [I] own (fun m news => ∃ c, news = Led c ∧ J (i + 1) c m) { s with heap := h, toks := tk } .next s₂ := by
        rintro s₂ ⟨c', h', tk', m', news, rfl, F', N', hI', hL', ho', hJ'⟩
        refine ⟨rfl, h', tk', m', Led c', rfl, F', fun p hp => ?_, fun p hp q => ho' p hp (List.mem_singleton.mp q), c', rfl, hJ'⟩
        rcases List.mem_append.mp hp with hp | hp
        · have h1 := hget p hp
          rcases List.mem_cons.mp (hown p hp) with q | q
          · rw [q] at h1
            have e : p = (I, oI) := by
              obtain ⟨a, b⟩ := p
              have q' : a = I := q
              subst q'
              exact Prod.ext rfl (Option.some.inj (h1.symm.trans hoI))
            rw [e]; exact N' _ hI'
          · rcases hfp _ q with ⟨o, e⟩ | ⟨o, e⟩
            · have := (N₁ p (List.mem_append_left _ hp)).2.2
              rw [e] at this; cases this
            · have h2 := (N₁ _ (List.mem_append_right own (e c))).1
              have h3 : p = (p.1, o) := by
                obtain ⟨a, b⟩ := p
                exact Prod.ext rfl (Option.some.inj (h1.symm.trans h2))
              rw [h3]; exact N' _ (hL' _ (e c'))
        · exact N' _ (hL' p hp)
      cases f with
      | ret v => exact .ret z
      | brk => exact .brk z
      | next => exact .next (fin z)
      | cont => exact .cont (fin z)
  · rintro h' tk m' news' F' N' _ ⟨c, rfl, hJ⟩
    exact done c m' h' tk hJ F' N'
noncomputable abbrev tupOf (its : Array Value) : Obj := { cls := .type "tuple", data := .seq its }
theorem loop_tuple {σ : Type} {l : Addr} {its : List Value} {m₀ : Str → Option Value} (Led : σ → List (Addr × Obj)) (J : Nat → σ → (Str → Option Value) → Prop) (c₀ : σ) (hh : A.handled = none)
    (hl : ∀ c, (l, tupOf its.toArray) ∈ Led c) (F : Fr h₀ env.locals s.heap m₀) (N : News h₀ env.locals s.heap (Led c₀)) (hj : J 0 c₀ m₀)
    (turn : ∀ i c m v h tk I oI, its[i]? = some v → J i c m → (∀ p ∈ Led c, p.1 ≠ I) → (∀ p ∈ Led c₀, p.1 < I) → Fr h₀ env.locals h (fun y => if y = x then some v else m y) → News h₀ env.locals h ((I, oI) :: Led c) →
      wpAny (model prog w) A (execs body env) (Turn h₀ env.locals I oI Led (J (i + 1)) s Q) E { s with heap := h, toks := tk })
    (done : ∀ c m h tk, J its.length c m → Fr h₀ env.locals h m → News h₀ env.locals h (Led c) → Q .next { s with heap := h, toks := tk }) :
    wpAny (model prog w) A (pyIter (.ref l)) (fun it s₂ => LoopAtV prog w A h₀ env x body Q E it s₂) E s := by
  have ht : s.heap.IsTuple l its.toArray := ⟨_, (N _ (hl c₀)).1, rfl, 0, rfl⟩
  refine wpAny_pyIter_tuple ht ?_
  have hne : l ≠ s.heap.objs.size := Nat.ne_of_lt (Heap.lt_size (N _ (hl c₀)).1)
  have W := Walks.tuple (prog := prog) (w := w) hh s.heap.objs.size l hne its.toArray
  rw [List.size_toArray] at W
  refine loop_gen (s := { s with heap := s.heap.push { cls := .type "tuple_iterator", data := .fields #[.ref l, .int 0 0] } }) (m₀ := m₀) W (fun i h hst => by obtain ⟨⟨o, ho, _⟩, _⟩ := hst; exact ⟨o, ho⟩) Led J c₀ (fun b hb => by cases List.mem_singleton.mp hb; exact .inr ⟨_, hl⟩)
    ⟨⟨_, Heap.get?_push_size _ rfl, rfl, rfl⟩, ⟨_, Heap.get?_push_of_some _ (N _ (hl c₀)).1, rfl, 0, rfl⟩⟩ ?_ ?_ (F.push _) (fun p hp => ⟨Heap.get?_push_of_some _ (N p hp).1, (N p hp).2⟩) ?_ hj ?_ ?_
  · exact next_is_new F
  · exact (Nat.ne_of_lt F.ns.lt).symm
  · exact fun p hp => Nat.ne_of_lt (Heap.lt_size (N p hp).1)
  · intro i c m v h tk oI hi hP hJ hoff F₁ N₁
    exact turn i c m v h tk _ oI (by simpa using hP) hJ hoff (fun p hp => Heap.lt_size (N p hp).1) F₁ N₁
  · exact done
theorem loop_listL {σ : Type} {l : Addr} {its : List Value} {nn : Nat} {m₀ : Str → Option Value} (Led : σ → List (Addr × Obj)) (J : Nat → σ → (Str → Option Value) → Prop) (c₀ : σ) (hh : A.handled = none)
    (hl : ∀ c, (l, listOf its.toArray nn) ∈ Led c) (F : Fr h₀ env.locals s.heap m₀) (N : News h₀ env.locals s.heap (Led c₀)) (hj : J 0 c₀ m₀)
    (turn : ∀ i c m v h tk I oI, its[i]? = some v → J i c m → (∀ p ∈ Led c, p.1 ≠ I) → (∀ p ∈ Led c₀, p.1 < I) → Fr h₀ env.locals h (fun y => if y = x then some v else m y) → News h₀ env.locals h ((I, oI) :: Led c) →
      wpAny (model prog w) A (execs body env) (Turn h₀ env.locals I oI Led (J (i + 1)) s Q) E { s with heap := h, toks := tk })
    (done : ∀ c m h tk, J its.length c m → Fr h₀ env.locals h m → News h₀ env.locals h (Led c) → Q .next { s with heap := h, toks := tk }) :
    wpAny (model prog w) A (pyIter (.ref l)) (fun it s₂ => LoopAtV prog w A h₀ env x body Q E it s₂) E s := by
  have ht : s.heap.IsList l its.toArray := ⟨_, (N _ (hl c₀)).1, rfl, nn, rfl⟩
  refine wpAny_pyIter_list ht ?_
  have hne : l ≠ s.heap.objs.size := Nat.ne_of_lt (Heap.lt_size (N _ (hl c₀)).1)
  have W := Walks.list (prog := prog) (w := w) hh s.heap.objs.size l hne its.toArray
  rw [List.size_toArray] at W
  refine loop_gen (s := { s with heap := s.heap.push { cls := .type "list_iterator", data := .fields #[.ref l, .int 0 0] } }) (m₀ := m₀) W (fun i h hst => by obtain ⟨⟨o, ho, _⟩, _⟩ := hst; exact ⟨o, ho⟩) Led J c₀ (fun b hb => by cases List.mem_singleton.mp hb; exact .inr ⟨_, hl⟩)
    ⟨⟨_, Heap.get?_push_size _ rfl, rfl, rfl⟩, ⟨_, Heap.get?_push_of_some _ (N _ (hl c₀)).1, rfl, nn, rfl⟩⟩ ?_ ?_ (F.push _) (fun p hp => ⟨Heap.get?_push_of_some _ (N p hp).1, (N p hp).2⟩) ?_ hj ?_ ?_
  · exact next_is_new F
  · exact (Nat.ne_of_lt F.ns.lt).symm
  · exact fun p hp => Nat.ne_of_lt (Heap.lt_size (N p hp).1)
  · intro i c m v h tk oI hi hP hJ hoff F₁ N₁
    exact turn i c m v h tk _ oI (by simpa using hP) hJ hoff (fun p hp => Heap.lt_size (N p hp).1) F₁ N₁
  · exact done
theorem kstB_same {m : Str → Option Value} {ps : List (Str × Value)} (h : ∀ p ∈ ps, m p.1 = some p.2) : kstB m ps = m := funext fun z => kstB_eq h fun _ => rfl
theorem loop_tupleP {σ : Type} {l : Addr} {its : List Value} {m₀ : Str → Option Value} (Led : σ → List (Addr × Obj)) (ps : σ → List (Str × Value)) (J : Nat → σ → Prop) (c₀ : σ) (hh : A.handled = none)
    (hl : ∀ c, (l, tupOf its.toArray) ∈ Led c) (F : Fr h₀ env.locals s.heap m₀) (N : News h₀ env.locals s.heap (Led c₀)) (hk : ∀ p ∈ ps c₀, m₀ p.1 = some p.2) (hj : J 0 c₀)
    (turn : ∀ i c u v h tk I oI, its[i]? = some v → J i c → (∀ p ∈ Led c, p.1 ≠ I) → (∀ p ∈ Led c₀, p.1 < I) → Fr h₀ env.locals h (fun y => if y = x then some v else kstB u (ps c) y) → News h₀ env.locals h ((I, oI) :: Led c) →
      wpAny (model prog w) A (execs body env) (Turn h₀ env.locals I oI Led (fun c m => (∀ p ∈ ps c, m p.1 = some p.2) ∧ J (i + 1) c) s Q) E { s with heap := h, toks := tk })
    (done : ∀ c u h tk, J its.length c → Fr h₀ env.locals h (kstB u (ps c)) → News h₀ env.locals h (Led c) → Q .next { s with heap := h, toks := tk }) :
    wpAny (model prog w) A (pyIter (.ref l)) (fun it s₂ => LoopAtV prog w A h₀ env x body Q E it s₂) E s := by
  refine loop_tuple Led (fun i c m => (∀ p ∈ ps c, m p.1 = some p.2) ∧ J i c) c₀ hh hl F N ⟨hk, hj⟩ ?_ ?_
  · intro i c m v h tk I oI hv hJ h1 h2 F₁ N₁
    refine turn i c m v h tk I oI hv hJ.2 h1 h2 ?_ N₁
    rw [kstB_same hJ.1]; exact F₁
  · intro c m h tk hJ F₁ N₁
    refine done c m h tk hJ.2 ?_ N₁
    rw [kstB_same hJ.1]; exact F₁
theorem loop_listP {σ : Type} {l : Addr} {its : List Value} {nn : Nat} {m₀ : Str → Option Value} (Led : σ → List (Addr × Obj)) (ps : σ → List (Str × Value)) (J : Nat → σ → Prop) (c₀ : σ) (hh : A.handled = none)
    (hl : ∀ c, (l, listOf its.toArray nn) ∈ Led c) (F : Fr h₀ env.locals s.heap m₀) (N : News h₀ env.locals s.heap (Led c₀)) (hk : ∀ p ∈ ps c₀, m₀ p.1 = some p.2) (hj : J 0 c₀)
    (turn : ∀ i c u v h tk I oI, its[i]? = some v → J i c → (∀ p ∈ Led c, p.1 ≠ I) → (∀ p ∈ Led c₀, p.1 < I) → Fr h₀ env.locals h (fun y => if y = x then some v else kstB u (ps c) y) → News h₀ env.locals h ((I, oI) :: Led c) →
      wpAny (model prog w) A (execs body env) (Turn h₀ env.locals I oI Led (fun c m => (∀ p ∈ ps c, m p.1 = some p.2) ∧ J (i + 1) c) s Q) E { s with heap := h, toks := tk })
    (done : ∀ c u h tk, J its.length c → Fr h₀ env.locals h (kstB u (ps c)) → News h₀ env.locals h (Led c) → Q .next { s with heap := h, toks := tk }) :
    wpAny (model prog w) A (pyIter (.ref l)) (fun it s₂ => LoopAtV prog w A h₀ env x body Q E it s₂) E s := by
  refine loop_listL Led (fun i c m => (∀ p ∈ ps c, m p.1 = some p.2) ∧ J i c) c₀ hh hl F N ⟨hk, hj⟩ ?_ ?_
  · intro i c m v h tk I oI hv hJ h1 h2 F₁ N₁
    refine turn i c m v h tk I oI hv hJ.2 h1 h2 ?_ N₁
    rw [kstB_same hJ.1]; exact F₁
  · intro c m h tk hJ F₁ N₁
    refine done c m h tk hJ.2 ?_ N₁
    rw [kstB_same hJ.1]; exact F₁
end
end Part_M6
section Part_M7
theorem rules_M7 : True := by
  k_with_none
  w_top off
  k_with "call ref" => refine parkAt (n := 0) (by with_reducible assumption) ?_
  k_with "m pyIter ref" => refine parkAt (n := 1) (by with_reducible assumption) ?_
  k_with "m mine list" => first | exact isL (by k_asm) (by k_mem) | exact isB (by k_asm) (by assumption)
  k_with "m call builtin:len" => (k_here; (try dsimp only); (with_reducible show wpAny _ _ (call (Value.builtin "len") [Value.ref _]) _ _ _); k_dflt (refine' len_L ?zqk1 ?zqk3 ?zqk4 ?_; (case zqk1 => walk_at "mine list"); (case zqk3 => assumption); (case zqk4 => omega)))
  k_with "m subscriptTail" => (k_here; (try dsimp only); (with_reducible show wpAny _ _ (subscriptTail _ _ (Value.ref _) (Value.int _ _)) _ _ _); k_dflt (first | (refine' item_L ?zqk1 ?zqk3 ?zqk4 ?zqk5 ?zqk6 ?_ ?zqk8; (case zqk1 => walk_at "mine list"); (case zqk3 => assumption); (case zqk5 => with_reducible assumption); (case zqk4 => omega); (case zqk6 => omega); (case zqk8 => with_unfolding_all rfl); k_whole; intro t9) | (refine' out_L ?zqk0 ?zqk1 ?zqk3 ?zqk4 ?zqk5 ?_ ?zqk8; (case zqk0 => first | rfl | assumption); (case zqk1 => walk_at "mine list"); (case zqk3 => assumption); (case zqk4 => omega); (case zqk5 => omega); (case zqk8 => with_unfolding_all rfl); k_whole; intro h9 tk9 e9 x9)))
  k_with "m subscriptTail Name Name ref int" => (k_here; (try dsimp only); (with_reducible show wpAny _ _ (subscriptTail _ _ (Value.ref _) (Value.int _ _)) _ _ _); k_dflt (first | (refine' item_L ?zqk1 ?zqk3 ?zqk4 ?zqk5 ?zqk6 ?_ ?zqk8; (case zqk1 => walk_at "mine list"); (case zqk3 => assumption); (case zqk5 => with_reducible assumption); (case zqk4 => omega); (case zqk6 => omega); (case zqk8 => with_unfolding_all rfl); k_whole; intro t9) | (refine' out_L ?zqk0 ?zqk1 ?zqk3 ?zqk4 ?zqk5 ?_ ?zqk8; (case zqk0 => first | rfl | assumption); (case zqk1 => walk_at "mine list"); (case zqk3 => assumption); (case zqk4 => omega); (case zqk5 => omega); (case zqk8 => with_unfolding_all rfl); k_whole; intro h9 tk9 e9 x9) | (refine' out_over ?zqk0 ?zqkN ?zqkm ?zqkb ?zqk1 ?zqk3 ?zqk4 ?zqk5 ?_ ?zqk8; (case zqk0 => rfl); (case zqkN => k_asm); (case zqkm => k_mem); (case zqkb => assumption); (case zqk1 => walk_at "mine list"); (case zqk3 => assumption); (case zqk4 => omega); (case zqk5 => omega); (case zqk8 => with_unfolding_all rfl); k_whole; intro h9 tk9 e9 x9)))
  k_with "m subscriptTail Name Slice ref ref" => (k_here; k_dflt (refine' kmk_slice_ints ?zqF ?zqN ?zql ?zqpl ?zqpu ?zqhi ?zqhm rfl ?_ ?zqhs ?zqht ?zqhz; (case zqF => k_asm); (case zqN => k_asm); (case zql => walk_at "mine list"); (case zqpl => kmk_part); (case zqpu => kmk_part); (case zqhi => assumption); (case zqhm => first | (with_reducible refine kmk_from (by assumption) ?_; omega) | (with_reducible refine kmk_upto (by assumption) ?_; omega) | with_reducible exact kmk_all (by assumption)); (case zqhs => with_unfolding_all rfl); (case zqht => kmk_pure); (case zqhz => exact kmk_sz (by assumption) (by simp only [sizeLine_eq]; omega)); k_whole; intro D9 ws9 h9 F9 N9 l9 I9 e9 e9'; (try k_lt l9)))
  k_with "m call builtin:list.extend" => (k_here; k_dflt (refine' extend_L ?zqF ?zqN ?zqm ?zqU ?zqi1 ?zqi2 ?zqz ?_; (case zqF => k_asm); (case zqN => k_asm); (case zqU => k_upd); (case zqm => k_mem); (case zqi1 => walk_at "mine ints"); (case zqi2 => walk_at "mine ints"); (case zqz => walk_at "mine len"); k_whole; intro h9 F9 N9 I9))
  k_with "m mine len" => first | omega | (simp only [List.length_append, List.length_drop, List.length_take, List.length_nil, List.length_cons] at *; omega)
  k_with "m mine ints" => first | exact IntsAre.nil | assumption
  k_with "m compareOp In int ref" => (k_here; (try dsimp only); k_dflt (refine' in_L ?zqm ?zqi ?_; (case zqm => walk_at "mine list"); (case zqi => assumption)))
  k_with "m call builtin:len" => (k_here; (try dsimp only); (with_reducible show wpAny _ _ (call (Value.builtin "len") [Value.ref _]) _ _ _); k_dflt (refine' len_T ?zqk1 ?zqk2 ?zqk3 ?zqk4 ?_; (case zqk1 => k_asm); (case zqk2 => k_mem); (case zqk3 => assumption); (case zqk4 => omega)))
  trivial
theorem fillM7 (w : World) (h : Heap) : PySem.Challenge.rw_oh0070_01.foot = 5 → (hd.heap_1 w.params).In h → True := by
  k_fill
  intro _ _
  trivial
theorem bind_rest1 {fd : FuncData} {a r : Arg} {v1 : Value} {ps : List Value} (h1 : fd.params.posonlyargs = []) (h2 : fd.params.args = [a]) (h3 : fd.params.vararg = some r) (h4 : fd.params.kwonlyargs = []) (h5 : fd.params.kwarg = none) (h6 : fd.defaults = .none) (ha : a.arg = Str.ofString "self") {rn : Str} (hr : r.arg = rn) :
    bindArgs fd ⟨v1 :: ps, []⟩ = (newTuple ps >>= fun t => pure [(Str.ofString "self", v1), (rn, t)]) := by
  subst hr
  cases a
  dsimp only at ha
  subst ha
  cases fd
  rename Arguments => p
  cases p
  dsimp only at h1 h2 h3 h4 h5 h6
  subst h1 h2 h3 h4 h5 h6
  cases ps <;> rfl
theorem bind_rest2 {fd : FuncData} {a b r : Arg} {v1 v2 : Value} {ps : List Value} (h1 : fd.params.posonlyargs = []) (h2 : fd.params.args = [a, b]) (h3 : fd.params.vararg = some r) (h4 : fd.params.kwonlyargs = []) (h5 : fd.params.kwarg = none) (h6 : fd.defaults = .none) (ha : a.arg = Str.ofString "self") (hb : b.arg = Str.ofString "node") {rn : Str} (hr : r.arg = rn) :
    bindArgs fd ⟨v1 :: v2 :: ps, []⟩ = (newTuple ps >>= fun t => pure [(Str.ofString "self", v1), (Str.ofString "node", v2), (rn, t)]) := by
  subst hr
  cases a
  cases b
  dsimp only at ha hb
  subst ha hb
  cases fd
  rename Arguments => p
  cases p
  dsimp only at h1 h2 h3 h4 h5 h6
  subst h1 h2 h3 h4 h5 h6
  cases ps <;> rfl
/-- the entry of a def whose last parameter takes the rest -/
theorem enter_rest {prog : Program} {w : World} {A : Around} {s : Shared} {hb : Heap} {K : Frag} {H : List Addr} {R : Result → Shared → Prop} {mg mb : Str → Option Value} {p : Program} {loose : List Str} {mean : ExcName → Option Value}
    {name qual : Str} {params : Arguments} {body : List Stmt} {scope : Scope} {dV kV doc pm cdv ct oc : Value} {an od : Option Addr} {osl : Array (Option Value)} {f : Addr} {args : Args} {vs : List Value} {binds : Value → List (Str × Value)}
    (X : K.In hb) (T : Top p loose mean mg mb hb) (St : hb.StaysIn s.heap) (hH : ∀ a ∈ H, hb.get? a = none)
    (ho : K.lookup f = some ⟨oc, od, .func (fnOf name qual params body scope dV kV doc pm an cdv ct), osl⟩) (hcd : codeIn K cdv qual = true) (hroom : A.depth < recursionLimit)
    (hbind : bindArgs (fnOf name qual params body scope dV kV doc pm an cdv ct) args = (newTuple vs >>= fun t => pure (binds t))) (hloc : ∀ v, ∀ y ∈ binds v, scope.names.lookup y.1 = some .local) (hsz : vs.length ≤ 1000)
    (h : ∀ g L' D h₁, g = hideAll s.heap H → D = s.heap.objs.size → L' = s.heap.objs.size + 1 → Fr g L' h₁ (fun y => (binds (.ref D)).reverse.lookup y) → (∀ b o, s.heap.get? b = some o → h₁.get? b = some o) → h₁.get? D = some (tupOf vs.toArray) →
      K.In g → Top p loose mean mg mb g → hb.StaysIn g →
      wpAny (model prog w) (A.deeper (envOf qual scope L' f cdv)) (execs body (envOf qual scope L' f cdv))
        (fun fl s' => R (.ok (.ret (match fl with | .ret v => v | _ => .none))) s') (fun _ _ => False)
        { s with heap := h₁, toks := s.toks + (binds (.ref D)).length })
    (hco : scope.isCoroutine = false) (hgen : scope.isGenerator = false) (hk : scope.kind = .function)
    (hcell : ∀ x ∈ scope.names, x.2 ≠ .cell) : codeAny (model prog w) A (.call (.ref f) args) R s := by
  have Xs : K.In s.heap := X.keeps St
  have sg : hb.StaysIn (hideAll s.heap H) := fun b o e => hideAll_get _ (St b o e) fun q => by rw [hH b q] at e; cases e
  refine codeAny_call_function (fd := fnOf name qual params body scope dV kV doc pm an cdv ct) (body := body) hroom (Xs _ _ ho) rfl hco hgen rfl (codeRec_of Xs hcd) ?_
  rw [hbind]
  unfold newTuple
  refine wpAny_bind (wpAny_newObj_type (wpAny_pure ?_) (by show vs.toArray.size ≤ sizeLine; rw [List.size_toArray, sizeLine_eq]; omega))
  refine wpAny_newFunctionEnv hcell (hloc _) (fun h₁ hns hsb => ⟨?_, ?_⟩) hk
  · exact ((T.nolimit.keeps St).keeps fun b o e => Heap.get?_push_of_some _ e).fresh _ hsb
  · have hk₁ : ∀ b o, (s.heap.push { cls := .type "tuple", data := .seq vs.toArray }).get? b = some o → h₁.get? b = some o := fun b o e => hsb.extBut b o (Nat.ne_of_lt (Heap.lt_size e)) (Heap.get?_push_of_some _ e)
    have hk₂ : ∀ b o, s.heap.get? b = some o → h₁.get? b = some o := fun b o e => hk₁ b o (Heap.get?_push_of_some _ e)
    show codeAny _ _ (.func body (envOf qual scope _ f cdv)) _ _
    refine codeAny_func (wpAny_mono (E := fun _ _ => False) (h _ _ s.heap.objs.size h₁ rfl rfl (by simp) ⟨hns, fun b o e => hk₂ b o (of_hideAll _ e), ?_⟩ hk₂ (hk₁ _ _ (Heap.get?_push_size _ rfl)) (X.keeps sg) (T.keeps sg) sg) (fun _ _ x => x) (fun _ _ x => x.elim))
    rw [hideAll_size]; simp
noncomputable abbrev Vw := List (Int × Int × List Int)
noncomputable def So.view (S : So) : Vw := S.nodes.map fun nd => (nd.key, nd.np, nd.succ)
noncomputable def ensV (v : Vw) (k : Int) : Vw := if k ∈ v.map (·.1) then v else v ++ [(k, 0, [])]
noncomputable def npV (v : Vw) (k d : Int) : Vw := v.map fun x => if x.1 = k then (x.1, x.2.1 + d, x.2.2) else x
noncomputable def succV (v : Vw) (k y : Int) : Vw := v.map fun x => if x.1 = k then (x.1, x.2.1, x.2.2 ++ [y]) else x
noncomputable def addV (v : Vw) (k : Int) (ps : List Int) : Vw := ps.foldl (fun v p => succV (ensV v p) p k) (npV (ensV v k) k ps.length)
theorem focus_perm {w : World} {S : So} {pre post : List Nd} {nd : Nd} (h : S.nodes = pre ++ nd :: post) :
    List.Perm (S.objs w) ((nd.a, nodeOf nd) :: (nd.d, dictOf [] 0) :: (nd.l, listOf nd.its.toArray nd.n) :: (S.x, instObj 165 S.dx) :: (S.dx, dictOf (S.attrs w) S.an) :: (S.d, S.o) :: (S.more ++ ndObjs (pre ++ post))) := by
  have e : S.objs w = ((S.x, instObj 165 S.dx) :: (S.dx, dictOf (S.attrs w) S.an) :: (S.d, S.o) :: (S.more ++ ndObjs pre)) ++ ([(nd.a, nodeOf nd), (nd.d, dictOf [] 0), (nd.l, listOf nd.its.toArray nd.n)] ++ ndObjs post) := by
    show (S.x, instObj 165 S.dx) :: (S.dx, dictOf (S.attrs w) S.an) :: (S.d, S.o) :: (S.more ++ ndObjs S.nodes) = _
    rw [h, ndObjs_app]
    simp only [List.cons_append, List.append_assoc, List.nil_append]
    rfl
  rw [e, ndObjs_app, ← List.append_assoc]
  show List.Perm _ ([(nd.a, nodeOf nd), (nd.d, dictOf [] 0), (nd.l, listOf nd.its.toArray nd.n)] ++ ((S.x, instObj 165 S.dx) :: (S.dx, dictOf (S.attrs w) S.an) :: (S.d, S.o) :: (S.more ++ (ndObjs pre ++ ndObjs post))))
  rw [← List.append_assoc S.more]
  show List.Perm _ ([(nd.a, nodeOf nd), (nd.d, dictOf [] 0), (nd.l, listOf nd.its.toArray nd.n)] ++ (((S.x, instObj 165 S.dx) :: (S.dx, dictOf (S.attrs w) S.an) :: (S.d, S.o) :: (S.more ++ ndObjs pre)) ++ ndObjs post))
  rw [← List.append_assoc]
  exact List.Perm.append_right _ List.perm_append_comm
structure Apart (S : So) (pre post : List Nd) (nd : Nd) : Prop where
  ad : nd.a ≠ nd.d
  al : nd.a ≠ nd.l
  dl : nd.d ≠ nd.l
  ax : nd.a ≠ S.x
  adx : nd.a ≠ S.dx
  asd : nd.a ≠ S.d
  lx : nd.l ≠ S.x
  ldx : nd.l ≠ S.dx
  lsd : nd.l ≠ S.d
  at_ : ∀ p ∈ S.more ++ ndObjs (pre ++ post), p.1 ≠ nd.a
  lt_ : ∀ p ∈ S.more ++ ndObjs (pre ++ post), p.1 ≠ nd.l
theorem apart_of {w : World} {S : So} {pre post : List Nd} {nd : Nd} (h : S.nodes = pre ++ nd :: post) (hn : ((S.objs w).map (·.1)).Nodup) : Apart S pre post nd := by
  have h1 := (List.Perm.nodup_iff ((focus_perm (w := w) h).map (·.1))).mp hn
  simp only [List.map_cons, List.nodup_cons, List.mem_cons, not_or] at h1
  obtain ⟨⟨a1, a2, a3, a4, a5, a6⟩, ⟨b1, b2, b3, b4, b5⟩, ⟨c1, c2, c3, c4⟩, _⟩ := h1
  exact ⟨a1, a2, b1, a3, a4, a5, c1, c2, c3, fun p hp q => a6 (q ▸ fst_mem hp), fun p hp q => c4 (q ▸ fst_mem hp)⟩
noncomputable abbrev So.objsE (w : World) (S : So) (rd : Value) : List (Addr × Obj) := (S.x, instObj 165 S.dx) :: (S.dx, dictOf [⟨PyData.keyHash w.params (Str.ofString "_node2info"), .str (Str.ofString "_node2info") S.k1, .ref S.d⟩, ⟨PyData.keyHash w.params (Str.ofString "_ready_nodes"), .str (Str.ofString "_ready_nodes") S.k2, rd⟩,
  ⟨PyData.keyHash w.params (Str.ofString "_npassedout"), .str (Str.ofString "_npassedout") S.k3, .int S.po S.pt⟩, ⟨PyData.keyHash w.params (Str.ofString "_nfinished"), .str (Str.ofString "_nfinished") S.k4, .int S.nf S.ft⟩] S.an) :: (S.d, S.o) :: (S.more ++ ndObjs S.nodes)
theorem objs_rd {w : World} {S : So} {rd : Value} (h : S.rd = rd) : S.objs w = S.objsE w rd := by subst h; rfl
theorem refold {w : World} {base h : Heap} {L : Addr} {S : So} {rd : Value} {p : Addr × Obj} (hrd : S.rd = rd) (N : News base L h (p :: S.objsE w rd)) : News base L h (p :: S.objs w) := by rw [objs_rd hrd]; exact N
theorem Post.backF {base h h' : Heap} {L : Addr} {m : Str → Option Value} {old new : List (Addr × Obj)} (fr : List (Addr × Obj)) (P : Post h h' old new) (F : Fr base L h m) (N : News base L h (fr ++ old)) (hnd : ((fr ++ old).map (·.1)).Nodup) :
    Fr base L h' m ∧ News base L h' (fr ++ new) ∧ ((fr ++ new).map (·.1)).Nodup := by
  have e : List.Perm (fr ++ old) (old ++ fr) := List.perm_append_comm
  obtain ⟨a, b, c⟩ := P.back F (fun p hp => N p (e.mem_iff.mpr hp)) ((List.Perm.nodup_iff (e.map (·.1))).mp hnd)
  have e' : List.Perm (fr ++ new) (new ++ fr) := List.perm_append_comm
  exact ⟨a, fun p hp => b p (e'.mem_iff.mp hp), (List.Perm.nodup_iff (e'.map (·.1))).mpr c⟩
theorem off_head {p : Addr × Obj} {l : List (Addr × Obj)} (h : ((p :: l).map (·.1)).Nodup) : ∀ q ∈ l, q.1 ≠ p.1 := fun q hq e => by
  have h1 := fst_mem hq
  rw [e] at h1
  exact (List.nodup_cons.mp h).1 h1
theorem len_T {prog : Program} {w : World} {A : Around} {E : Value → Shared → Prop} {s : Shared} {h₀ : Heap} {L D : Addr} {news : List (Addr × Obj)} {its : List Value} {ns : List Int} {Q : Value → Shared → Prop} (N : News h₀ L s.heap news) (hm : (D, tupOf its.toArray) ∈ news) (hi : IntsAre its ns) (hf : ns.length < 4294967296)
    (h : Q (.int (ns.length : Int) (s.toks + 1)) { s with toks := s.toks + 1 + 1 }) : wpAny (model prog w) A (call (.builtin "len") [.ref D]) Q E s := by
  have e2 : its.toArray.size = ns.length := by rw [List.size_toArray, hi.length]
  exact PyProof.Rows.len_tuple ⟨_, (N _ hm).1, rfl, 0, rfl⟩ (by rw [e2]; omega) (by rw [e2]; exact h)
theorem Ens.spec {S S1 : So} {k : Int} {nd : Nd} (h : Ens S k S1 nd) : ∃ o1 n1, S1 = { S with o := o1, nodes := n1 } ∧ nd ∈ n1 ∧ nd.key = k ∧ S1.view = ensV S.view k ∧ n1.length ≤ S.nodes.length + 1 ∧ ∀ b, (∀ n ∈ S.nodes, n.its.length ≤ b) → ∀ n ∈ n1, n.its.length ≤ b := by
  rcases h with ⟨rfl, hn, hk⟩ | ⟨hno, o', rfl, hk, h1, h2, h3⟩
  · refine ⟨S1.o, S1.nodes, rfl, hn, hk, ?_, Nat.le_succ _, fun _ h => h⟩
    unfold ensV
    rw [if_pos]
    unfold So.view
    rw [List.map_map]
    exact List.mem_map.mpr ⟨nd, hn, hk⟩
  · refine ⟨o', S.nodes ++ [nd], rfl, List.mem_append_right _ (.head _), hk, ?_, by simp, fun b h n hn => ?_⟩
    rotate_left
    · rcases List.mem_append.mp hn with hn | hn
      · exact h n hn
      · cases List.mem_singleton.mp hn; rw [h2]; exact Nat.zero_le _
    unfold ensV
    rw [if_neg]
    · show (S.nodes ++ [nd]).map _ = _
      rw [List.map_append, List.map_singleton, h1, h3, hk]
      rfl
    · unfold So.view
      rw [List.map_map]
      intro q
      obtain ⟨n, hn, e⟩ := List.mem_map.mp q
      exact hno n hn e
theorem focusN {w : World} {base h : Heap} {L : Addr} {S : So} {pre post : List Nd} {nd : Nd} {fr : List (Addr × Obj)} (e : S.nodes = pre ++ nd :: post) (N : News base L h (fr ++ S.objs w)) :
    News base L h ((nd.a, nodeOf nd) :: (nd.d, dictOf [] 0) :: (nd.l, listOf nd.its.toArray nd.n) :: (fr ++ (S.x, instObj 165 S.dx) :: (S.dx, dictOf (S.attrs w) S.an) :: (S.d, S.o) :: (S.more ++ ndObjs (pre ++ post)))) := fun p hp => by
  have h1 := (focus_perm (w := w) e).mem_iff (a := p)
  refine N p ?_
  rcases List.mem_cons.mp hp with rfl | hp
  · exact List.mem_append_right _ (h1.mpr (.head _))
  · rcases List.mem_cons.mp hp with rfl | hp
    · exact List.mem_append_right _ (h1.mpr (.tail _ (.head _)))
    · rcases List.mem_cons.mp hp with rfl | hp
      · exact List.mem_append_right _ (h1.mpr (.tail _ (.tail _ (.head _))))
      · rcases List.mem_append.mp hp with hp | hp
        · exact List.mem_append_left _ hp
        · exact List.mem_append_right _ (h1.mpr (.tail _ (.tail _ (.tail _ hp))))
theorem unfocusN {w : World} {base h : Heap} {L : Addr} {S : So} {pre post : List Nd} {nd : Nd} {fr : List (Addr × Obj)} (e : S.nodes = pre ++ nd :: post)
    (N : News base L h ((nd.a, nodeOf nd) :: (nd.d, dictOf [] 0) :: (nd.l, listOf nd.its.toArray nd.n) :: (fr ++ (S.x, instObj 165 S.dx) :: (S.dx, dictOf (S.attrs w) S.an) :: (S.d, S.o) :: (S.more ++ ndObjs (pre ++ post))))) : News base L h (fr ++ S.objs w) := fun p hp => by
  have h1 := (focus_perm (w := w) e).mem_iff (a := p)
  refine N p ?_
  rcases List.mem_append.mp hp with hp | hp
  · exact .tail _ (.tail _ (.tail _ (List.mem_append_left _ hp)))
  · rcases List.mem_cons.mp (h1.mp hp) with rfl | hp
    · exact .head _
    · rcases List.mem_cons.mp hp with rfl | hp
      · exact .tail _ (.head _)
      · rcases List.mem_cons.mp hp with rfl | hp
        · exact .tail _ (.tail _ (.head _))
        · exact .tail _ (.tail _ (.tail _ (List.mem_append_right _ hp)))
theorem fst_same {pre post : List Nd} {nd nd' : Nd} (ha : nd'.a = nd.a) (hd : nd'.d = nd.d) (hl : nd'.l = nd.l) : (ndObjs (pre ++ nd' :: post)).map (·.1) = (ndObjs (pre ++ nd :: post)).map (·.1) := by
  rw [ndObjs_app, ndObjs_app, List.map_append, List.map_append]
  show _ ++ (nd'.a :: nd'.d :: nd'.l :: (ndObjs post).map (·.1)) = _
  rw [ha, hd, hl]; rfl
theorem objs_fst {w : World} {S : So} {o o' : Obj} {pre post : List Nd} {nd nd' : Nd} (ha : nd'.a = nd.a) (hd : nd'.d = nd.d) (hl : nd'.l = nd.l) :
    (({ S with o := o', nodes := pre ++ nd' :: post } : So).objs w).map (·.1) = (({ S with o := o, nodes := pre ++ nd :: post } : So).objs w).map (·.1) := by
  show S.x :: S.dx :: S.d :: (S.more ++ ndObjs (pre ++ nd' :: post)).map (·.1) = S.x :: S.dx :: S.d :: (S.more ++ ndObjs (pre ++ nd :: post)).map (·.1)
  rw [List.map_append, List.map_append, fst_same ha hd hl]
theorem nodup_upd {w : World} {S : So} {o o' : Obj} {pre post : List Nd} {nd : Nd} (nd' : Nd) (fr : List (Addr × Obj)) (h : ((fr ++ ({ S with o := o, nodes := pre ++ nd :: post } : So).objs w).map (·.1)).Nodup) (ha : nd'.a = nd.a) (hd : nd'.d = nd.d) (hl : nd'.l = nd.l) :
    ((fr ++ ({ S with o := o', nodes := pre ++ nd' :: post } : So).objs w).map (·.1)).Nodup := by
  rw [List.map_append] at h ⊢
  rw [objs_fst (w := w) (S := S) (o := o) (o' := o') (nd := nd) (nd' := nd') ha hd hl]
  exact h
theorem kvs_same {pre post : List Nd} {nd nd' : Nd} (ha : nd'.a = nd.a) (hk : nd'.key = nd.key) : kvsOf (pre ++ nd' :: post) = kvsOf (pre ++ nd :: post) := by
  unfold kvsOf
  simp only [List.map_append, List.map_cons, ha, hk]
theorem So.Ok.upd {w : World} {S : So} {o : Obj} {pre post : List Nd} {nd nd' : Nd} (h : ({ S with o := o, nodes := pre ++ nd :: post } : So).Ok w) (ha : nd'.a = nd.a) (hk : nd'.key = nd.key) (hi : IntsAre nd'.its nd'.succ) : ({ S with o := o, nodes := pre ++ nd' :: post } : So).Ok w := by
  refine ⟨h.lo, ?_, fun n hn => ?_⟩
  · show o.IsDictOf _ (kvsOf (pre ++ nd' :: post))
    rw [kvs_same ha hk]; exact h.dict
  · rcases List.mem_append.mp hn with hn | hn
    · exact h.areInts n (List.mem_append_left _ hn)
    · rcases List.mem_cons.mp hn with rfl | hn
      · exact hi
      · exact h.areInts n (List.mem_append_right _ (.tail _ hn))
noncomputable def vOf (nd : Nd) : Int × Int × List Int := (nd.key, nd.np, nd.succ)
theorem view_upd {S : So} {o o' : Obj} {pre post : List Nd} {nd nd' : Nd} {k : Int} (f : Int × Int × List Int → Int × Int × List Int) (hn : ((pre ++ nd :: post).map (·.key)).Nodup) (hk : nd.key = k) (hf : vOf nd' = f (vOf nd)) :
    ({ S with o := o', nodes := pre ++ nd' :: post } : So).view = (({ S with o := o, nodes := pre ++ nd :: post } : So).view).map fun x => if x.1 = k then f x else x := by
  show (pre ++ nd' :: post).map vOf = ((pre ++ nd :: post).map vOf).map _
  rw [List.map_map, List.map_append, List.map_append, List.map_cons, List.map_cons, hf]
  rw [List.map_append, List.map_cons] at hn
  have hn' := List.nodup_append.mp hn
  have hn2 := List.nodup_cons.mp hn'.2.1
  congr 1
  · refine List.map_congr_left fun n hm => ?_
    have : n.key ≠ k := fun q => hn'.2.2 n.key (List.mem_map_of_mem hm) nd.key (.head _) (q.trans hk.symm)
    show vOf n = if n.key = k then f (vOf n) else vOf n
    rw [if_neg this]
  · congr 1
    · show f (vOf nd) = if nd.key = k then f (vOf nd) else vOf nd
      rw [if_pos hk]
    · refine List.map_congr_left fun n hm => ?_
      have : n.key ≠ k := fun q => hn2.1 (by rw [hk, ← q]; exact List.mem_map_of_mem (f := fun n : Nd => n.key) hm)
      show vOf n = if n.key = k then f (vOf n) else vOf n
      rw [if_neg this]
theorem unfocus_np {w : World} {base h : Heap} {L : Addr} {S : So} {rd : Value} {o1 : Obj} {pre post : List Nd} {nd : Nd} {np' : Int} {pt' : Tok} {p : Addr × Obj} (hrd : S.rd = rd)
    (N : News base L h ((nd.a, { cls := .ref 68, dict := some nd.d, slots := #[some (.int nd.key nd.kt), some (.int np' pt'), some (.ref nd.l)] }) :: (nd.d, dictOf [] 0) :: (nd.l, listOf nd.its.toArray nd.n) :: p :: (S.x, instObj 165 S.dx) ::
      (S.dx, dictOf [⟨PyData.keyHash w.params (Str.ofString "_node2info"), .str (Str.ofString "_node2info") S.k1, .ref S.d⟩, ⟨PyData.keyHash w.params (Str.ofString "_ready_nodes"), .str (Str.ofString "_ready_nodes") S.k2, rd⟩,
  ⟨PyData.keyHash w.params (Str.ofString "_npassedout"), .str (Str.ofString "_npassedout") S.k3, .int S.po S.pt⟩, ⟨PyData.keyHash w.params (Str.ofString "_nfinished"), .str (Str.ofString "_nfinished") S.k4, .int S.nf S.ft⟩] S.an) :: (S.d, o1) :: (S.more ++ ndObjs (pre ++ post)))) :
    ∃ pt5, News base L h (p :: ({ S with o := o1, nodes := pre ++ { nd with np := np', pt := pt5 } :: post } : So).objs w) := by
  subst hrd
  exact ⟨pt', unfocusN (fr := [p]) (S := { S with o := o1, nodes := pre ++ { nd with np := np', pt := pt' } :: post }) rfl N⟩
theorem unfocus_succ {w : World} {base h : Heap} {L : Addr} {S : So} {rd : Value} {o1 : Obj} {pre post : List Nd} {nd : Nd} {its' : List Value} {n' : Nat} {succ' : List Int} {p q : Addr × Obj} (hrd : S.rd = rd)
    (N : News base L h ((nd.a, nodeOf nd) :: (nd.d, dictOf [] 0) :: (nd.l, listOf its'.toArray n') :: p :: q :: (S.x, instObj 165 S.dx) ::
      (S.dx, dictOf [⟨PyData.keyHash w.params (Str.ofString "_node2info"), .str (Str.ofString "_node2info") S.k1, .ref S.d⟩, ⟨PyData.keyHash w.params (Str.ofString "_ready_nodes"), .str (Str.ofString "_ready_nodes") S.k2, rd⟩,
  ⟨PyData.keyHash w.params (Str.ofString "_npassedout"), .str (Str.ofString "_npassedout") S.k3, .int S.po S.pt⟩, ⟨PyData.keyHash w.params (Str.ofString "_nfinished"), .str (Str.ofString "_nfinished") S.k4, .int S.nf S.ft⟩] S.an) :: (S.d, o1) :: (S.more ++ ndObjs (pre ++ post)))) :
    News base L h (p :: q :: ({ S with o := o1, nodes := pre ++ { nd with its := its', n := n', succ := succ' } :: post } : So).objs w) := by
  subst hrd
  exact unfocusN (fr := [p, q]) (S := { S with o := o1, nodes := pre ++ { nd with its := its', n := n', succ := succ' } :: post }) rfl N
local macro_rules | `(tactic| k_ne) => `(tactic| (refine neN ?_; (try dsimp only); first | assumption | exact Ne.symm (by assumption) | omega))
theorem refold2 {w : World} {base h : Heap} {L : Addr} {S : So} {rd : Value} {p q : Addr × Obj} (hrd : S.rd = rd) (N : News base L h (p :: q :: S.objsE w rd)) : News base L h (p :: q :: S.objs w) := by rw [objs_rd hrd]; exact N
theorem upd_len {pre post : List Nd} {nd nd' : Nd} {b : Nat} (h : ∀ n ∈ pre ++ nd :: post, n.its.length ≤ b) (h' : nd'.its.length ≤ b) : ∀ n ∈ pre ++ nd' :: post, n.its.length ≤ b := fun n hn => by
  rcases List.mem_append.mp hn with hn | hn
  · exact h n (List.mem_append_left _ hn)
  · rcases List.mem_cons.mp hn with rfl | hn
    · exact h'
    · exact h n (List.mem_append_right _ (.tail _ hn))
noncomputable abbrev add_kP := (World) × (ExcName → Option Value) × (Str → Option Value) × (Str → Option Value) × (Around) × (Heap) × (Shared) × (Result → Shared → Prop) × (So) × (Int) × (Tok) × (List Value) × (List Int) × (Nat)
noncomputable def add_kS : add_kP → Prop := fun p => (fun (w : World) (mean : ExcName → Option Value) (mg : Str → Option Value) (mb : Str → Option Value) (A : Around) (hb : Heap) (s : Shared) (R : Result → Shared → Prop) (S : So) (k : Int) (t : Tok) (pi : List Value) (ps : List Int) (b : Nat) => ∀ (X : (hd.heap_1 w.params).In hb)
   (T : Top hd.view_1 (looseW hd.view_1 [Str.ofString "_NodeInfo"]) mean mg mb hb)
   (St : hb.StaysIn s.heap)
   (C : Pre hb s.heap (S.objs w))
   (O : S.Ok w)
   (hrd : S.rd = .none)
   (hz : S.nodes.length ≤ 500)
   (hb0 : b ≤ 10000)
   (hb1 : ∀ nd ∈ S.nodes, nd.its.length ≤ b)
   (hp : IntsAre pi ps)
   (hpz : ps.length ≤ 63)
   (hh : A.handled = none)
   (hd : A.depth + 10 < recursionLimit)
   (hret : ∀ S' h' tk', (∀ nd ∈ S'.nodes, nd.its.length ≤ b + ps.length) → S'.nodes.length ≤ S.nodes.length + 1 + ps.length → (∃ o1 n1, S' = { S with o := o1, nodes := n1 }) → S'.view = addV S.view k ps → S'.Ok w → Post s.heap h' (S.objs w) (S'.objs w) → R (.ok (.ret .none)) { s with heap := h', toks := tk' }),
    codeAny (model PySem.Challenge.rw_oh0070_01.row.prog w) A (.call (.ref 115) ⟨.ref S.x :: .int k t :: pi, []⟩) R s) p.1 p.2.1 p.2.2.1 p.2.2.2.1 p.2.2.2.2.1 p.2.2.2.2.2.1 p.2.2.2.2.2.2.1 p.2.2.2.2.2.2.2.1 p.2.2.2.2.2.2.2.2.1 p.2.2.2.2.2.2.2.2.2.1 p.2.2.2.2.2.2.2.2.2.2.1 p.2.2.2.2.2.2.2.2.2.2.2.1 p.2.2.2.2.2.2.2.2.2.2.2.2.1 p.2.2.2.2.2.2.2.2.2.2.2.2.2
noncomputable def add_kX : add_kP := @Classical.epsilon add_kP ⟨⟨⟨fun _ _ => 0, { strHash := fun _ => 0, shareClass := fun _ => 0, mergeTok := fun t => t, idOf := fun _ => 0, idOfShared := fun _ _ => 0, followText := fun _ => false, idOfImm := fun _ => 0 }⟩, fun _ => none, fun _ => none, fun _ => none, callerA, {}, {}, fun _ _ => True, ⟨0, 0, 0, 0, 0, 0, 0, 0, { cls := .none, data := .plain }, .none, 0, 0, 0, 0, [], []⟩, 0, 0, [], [], 0⟩⟩ fun x => ¬ add_kS x
namespace add_kC
noncomputable def w : World := add_kX.1
noncomputable def mean : ExcName → Option Value := add_kX.2.1
noncomputable def mg : Str → Option Value := add_kX.2.2.1
noncomputable def mb : Str → Option Value := add_kX.2.2.2.1
noncomputable def A : Around := add_kX.2.2.2.2.1
noncomputable def hb : Heap := add_kX.2.2.2.2.2.1
noncomputable def s : Shared := add_kX.2.2.2.2.2.2.1
noncomputable def R : Result → Shared → Prop := add_kX.2.2.2.2.2.2.2.1
noncomputable def S : So := add_kX.2.2.2.2.2.2.2.2.1
noncomputable def k : Int := add_kX.2.2.2.2.2.2.2.2.2.1
noncomputable def t : Tok := add_kX.2.2.2.2.2.2.2.2.2.2.1
noncomputable def pi : List Value := add_kX.2.2.2.2.2.2.2.2.2.2.2.1
noncomputable def ps : List Int := add_kX.2.2.2.2.2.2.2.2.2.2.2.2.1
noncomputable def b : Nat := add_kX.2.2.2.2.2.2.2.2.2.2.2.2.2
noncomputable def base : Heap := hideAll s.heap ((S.objs w).map (·.1))
noncomputable def D : Addr := s.heap.objs.size
theorem key : ∀ (X : (hd.heap_1 w.params).In hb)
   (T : Top hd.view_1 (looseW hd.view_1 [Str.ofString "_NodeInfo"]) mean mg mb hb)
   (St : hb.StaysIn s.heap)
   (C : Pre hb s.heap (S.objs w))
   (O : S.Ok w)
   (hrd : S.rd = .none)
   (hz : S.nodes.length ≤ 500)
   (hb0 : b ≤ 10000)
   (hb1 : ∀ nd ∈ S.nodes, nd.its.length ≤ b)
   (hp : IntsAre pi ps)
   (hpz : ps.length ≤ 63)
   (hh : A.handled = none)
   (hd : A.depth + 10 < recursionLimit)
   (hret : ∀ S' h' tk', (∀ nd ∈ S'.nodes, nd.its.length ≤ b + ps.length) → S'.nodes.length ≤ S.nodes.length + 1 + ps.length → (∃ o1 n1, S' = { S with o := o1, nodes := n1 }) → S'.view = addV S.view k ps → S'.Ok w → Post s.heap h' (S.objs w) (S'.objs w) → R (.ok (.ret .none)) { s with heap := h', toks := tk' }),
    codeAny (model PySem.Challenge.rw_oh0070_01.row.prog w) A (.call (.ref 115) ⟨.ref S.x :: .int k t :: pi, []⟩) R s := by
  intro X T St C O hrd hz hb0 hb1 hp hpz hh hd hret
  have hH : ∀ a ∈ (S.objs w).map (·.1), hb.get? a = none := chg_off C.found
  have hlo := O.lo
  have hdict := O.dict
  have hpl := hp.length
  k_dflt (refine' enter_rest (H := (S.objs w).map (·.1)) (vs := pi) (binds := fun v9 => [(Str.ofString "self", .ref S.x), (Str.ofString "node", .int k t), (Str.ofString "predecessors", v9)]) ?k1 ?k2 ?k3 ?k4 ?k6 ?k7 ?k8 ?k9 ?kB ?kz ?_ ?c2 ?c3 ?c4 ?c5; (case k1 => k_asm); (case k2 => k_asm); (case k3 => k_asm); (case k4 => first | assumption | (intro a ha; cases ha)); (case k6 => k_is); (case k7 => k_is); (case k8 => k_room); (case k9 => first | exact bind_rest2 rfl rfl rfl rfl rfl rfl rfl rfl rfl | exact bind_rest1 rfl rfl rfl rfl rfl rfl rfl rfl); (case c5 => decide); (case kB => (intro v9; exact locs rfl)); (case kz => omega); (case c2 => exact rfl); (case c3 => exact rfl); (case c4 => exact rfl); k_whole; intro g L' D' h' hg hD' hL' F' K' G' X' T' S'; (try dsimp only); (try k_fold))
  subst hg hL' hD'
  have N' : News (hideAll s.heap ((S.objs w).map (·.1))) (s.heap.objs.size + 1) h' ((s.heap.objs.size, tupOf pi.toArray) :: S.objs w) := by
    intro p hp
    rcases List.mem_cons.mp hp with rfl | hp
    · exact ⟨G', (Nat.ne_of_lt (Nat.lt_succ_self _)), Heap.get?_none_of_le (by rw [hideAll_size]; exact Nat.le_refl _)⟩
    · exact ⟨K' _ _ (C.found p hp).1, Nat.ne_of_lt (Nat.lt_succ_of_lt (Heap.lt_size (C.found p hp).1)), hideAll_none _ (List.mem_map_of_mem hp)⟩
  generalize hbase : hideAll s.heap ((S.objs w).map (·.1)) = base at *
  obtain rfl : base = add_kC.base := hbase.symm
  have hndD : (((s.heap.objs.size, tupOf pi.toArray) :: S.objs w).map (·.1)).Nodup := List.nodup_cons.mpr ⟨fun q => by
    obtain ⟨p, hp, e⟩ := List.mem_map.mp q
    exact absurd (Heap.lt_size (C.found p hp).1) (by rw [show p.1 = s.heap.objs.size from e]; exact Nat.lt_irrefl _), C.nodup⟩
  generalize hDD : s.heap.objs.size = D at *
  obtain rfl : D = add_kC.D := hDD.symm
  have N'' := N'
  rw [objs_rd hrd] at N''
  clear N'
  ((try clear pk); (try clear pk))
  have pk : PkAt 0 := trivial
  k_steps
  refine unpark ?_
  rename News _ _ _ _ => N2
  rename Fr _ _ _ _ => F2
  replace N2 := refold hrd N2
  refine gni_c S X' T' (fun b o e => F2.keep b o e) (Pre.of N2 (fun p hp => .tail _ hp) C.nodup) O (by omega) (by k_room) ?_
  intro S1 nd1 h1 tk1 En O1 P1
  obtain ⟨o1, n1, rfl, hn1, hk1, hv1, hlen1, hbb1⟩ := En.spec
  replace hbb1 := hbb1 b hb1
  obtain ⟨pre, post, rfl⟩ := List.append_of_mem hn1
  obtain ⟨F3, N3, hnd3⟩ := P1.backF [(D, tupOf pi.toArray)] F2 N2 hndD
  have ap := apart_of (w := w) rfl (List.nodup_append.mp (by rw [List.map_append] at hnd3; exact hnd3)).2.1
  have hDo : ∀ p ∈ ({ S with o := o1, nodes := pre ++ nd1 :: post } : So).objs w, p.1 ≠ D := off_head hnd3
  have hDa : nd1.a ≠ D := hDo (nd1.a, nodeOf nd1) ((focus_perm (w := w) rfl).mem_iff.mpr (.head _))
  have hDl : nd1.l ≠ D := hDo (nd1.l, _) ((focus_perm (w := w) rfl).mem_iff.mpr (.tail _ (.tail _ (.head _))))
  obtain ⟨g1, g2, g3, g4, g5, g6, g7, g8, g9, g10, g11⟩ := ap
  have N4 := focusN rfl N3
  clear N2 N3 F2
  dsimp only [List.cons_append, List.nil_append, So.attrs] at N4 g1 g2 g3 g4 g5 g6 g7 g8 g9 g10 g11
  rw [hrd] at N4
  ((try clear pk); (try clear pk))
  have pk : PkAt 1 := trivial
  k_steps
  refine unpark ?_
  rename News _ _ _ _ => N5
  rename Fr _ _ _ _ => F5
  obtain ⟨pt5, N5⟩ := unfocus_np hrd N5
  have O5 := O1.upd (nd' := { nd1 with np := nd1.np + ps.length, pt := pt5 }) rfl rfl (O1.areInts nd1 (List.mem_append_right _ (.head _)))
  have hv5 := view_upd (S := S) (o := o1) (o' := o1) (nd' := { nd1 with np := nd1.np + ps.length, pt := pt5 }) (fun x => (x.1, x.2.1 + ps.length, x.2.2)) O1.keys hk1 rfl
  rw [hv1] at hv5
  have hnd5 := nodup_upd (o' := o1) { nd1 with np := nd1.np + ps.length, pt := pt5 } [(D, tupOf pi.toArray)] hnd3 rfl rfl rfl
  clear g1 g2 g3 g4 g5 g6 g7 g8 g9 g10 g11 hnd3 hDo hDa hDl P1 En O1 hv1
  rename IntsAre pi ps => hp
  refine loop_tupleP (σ := Obj × List Nd) (fun c => (D, tupOf pi.toArray) :: ({ S with o := c.1, nodes := c.2 } : So).objs w) (fun _ => [(Str.ofString "self", .ref S.x), (Str.ofString "node", .int k t)])
    (fun i c => ({ S with o := c.1, nodes := c.2 } : So).Ok w ∧ ({ S with o := c.1, nodes := c.2 } : So).view = (ps.take i).foldl (fun v p => succV (ensV v p) p k) (npV (ensV S.view k) k ps.length) ∧
      (((D, tupOf pi.toArray) :: ({ S with o := c.1, nodes := c.2 } : So).objs w).map (·.1)).Nodup ∧ c.2.length ≤ S.nodes.length + 1 + i ∧ ∀ n ∈ c.2, n.its.length ≤ b + i) (o1, pre ++ { nd1 with np := nd1.np + ps.length, pt := pt5 } :: post) hh (fun c => .head _) F5 N5 ?hk ⟨O5, hv5, hnd5, ?hl, upd_len hbb1 (hbb1 nd1 (List.mem_append_right _ (.head _)))⟩ ?_ ?_
  case hk => (intro p hp; rcases List.mem_cons.mp hp with rfl | hp; exact rfl; cases List.mem_singleton.mp hp; exact rfl)
  case hl => (simp only [List.length_append, List.length_cons] at hlen1 ⊢; omega)
  · intro i c u v h tk I oI hv hJ hoI hI0 F6 N6
    obtain ⟨o6, n6⟩ := c
    dsimp only at hJ hoI F6 N6
    obtain ⟨O6, hv6, hnd6, hl6, hbb6⟩ := hJ
    have hi : i < pi.length := (List.getElem?_eq_some_iff.mp hv).1
    obtain ⟨p, hpi⟩ : ∃ p, ps[i]? = some p := ⟨ps[i]'(by omega), by simp [← hpl, hi]⟩
    obtain ⟨pt, hpt⟩ := hp.get i p hpi
    obtain rfl : v = .int p pt := Option.some.inj (hv.symm.trans hpt)
    have hnd7 : (((I, oI) :: (D, tupOf pi.toArray) :: ({ S with o := o6, nodes := n6 } : So).objs w).map (·.1)).Nodup := List.nodup_cons.mpr ⟨fun q => by
      obtain ⟨r, hr, e⟩ := List.mem_map.mp q
      exact hoI r hr e, hnd6⟩
    have N7 : News base (D + 1) h ((I, oI) :: (D, tupOf pi.toArray) :: (({ S with o := o6, nodes := n6 } : So).objsE w .none)) := by
      intro p hp
      refine N6 p ?_
      rw [objs_rd (S := { S with o := o6, nodes := n6 }) hrd]
      exact hp
    dsimp only [So.objsE] at N7
    clear N6
    ((try clear pk); (try clear pk))
    have pk : PkAt 0 := trivial
    k_steps
    refine unpark ?_
    rename News _ _ _ _ => N8
    rename Fr _ _ _ _ => F8
    replace N8 := refold2 (S := { S with o := o6, nodes := n6 }) hrd N8
    refine gni_c { S with o := o6, nodes := n6 } X' T' (fun b o e => F8.keep b o e) (Pre.of N8 (fun p hp => .tail _ (.tail _ hp)) (List.nodup_cons.mp hnd6).2) O6 (by show n6.length ≤ 1000; omega) (by k_room) ?_
    intro S1 nd1 h1 tk1 En O1 P1
    obtain ⟨o1, n1, rfl, hn1, hk1, hv1, hlen1, hbb1⟩ := En.spec
    replace hbb1 := hbb1 (b + i) hbb6
    obtain ⟨pre, post, rfl⟩ := List.append_of_mem hn1
    obtain ⟨F9, N9, hnd9⟩ := P1.backF [(I, oI), (D, tupOf pi.toArray)] F8 N8 hnd7
    have ap := apart_of (w := w) rfl (List.nodup_append.mp (by rw [List.map_append] at hnd9; exact hnd9)).2.1
    have hDo : ∀ p ∈ ({ S with o := o1, nodes := pre ++ nd1 :: post } : So).objs w, p.1 ≠ D := off_head (List.nodup_cons.mp hnd9).2
    have hIo : ∀ p ∈ (D, tupOf pi.toArray) :: ({ S with o := o1, nodes := pre ++ nd1 :: post } : So).objs w, p.1 ≠ I := off_head hnd9
    have hDl : nd1.l ≠ D := hDo (nd1.l, _) ((focus_perm (w := w) rfl).mem_iff.mpr (.tail _ (.tail _ (.head _))))
    have hIl : nd1.l ≠ I := hIo (nd1.l, _) (.tail _ ((focus_perm (w := w) rfl).mem_iff.mpr (.tail _ (.tail _ (.head _)))))
    obtain ⟨g1, g2, g3, g4, g5, g6, g7, g8, g9, g10, g11⟩ := ap
    have N10 := focusN rfl N9
    clear N8 N9 F8
    dsimp only [List.cons_append, List.nil_append, So.attrs] at N10 g1 g2 g3 g4 g5 g6 g7 g8 g9 g10 g11
    rw [hrd] at N10
    have hI1 := O1.areInts nd1 (List.mem_append_right _ (.head _))
    have hI2 := hbb1 nd1 (List.mem_append_right _ (.head _))
    ((try clear pk); (try clear pk))
    k_steps
    rename News _ _ _ _ => nE
    simp only [List.push_toArray] at nE
    have N11 := unfocus_succ (succ' := nd1.succ ++ [k]) hrd nE
    have O11 := O1.upd (nd' := { nd1 with its := nd1.its ++ [.int k t], n := nd1.n + 1, succ := nd1.succ ++ [k] }) rfl rfl (ints_snoc hI1 _ _)
    have hv11 := view_upd (S := S) (o := o1) (o' := o1) (nd' := { nd1 with its := nd1.its ++ [.int k t], n := nd1.n + 1, succ := nd1.succ ++ [k] }) (fun x => (x.1, x.2.1, x.2.2 ++ [k])) O1.keys hk1 rfl
    have hnd11 := nodup_upd (o' := o1) { nd1 with its := nd1.its ++ [.int k t], n := nd1.n + 1, succ := nd1.succ ++ [k] } [(D, tupOf pi.toArray)] (List.nodup_cons.mp hnd9).2 rfl rfl rfl
    have hoff11 : ∀ p ∈ (D, tupOf pi.toArray) :: ({ S with o := o1, nodes := pre ++ { nd1 with its := nd1.its ++ [.int k t], n := nd1.n + 1, succ := nd1.succ ++ [k] } :: post } : So).objs w, p.1 ≠ I := off_head (nodup_upd (o' := o1) { nd1 with its := nd1.its ++ [.int k t], n := nd1.n + 1, succ := nd1.succ ++ [k] } [(I, oI), (D, tupOf pi.toArray)] hnd9 rfl rfl rfl)
    refine turn_end (o1, pre ++ { nd1 with its := nd1.its ++ [.int k t], n := nd1.n + 1, succ := nd1.succ ++ [k] } :: post) (by assumption) N11 (.head _) (fun p hp => .tail _ hp) hoff11 ⟨?_, O11, ?_, hnd11, ?_, upd_len (fun n hn => Nat.le_succ_of_le (hbb1 n hn)) (by simp only [List.length_append, List.length_singleton]; omega)⟩
    · (intro p hp; rcases List.mem_cons.mp hp with rfl | hp; exact rfl; cases List.mem_singleton.mp hp; exact rfl)
    · rw [hv11, hv1, hv6, List.take_add_one, hpi, List.foldl_append]; rfl
    · simp only [List.length_append, List.length_cons] at hlen1 ⊢; omega
  · intro c u h tk hJ F6 N6
    obtain ⟨o6, n6⟩ := c
    dsimp only at hJ F6 N6
    obtain ⟨O6, hv6, hnd6, hl6, hbb6⟩ := hJ
    ((try clear pk); (try clear pk))
    k_steps
    (try subst hbase)
    rw [hpl, List.take_length] at hv6
    exact hret _ _ _ (by rw [← hpl]; exact hbb6) (by rw [← hpl]; exact hl6) ⟨o6, n6, rfl⟩ hv6 O6 (post_of F6 N6 (fun p hp => .tail _ hp) (List.nodup_cons.mp hnd6).2)
end add_kC
section
variable {w : World} {mean : ExcName → Option Value} {mg mb : Str → Option Value} {A : Around} {hb : Heap} {s : Shared} {Q E : Value → Shared → Prop}
theorem add_k {R : Result → Shared → Prop} (S : So) {k : Int} {t : Tok} {pi : List Value} {ps : List Int} (X : (hd.heap_1 w.params).In hb) (T : Top hd.view_1 (looseW hd.view_1 [Str.ofString "_NodeInfo"]) mean mg mb hb) (St : hb.StaysIn s.heap)
   (C : Pre hb s.heap (S.objs w)) (O : S.Ok w) (hrd : S.rd = .none) (hz : S.nodes.length ≤ 500) {b : Nat} (hb0 : b ≤ 10000) (hb1 : ∀ nd ∈ S.nodes, nd.its.length ≤ b) (hp : IntsAre pi ps) (hpz : ps.length ≤ 63) (hh : A.handled = none) (hd : A.depth + 10 < recursionLimit)
    (hret : ∀ S' h' tk', (∀ nd ∈ S'.nodes, nd.its.length ≤ b + ps.length) → S'.nodes.length ≤ S.nodes.length + 1 + ps.length → (∃ o1 n1, S' = { S with o := o1, nodes := n1 }) → S'.view = addV S.view k ps → S'.Ok w → Post s.heap h' (S.objs w) (S'.objs w) → R (.ok (.ret .none)) { s with heap := h', toks := tk' }) :
    codeAny (model PySem.Challenge.rw_oh0070_01.row.prog w) A (.call (.ref 115) ⟨.ref S.x :: .int k t :: pi, []⟩) R s := by
  refine Classical.byContradiction fun hz9 => ?_
  exact @Classical.epsilon_spec add_kP (fun x => ¬ add_kS x) ⟨⟨w, mean, mg, mb, A, hb, s, R, S, k, t, pi, ps, b⟩, fun zz9 => hz9 (zz9 X T St C O hrd hz hb0 hb1 hp hpz hh hd hret)⟩ add_kC.key
end
end Part_M7
local macro_rules | `(tactic| k_ne) => `(tactic| (refine neN ?_; (try dsimp only); first | assumption | exact Ne.symm (by assumption) | omega))
section Part_M8
theorem rules_M8 : True := by
  k_with_none
  w_top off
  k_with "m mine list" => first | exact isL (by k_asm) (by k_mem) | exact isB (by k_asm) (by assumption)
  k_with "m call builtin:len" => (k_here; (try dsimp only); (with_reducible show wpAny _ _ (call (Value.builtin "len") [Value.ref _]) _ _ _); k_dflt (refine' len_L ?zqk1 ?zqk3 ?zqk4 ?_; (case zqk1 => walk_at "mine list"); (case zqk3 => assumption); (case zqk4 => omega)))
  k_with "m subscriptTail" => (k_here; (try dsimp only); (with_reducible show wpAny _ _ (subscriptTail _ _ (Value.ref _) (Value.int _ _)) _ _ _); k_dflt (first | (refine' item_L ?zqk1 ?zqk3 ?zqk4 ?zqk5 ?zqk6 ?_ ?zqk8; (case zqk1 => walk_at "mine list"); (case zqk3 => assumption); (case zqk5 => with_reducible assumption); (case zqk4 => omega); (case zqk6 => omega); (case zqk8 => with_unfolding_all rfl); k_whole; intro t9) | (refine' out_L ?zqk0 ?zqk1 ?zqk3 ?zqk4 ?zqk5 ?_ ?zqk8; (case zqk0 => first | rfl | assumption); (case zqk1 => walk_at "mine list"); (case zqk3 => assumption); (case zqk4 => omega); (case zqk5 => omega); (case zqk8 => with_unfolding_all rfl); k_whole; intro h9 tk9 e9 x9)))
  k_with "m subscriptTail Name Name ref int" => (k_here; (try dsimp only); (with_reducible show wpAny _ _ (subscriptTail _ _ (Value.ref _) (Value.int _ _)) _ _ _); k_dflt (first | (refine' item_L ?zqk1 ?zqk3 ?zqk4 ?zqk5 ?zqk6 ?_ ?zqk8; (case zqk1 => walk_at "mine list"); (case zqk3 => assumption); (case zqk5 => with_reducible assumption); (case zqk4 => omega); (case zqk6 => omega); (case zqk8 => with_unfolding_all rfl); k_whole; intro t9) | (refine' out_L ?zqk0 ?zqk1 ?zqk3 ?zqk4 ?zqk5 ?_ ?zqk8; (case zqk0 => first | rfl | assumption); (case zqk1 => walk_at "mine list"); (case zqk3 => assumption); (case zqk4 => omega); (case zqk5 => omega); (case zqk8 => with_unfolding_all rfl); k_whole; intro h9 tk9 e9 x9) | (refine' out_over ?zqk0 ?zqkN ?zqkm ?zqkb ?zqk1 ?zqk3 ?zqk4 ?zqk5 ?_ ?zqk8; (case zqk0 => rfl); (case zqkN => k_asm); (case zqkm => k_mem); (case zqkb => assumption); (case zqk1 => walk_at "mine list"); (case zqk3 => assumption); (case zqk4 => omega); (case zqk5 => omega); (case zqk8 => with_unfolding_all rfl); k_whole; intro h9 tk9 e9 x9)))
  k_with "m subscriptTail Name Slice ref ref" => (k_here; k_dflt (refine' kmk_slice_ints ?zqF ?zqN ?zql ?zqpl ?zqpu ?zqhi ?zqhm rfl ?_ ?zqhs ?zqht ?zqhz; (case zqF => k_asm); (case zqN => k_asm); (case zql => walk_at "mine list"); (case zqpl => kmk_part); (case zqpu => kmk_part); (case zqhi => assumption); (case zqhm => first | (with_reducible refine kmk_from (by assumption) ?_; omega) | (with_reducible refine kmk_upto (by assumption) ?_; omega) | with_reducible exact kmk_all (by assumption)); (case zqhs => with_unfolding_all rfl); (case zqht => kmk_pure); (case zqhz => exact kmk_sz (by assumption) (by simp only [sizeLine_eq]; omega)); k_whole; intro D9 ws9 h9 F9 N9 l9 I9 e9 e9'; (try k_lt l9)))
  k_with "m call builtin:list.extend" => (k_here; k_dflt (refine' extend_L ?zqF ?zqN ?zqm ?zqU ?zqi1 ?zqi2 ?zqz ?_; (case zqF => k_asm); (case zqN => k_asm); (case zqU => k_upd); (case zqm => k_mem); (case zqi1 => walk_at "mine ints"); (case zqi2 => walk_at "mine ints"); (case zqz => walk_at "mine len"); k_whole; intro h9 F9 N9 I9))
  k_with "m mine len" => first | omega | (simp only [List.length_append, List.length_drop, List.length_take, List.length_nil, List.length_cons] at *; omega)
  k_with "m mine ints" => first | exact IntsAre.nil | assumption
  k_with "m compareOp In int ref" => (k_here; (try dsimp only); k_dflt (refine' in_L ?zqm ?zqi ?_; (case zqm => walk_at "mine list"); (case zqi => assumption)))
  k_with "m getMethod ref" => (k_here; (with_reducible show wpAny _ _ (getMethod (Value.ref _) (PySem.Str.ofString "get") _) _ _ _); k_dflt (refine' getm_I ?zqN ?zqm ?zqh ?_; (case zqN => k_asm); (case zqm => k_mem); (case zqh => assumption)))
  k_with "m call builtin:dict.get" => (k_here; (try dsimp only); (with_reducible show wpAny _ _ (call (Value.builtin "dict.get") [Value.ref _, Value.int _ _]) _ _ _); k_dflt (refine' get_I ?zqN ?zqm ?zqh ?zql ?zqv ?_; (case zqN => k_asm); (case zqm => k_mem); (case zqh => assumption); (case zql => assumption); (case zqv => assumption); dsimp only [Option.getD]))
  k_with "m call type:bool" => (k_here; (try dsimp only); (with_reducible show wpAny _ _ (call (Value.type "bool") [Value.ref _]) _ _ _); k_dflt (refine' bool_L ?zqN ?zqm ?zqi ?zqz ?_; (case zqN => k_asm); (case zqm => k_mem); (case zqi => assumption); (case zqz => omega)))
  trivial
theorem fillM8 (w : World) (h : Heap) : PySem.Challenge.rw_oh0070_01.foot = 5 → (hd.heap_1 w.params).In h → True := by
  k_fill
  intro _ _
  trivial
noncomputable abbrev So.ready (S : So) (r : Addr) (ri : List Value) (rn : Nat) : So := { S with rd := .ref r, more := [(r, listOf ri.toArray rn)] }
theorem meets_bool_list (l : Addr) (its : Array Value) (n : Nat) (hfit : (its.size : Int) < 2 ^ 63) :
    Meets (Builtin.«bool.__new__» ⟨[.type "bool", .ref l], []⟩) (fun _ R s => s.heap.get? l = some (listOf its n) ∧ R (.ok (.ret (.bool (!its.isEmpty)))) { s with toks := s.toks + 1 + 1 }) :=
  Meets.of_wp fun prog w A R s hs => by
    obtain ⟨hp, g, d, tk, os⟩ := s
    obtain ⟨hl, hs⟩ := hs
    have f1 := F.conv_sub_bool
    have hL : Heap.IsList hp l its := ⟨_, hl, rfl, n, rfl⟩
    repeat (any_goals (first | assumption | (with_reducible refine wpAny_truthy_list (s := ⟨hp, g, d, tk, os⟩) hL hfit ?_) | wp_step))
    all_goals first | exact ⟨_, rfl, hs⟩ | exact hs | skip
section
variable {prog : Program} {w : World} {A : Around} {E : Value → Shared → Prop} {s : Shared} {h₀ : Heap} {L D : Addr} {news : List (Addr × Obj)} {its : List Value} {ns : List Int} {n : Nat}
theorem bool_L {Q : Value → Shared → Prop} (N : News h₀ L s.heap news) (hm : (D, listOf its.toArray n) ∈ news) (hi : IntsAre its ns) (hz : ns.length ≤ 100000) (h : Q (.bool (!ns.isEmpty)) { s with toks := s.toks + 1 + 1 }) :
    wpAny (model prog w) A (call (.type "bool") [.ref D]) Q E s := by
  have e : its.toArray.isEmpty = ns.isEmpty := by cases hi <;> rfl
  have e2 := hi.length
  exact call_bool_1 (meets_bool_list D its.toArray n (by rw [List.size_toArray]; omega)) ⟨(N _ hm).1, show wants (fun obj s₁ => s₁.TypeIs obj "bool" ∧ Q obj s₁) E _ _ from ⟨rfl, by rw [e]; exact h⟩⟩
end
noncomputable abbrev init_cP := (World) × (ExcName → Option Value) × (Str → Option Value) × (Str → Option Value) × (Around) × (Heap) × (Shared) × (Result → Shared → Prop) × (Addr) × (Addr)
noncomputable def init_cS : init_cP → Prop := fun p => (fun (w : World) (mean : ExcName → Option Value) (mg : Str → Option Value) (mb : Str → Option Value) (A : Around) (hb : Heap) (s : Shared) (R : Result → Shared → Prop) (x : Addr) (dx : Addr) => ∀ (X : (hd.heap_1 w.params).In hb)
   (T : Top hd.view_1 (looseW hd.view_1 [Str.ofString "_NodeInfo"]) mean mg mb hb)
   (St : hb.StaysIn s.heap)
   (C : Pre hb s.heap [(x, instObj 165 dx), (dx, dictOf [] 0)])
   (hd : A.depth + 2 < recursionLimit)
   (hret : ∀ (S : So) h' tk', S.x = x → S.nodes = [] → S.rd = .none → S.po = 0 → S.nf = 0 → S.more = [] → S.Ok w → Post s.heap h' [(x, instObj 165 dx), (dx, dictOf [] 0)] (S.objs w) → R (.ok (.ret .none)) { s with heap := h', toks := tk' }),
    codeAny (model PySem.Challenge.rw_oh0070_01.row.prog w) A (.call (.ref 101) ⟨[.ref x], []⟩) R s) p.1 p.2.1 p.2.2.1 p.2.2.2.1 p.2.2.2.2.1 p.2.2.2.2.2.1 p.2.2.2.2.2.2.1 p.2.2.2.2.2.2.2.1 p.2.2.2.2.2.2.2.2.1 p.2.2.2.2.2.2.2.2.2
noncomputable def init_cX : init_cP := @Classical.epsilon init_cP ⟨⟨⟨fun _ _ => 0, { strHash := fun _ => 0, shareClass := fun _ => 0, mergeTok := fun t => t, idOf := fun _ => 0, idOfShared := fun _ _ => 0, followText := fun _ => false, idOfImm := fun _ => 0 }⟩, fun _ => none, fun _ => none, fun _ => none, callerA, {}, {}, fun _ _ => True, 0, 0⟩⟩ fun x => ¬ init_cS x
namespace init_cC
noncomputable def w : World := init_cX.1
noncomputable def mean : ExcName → Option Value := init_cX.2.1
noncomputable def mg : Str → Option Value := init_cX.2.2.1
noncomputable def mb : Str → Option Value := init_cX.2.2.2.1
noncomputable def A : Around := init_cX.2.2.2.2.1
noncomputable def hb : Heap := init_cX.2.2.2.2.2.1
noncomputable def s : Shared := init_cX.2.2.2.2.2.2.1
noncomputable def R : Result → Shared → Prop := init_cX.2.2.2.2.2.2.2.1
noncomputable def x : Addr := init_cX.2.2.2.2.2.2.2.2.1
noncomputable def dx : Addr := init_cX.2.2.2.2.2.2.2.2.2
theorem key : ∀ (X : (hd.heap_1 w.params).In hb)
   (T : Top hd.view_1 (looseW hd.view_1 [Str.ofString "_NodeInfo"]) mean mg mb hb)
   (St : hb.StaysIn s.heap)
   (C : Pre hb s.heap [(x, instObj 165 dx), (dx, dictOf [] 0)])
   (hd : A.depth + 2 < recursionLimit)
   (hret : ∀ (S : So) h' tk', S.x = x → S.nodes = [] → S.rd = .none → S.po = 0 → S.nf = 0 → S.more = [] → S.Ok w → Post s.heap h' [(x, instObj 165 dx), (dx, dictOf [] 0)] (S.objs w) → R (.ok (.ret .none)) { s with heap := h', toks := tk' }),
    codeAny (model PySem.Challenge.rw_oh0070_01.row.prog w) A (.call (.ref 101) ⟨[.ref x], []⟩) R s := by
  intro X T St C hd hret
  have hH : ∀ a ∈ [(x, instObj 165 dx), (dx, dictOf [] 0)].map (·.1), hb.get? a = none := chg_off C.found
  have hne : @Ne Nat x dx := by
    have := C.nodup
    simpa using this
  k_dflt (refine' enter_def (H := [(x, instObj 165 dx), (dx, dictOf [] 0)].map (·.1)) (binds := [(Str.ofString "self", .ref x), (Str.ofString "graph", .none)]) ?k1 ?k2 ?k3 ?k4 ?k6 ?k7 ?k8 ?k9 ?kB ?_ ?c2 ?c3 ?c4 ?c5; (case k1 => k_asm); (case k2 => k_asm); (case k3 => k_asm); (case k4 => first | assumption | (intro a ha; cases ha)); (case k6 => k_is); (case k7 => k_is); (case k8 => k_room); (case k9 => first | exact BindsTo.of_eq rfl | exact binds_K (X.keeps St) rfl (by k_is) rfl rfl rfl); (case c5 => decide); (case kB => exact locs rfl); (case c2 => exact rfl); (case c3 => exact rfl); (case c4 => exact rfl); k_whole; intro g L' h' hg hL' F' K' X' T' S'; (try dsimp only); (try k_fold))
  subst hg hL'
  have N' := chg_news C.found K'
  ((try clear pk); (try clear pk))
  k_steps
  rename News _ _ _ _ => nE
  rename Fr _ _ _ _ => fE
  rename (_ < _ ∧ _ < _) => lE
  rename Obj.IsDictOf (intKind _ _) _ _ => hD
  rename ((_ == sysModules) = false) => hlo
  exact hret ⟨x, dx, _, _, _, _, _, _, _, .none, 0, _, 0, _, [], []⟩ _ _ rfl rfl rfl rfl rfl rfl ⟨hlo, hD, fun _ h => nomatch h⟩ (post_of fE nE (List.forall_mem_cons.mpr ⟨.tail _ (.head _), List.forall_mem_cons.mpr ⟨.tail _ (.tail _ (.head _)), List.forall_mem_cons.mpr ⟨.head _, fun _ h => nomatch h⟩⟩⟩) (nd3 (by dsimp only; omega) (by dsimp only; omega) (by dsimp only; omega)))
end init_cC
section
variable {w : World} {mean : ExcName → Option Value} {mg mb : Str → Option Value} {A : Around} {hb : Heap} {s : Shared} {Q E : Value → Shared → Prop}
theorem init_c {R : Result → Shared → Prop} {x dx : Addr} (X : (hd.heap_1 w.params).In hb) (T : Top hd.view_1 (looseW hd.view_1 [Str.ofString "_NodeInfo"]) mean mg mb hb) (St : hb.StaysIn s.heap)
   (C : Pre hb s.heap [(x, instObj 165 dx), (dx, dictOf [] 0)]) (hd : A.depth + 2 < recursionLimit)
    (hret : ∀ (S : So) h' tk', S.x = x → S.nodes = [] → S.rd = .none → S.po = 0 → S.nf = 0 → S.more = [] → S.Ok w → Post s.heap h' [(x, instObj 165 dx), (dx, dictOf [] 0)] (S.objs w) → R (.ok (.ret .none)) { s with heap := h', toks := tk' }) :
    codeAny (model PySem.Challenge.rw_oh0070_01.row.prog w) A (.call (.ref 101) ⟨[.ref x], []⟩) R s := by
  refine Classical.byContradiction fun hz9 => ?_
  exact @Classical.epsilon_spec init_cP (fun x => ¬ init_cS x) ⟨⟨w, mean, mg, mb, A, hb, s, R, x, dx⟩, fun zz9 => hz9 (zz9 X T St C hd hret)⟩ init_cC.key
end
noncomputable abbrev act_cP := (World) × (ExcName → Option Value) × (Str → Option Value) × (Str → Option Value) × (Around) × (Heap) × (Shared) × (Value → Shared → Prop) × (Value → Shared → Prop) × (So) × (Addr) × (List Value) × (Nat) × (List Int)
noncomputable def act_cS : act_cP → Prop := fun p => (fun (w : World) (mean : ExcName → Option Value) (mg : Str → Option Value) (mb : Str → Option Value) (A : Around) (hb : Heap) (s : Shared) (Q : Value → Shared → Prop) (E : Value → Shared → Prop) (S : So) (r : Addr) (ri : List Value) (rn : Nat) (rs : List Int) => ∀ (X : (hd.heap_1 w.params).In hb)
   (T : Top hd.view_1 (looseW hd.view_1 [Str.ofString "_NodeInfo"]) mean mg mb hb)
   (St : hb.StaysIn s.heap)
   (C : Pre hb s.heap ((S.ready r ri rn).objs w))
   (hi : IntsAre ri rs)
   (hz : rs.length ≤ 1000)
   (hd : A.depth + 2 < recursionLimit)
   (hret : ∀ h' tk', Post s.heap h' ((S.ready r ri rn).objs w) ((S.ready r ri rn).objs w) → Q (.bool (decide (S.nf < S.po) || !rs.isEmpty)) { s with heap := h', toks := tk' }),
    wpAny (model PySem.Challenge.rw_oh0070_01.row.prog w) A (call (.ref 134) [.ref S.x]) Q E s) p.1 p.2.1 p.2.2.1 p.2.2.2.1 p.2.2.2.2.1 p.2.2.2.2.2.1 p.2.2.2.2.2.2.1 p.2.2.2.2.2.2.2.1 p.2.2.2.2.2.2.2.2.1 p.2.2.2.2.2.2.2.2.2.1 p.2.2.2.2.2.2.2.2.2.2.1 p.2.2.2.2.2.2.2.2.2.2.2.1 p.2.2.2.2.2.2.2.2.2.2.2.2.1 p.2.2.2.2.2.2.2.2.2.2.2.2.2
noncomputable def act_cX : act_cP := @Classical.epsilon act_cP ⟨⟨⟨fun _ _ => 0, { strHash := fun _ => 0, shareClass := fun _ => 0, mergeTok := fun t => t, idOf := fun _ => 0, idOfShared := fun _ _ => 0, followText := fun _ => false, idOfImm := fun _ => 0 }⟩, fun _ => none, fun _ => none, fun _ => none, callerA, {}, {}, fun _ _ => True, fun _ _ => True, ⟨0, 0, 0, 0, 0, 0, 0, 0, { cls := .none, data := .plain }, .none, 0, 0, 0, 0, [], []⟩, 0, [], 0, []⟩⟩ fun x => ¬ act_cS x
namespace act_cC
noncomputable def w : World := act_cX.1
noncomputable def mean : ExcName → Option Value := act_cX.2.1
noncomputable def mg : Str → Option Value := act_cX.2.2.1
noncomputable def mb : Str → Option Value := act_cX.2.2.2.1
noncomputable def A : Around := act_cX.2.2.2.2.1
noncomputable def hb : Heap := act_cX.2.2.2.2.2.1
noncomputable def s : Shared := act_cX.2.2.2.2.2.2.1
noncomputable def Q : Value → Shared → Prop := act_cX.2.2.2.2.2.2.2.1
noncomputable def E : Value → Shared → Prop := act_cX.2.2.2.2.2.2.2.2.1
noncomputable def S : So := act_cX.2.2.2.2.2.2.2.2.2.1
noncomputable def r : Addr := act_cX.2.2.2.2.2.2.2.2.2.2.1
noncomputable def ri : List Value := act_cX.2.2.2.2.2.2.2.2.2.2.2.1
noncomputable def rn : Nat := act_cX.2.2.2.2.2.2.2.2.2.2.2.2.1
noncomputable def rs : List Int := act_cX.2.2.2.2.2.2.2.2.2.2.2.2.2
noncomputable def base : Heap := hideAll s.heap (((S.ready r ri rn).objs w).map (·.1))
theorem key : ∀ (X : (hd.heap_1 w.params).In hb)
   (T : Top hd.view_1 (looseW hd.view_1 [Str.ofString "_NodeInfo"]) mean mg mb hb)
   (St : hb.StaysIn s.heap)
   (C : Pre hb s.heap ((S.ready r ri rn).objs w))
   (hi : IntsAre ri rs)
   (hz : rs.length ≤ 1000)
   (hd : A.depth + 2 < recursionLimit)
   (hret : ∀ h' tk', Post s.heap h' ((S.ready r ri rn).objs w) ((S.ready r ri rn).objs w) → Q (.bool (decide (S.nf < S.po) || !rs.isEmpty)) { s with heap := h', toks := tk' }),
    wpAny (model PySem.Challenge.rw_oh0070_01.row.prog w) A (call (.ref 134) [.ref S.x]) Q E s := by
  intro X T St C hi hz hd hret
  refine wpAny_call ?_
  have hH : ∀ a ∈ ((S.ready r ri rn).objs w).map (·.1), hb.get? a = none := chg_off C.found
  k_dflt (refine' enter_def (H := ((S.ready r ri rn).objs w).map (·.1)) (binds := [(Str.ofString "self", .ref S.x)]) ?k1 ?k2 ?k3 ?k4 ?k6 ?k7 ?k8 ?k9 ?kB ?_ ?c2 ?c3 ?c4 ?c5; (case k1 => k_asm); (case k2 => k_asm); (case k3 => k_asm); (case k4 => first | assumption | (intro a ha; cases ha)); (case k6 => k_is); (case k7 => k_is); (case k8 => k_room); (case k9 => first | exact BindsTo.of_eq rfl | exact binds_K (X.keeps St) rfl (by k_is) rfl rfl rfl); (case c5 => decide); (case kB => exact locs rfl); (case c2 => exact rfl); (case c3 => exact rfl); (case c4 => exact rfl); k_whole; intro g L' h' hg hL' F' K' X' T' S'; (try dsimp only); (try k_fold))
  subst hg hL'
  have N' := chg_news C.found K'
  generalize hbase : hideAll s.heap (((S.ready r ri rn).objs w).map (·.1)) = base at *
  obtain rfl : base = act_cC.base := hbase.symm
  have N2 := N'
  dsimp only [So.objs, So.attrs, So.ready, List.cons_append, List.nil_append] at N2
  clear N'
  ((try clear pk); (try clear pk))
  k_steps
  all_goals
    rename Fr _ _ _ _ => fE
    rename News _ _ _ _ => nE
    (try subst hbase)
    have hq := fun tk => hret _ tk (post_of fE nE (fun _ h => h) C.nodup)
  · have e : (decide (S.nf < S.po) || !rs.isEmpty) = decide (S.nf < S.po) := by
      have : S.nf < S.po := by assumption
      simp [this]
    rw [e] at hq
    exact hq _
  · have e : (decide (S.nf < S.po) || !rs.isEmpty) = !rs.isEmpty := by
      have : ¬ S.nf < S.po := by assumption
      simp [this]
    rw [e] at hq
    exact hq _
end act_cC
section
variable {w : World} {mean : ExcName → Option Value} {mg mb : Str → Option Value} {A : Around} {hb : Heap} {s : Shared} {Q E : Value → Shared → Prop}
theorem act_c (S : So) {r : Addr} {ri : List Value} {rn : Nat} {rs : List Int} (X : (hd.heap_1 w.params).In hb) (T : Top hd.view_1 (looseW hd.view_1 [Str.ofString "_NodeInfo"]) mean mg mb hb) (St : hb.StaysIn s.heap)
   (C : Pre hb s.heap ((S.ready r ri rn).objs w)) (hi : IntsAre ri rs) (hz : rs.length ≤ 1000) (hd : A.depth + 2 < recursionLimit)
    (hret : ∀ h' tk', Post s.heap h' ((S.ready r ri rn).objs w) ((S.ready r ri rn).objs w) → Q (.bool (decide (S.nf < S.po) || !rs.isEmpty)) { s with heap := h', toks := tk' }) :
    wpAny (model PySem.Challenge.rw_oh0070_01.row.prog w) A (call (.ref 134) [.ref S.x]) Q E s := by
  refine Classical.byContradiction fun hz9 => ?_
  exact @Classical.epsilon_spec act_cP (fun x => ¬ act_cS x) ⟨⟨w, mean, mg, mb, A, hb, s, Q, E, S, r, ri, rn, rs⟩, fun zz9 => hz9 (zz9 X T St C hi hz hd hret)⟩ act_cC.key
end
end Part_M8
section Part_M9
theorem rules_M9 : True := by
  k_with_none
  w_top off
  k_with "exec For Name Name cons nil" => refine parkAt (n := 0) (by with_reducible assumption) ?_
  k_with "m pyIter ref" => refine parkAt (n := 1) (by with_reducible assumption) ?_
  k_with "m mine list" => first | exact isL (by k_asm) (by k_mem) | exact isB (by k_asm) (by assumption)
  k_with "m call builtin:len" => (k_here; (try dsimp only); (with_reducible show wpAny _ _ (call (Value.builtin "len") [Value.ref _]) _ _ _); k_dflt (refine' len_L ?zqk1 ?zqk3 ?zqk4 ?_; (case zqk1 => walk_at "mine list"); (case zqk3 => assumption); (case zqk4 => omega)))
  k_with "m subscriptTail" => (k_here; (try dsimp only); (with_reducible show wpAny _ _ (subscriptTail _ _ (Value.ref _) (Value.int _ _)) _ _ _); k_dflt (first | (refine' item_L ?zqk1 ?zqk3 ?zqk4 ?zqk5 ?zqk6 ?_ ?zqk8; (case zqk1 => walk_at "mine list"); (case zqk3 => assumption); (case zqk5 => with_reducible assumption); (case zqk4 => omega); (case zqk6 => omega); (case zqk8 => with_unfolding_all rfl); k_whole; intro t9) | (refine' out_L ?zqk0 ?zqk1 ?zqk3 ?zqk4 ?zqk5 ?_ ?zqk8; (case zqk0 => first | rfl | assumption); (case zqk1 => walk_at "mine list"); (case zqk3 => assumption); (case zqk4 => omega); (case zqk5 => omega); (case zqk8 => with_unfolding_all rfl); k_whole; intro h9 tk9 e9 x9)))
  k_with "m subscriptTail Name Name ref int" => (k_here; (try dsimp only); (with_reducible show wpAny _ _ (subscriptTail _ _ (Value.ref _) (Value.int _ _)) _ _ _); k_dflt (first | (refine' item_L ?zqk1 ?zqk3 ?zqk4 ?zqk5 ?zqk6 ?_ ?zqk8; (case zqk1 => walk_at "mine list"); (case zqk3 => assumption); (case zqk5 => with_reducible assumption); (case zqk4 => omega); (case zqk6 => omega); (case zqk8 => with_unfolding_all rfl); k_whole; intro t9) | (refine' out_L ?zqk0 ?zqk1 ?zqk3 ?zqk4 ?zqk5 ?_ ?zqk8; (case zqk0 => first | rfl | assumption); (case zqk1 => walk_at "mine list"); (case zqk3 => assumption); (case zqk4 => omega); (case zqk5 => omega); (case zqk8 => with_unfolding_all rfl); k_whole; intro h9 tk9 e9 x9) | (refine' out_over ?zqk0 ?zqkN ?zqkm ?zqkb ?zqk1 ?zqk3 ?zqk4 ?zqk5 ?_ ?zqk8; (case zqk0 => rfl); (case zqkN => k_asm); (case zqkm => k_mem); (case zqkb => assumption); (case zqk1 => walk_at "mine list"); (case zqk3 => assumption); (case zqk4 => omega); (case zqk5 => omega); (case zqk8 => with_unfolding_all rfl); k_whole; intro h9 tk9 e9 x9)))
  k_with "m subscriptTail Name Slice ref ref" => (k_here; k_dflt (refine' kmk_slice_ints ?zqF ?zqN ?zql ?zqpl ?zqpu ?zqhi ?zqhm rfl ?_ ?zqhs ?zqht ?zqhz; (case zqF => k_asm); (case zqN => k_asm); (case zql => walk_at "mine list"); (case zqpl => kmk_part); (case zqpu => kmk_part); (case zqhi => assumption); (case zqhm => first | (with_reducible refine kmk_from (by assumption) ?_; omega) | (with_reducible refine kmk_upto (by assumption) ?_; omega) | with_reducible exact kmk_all (by assumption)); (case zqhs => with_unfolding_all rfl); (case zqht => kmk_pure); (case zqhz => exact kmk_sz (by assumption) (by simp only [sizeLine_eq]; omega)); k_whole; intro D9 ws9 h9 F9 N9 l9 I9 e9 e9'; (try k_lt l9)))
  k_with "m call builtin:list.extend" => (k_here; k_dflt (refine' extend_L ?zqF ?zqN ?zqm ?zqU ?zqi1 ?zqi2 ?zqz ?_; (case zqF => k_asm); (case zqN => k_asm); (case zqU => k_upd); (case zqm => k_mem); (case zqi1 => walk_at "mine ints"); (case zqi2 => walk_at "mine ints"); (case zqz => walk_at "mine len"); k_whole; intro h9 F9 N9 I9))
  k_with "m mine len" => first | omega | (simp only [List.length_append, List.length_drop, List.length_take, List.length_nil, List.length_cons] at *; omega)
  k_with "m mine ints" => first | exact IntsAre.nil | assumption
  k_with "m compareOp In int ref" => (k_here; (try dsimp only); k_dflt (refine' in_L ?zqm ?zqi ?_; (case zqm => walk_at "mine list"); (case zqi => assumption)))
  k_with "m subscriptTail Name Name ref int" => (k_here; (try dsimp only); (with_reducible show wpAny _ _ (subscriptTail _ _ (Value.ref _) (Value.int _ _)) _ _ _); k_dflt (refine' item_I ?zqN ?zqm ?zqh ?zqv ?_ ?zqa ?zqb; (case zqN => k_asm); (case zqm => k_mem); (case zqh => assumption); (case zqv => assumption); (case zqa => with_unfolding_all rfl); (case zqb => (intro _; with_unfolding_all rfl)); k_whole))
  k_with "m call builtin:len" => (k_here; (try dsimp only); (with_reducible show wpAny _ _ (call (Value.builtin "len") [Value.ref _]) _ _ _); k_dflt (refine' len_T ?zqk1 ?zqk2 ?zqk3 ?zqk4 ?_; (case zqk1 => k_asm); (case zqk2 => k_mem); (case zqk3 => assumption); (case zqk4 => omega)))
  k_with "m call builtin:list.clear" => (k_here; (try dsimp only); (with_reducible show wpAny _ _ (call (Value.builtin "list.clear") [Value.ref _]) _ _ _); k_dflt (refine' clear_L ?zqF ?zqN ?zqU ?zqi ?zqz ?_; (case zqF => k_asm); (case zqN => k_asm); (case zqU => k_upd); (case zqi => assumption); (case zqz => omega); k_whole; intro h9 F9 N9))
  trivial
theorem fillM9 (w : World) (h : Heap) : PySem.Challenge.rw_oh0070_01.foot = 5 → (hd.heap_1 w.params).In h → True := by
  k_fill
  intro _ _
  trivial
theorem unfocus_npR {w : World} {base h : Heap} {L r : Addr} {S : So} {ri : List Value} {rn : Nat} {pre post : List Nd} {nd : Nd} {np' : Int} {pt' : Tok} {p q : Addr × Obj}
    (N : News base L h ((nd.a, { cls := .ref 68, dict := some nd.d, slots := #[some (.int nd.key nd.kt), some (.int np' pt'), some (.ref nd.l)] }) :: (nd.d, dictOf [] 0) :: (nd.l, listOf nd.its.toArray nd.n) :: p :: q :: (S.x, instObj 165 S.dx) ::
      (S.dx, dictOf [⟨PyData.keyHash w.params (Str.ofString "_node2info"), .str (Str.ofString "_node2info") S.k1, .ref S.d⟩, ⟨PyData.keyHash w.params (Str.ofString "_ready_nodes"), .str (Str.ofString "_ready_nodes") S.k2, .ref r⟩,
  ⟨PyData.keyHash w.params (Str.ofString "_npassedout"), .str (Str.ofString "_npassedout") S.k3, .int S.po S.pt⟩, ⟨PyData.keyHash w.params (Str.ofString "_nfinished"), .str (Str.ofString "_nfinished") S.k4, .int S.nf S.ft⟩] S.an) :: (S.d, S.o) :: (r, listOf ri.toArray rn) :: ndObjs (pre ++ post))) :
    ∃ pt5, News base L h (p :: q :: (({ S with nodes := pre ++ { nd with np := np', pt := pt5 } :: post } : So).ready r ri rn).objs w) :=
  ⟨pt', unfocusN (fr := [p, q]) (S := ({ S with nodes := pre ++ { nd with np := np', pt := pt' } :: post } : So).ready r ri rn) rfl N⟩
section
variable {H1 H2 H3 H4 H : Int} {k1 k2 k3 k4 k : Tok} {v1 v2 v3 v4 v : Value} {n : Nat}
theorem put_rd : (putL (Str.ofString "_ready_nodes") H (.str (Str.ofString "_ready_nodes") k) v [⟨H1, .str (Str.ofString "_node2info") k1, v1⟩, ⟨H2, .str (Str.ofString "_ready_nodes") k2, v2⟩, ⟨H3, .str (Str.ofString "_npassedout") k3, v3⟩, ⟨H4, .str (Str.ofString "_nfinished") k4, v4⟩],
    putN (Str.ofString "_ready_nodes") [⟨H1, .str (Str.ofString "_node2info") k1, v1⟩, ⟨H2, .str (Str.ofString "_ready_nodes") k2, v2⟩, ⟨H3, .str (Str.ofString "_npassedout") k3, v3⟩, ⟨H4, .str (Str.ofString "_nfinished") k4, v4⟩] n) =
    ([⟨H1, .str (Str.ofString "_node2info") k1, v1⟩, ⟨H2, .str (Str.ofString "_ready_nodes") k2, v⟩, ⟨H3, .str (Str.ofString "_npassedout") k3, v3⟩, ⟨H4, .str (Str.ofString "_nfinished") k4, v4⟩], n) := by kernel_rfl
theorem put_po : (putL (Str.ofString "_npassedout") H (.str (Str.ofString "_npassedout") k) v [⟨H1, .str (Str.ofString "_node2info") k1, v1⟩, ⟨H2, .str (Str.ofString "_ready_nodes") k2, v2⟩, ⟨H3, .str (Str.ofString "_npassedout") k3, v3⟩, ⟨H4, .str (Str.ofString "_nfinished") k4, v4⟩],
    putN (Str.ofString "_npassedout") [⟨H1, .str (Str.ofString "_node2info") k1, v1⟩, ⟨H2, .str (Str.ofString "_ready_nodes") k2, v2⟩, ⟨H3, .str (Str.ofString "_npassedout") k3, v3⟩, ⟨H4, .str (Str.ofString "_nfinished") k4, v4⟩] n) =
    ([⟨H1, .str (Str.ofString "_node2info") k1, v1⟩, ⟨H2, .str (Str.ofString "_ready_nodes") k2, v2⟩, ⟨H3, .str (Str.ofString "_npassedout") k3, v⟩, ⟨H4, .str (Str.ofString "_nfinished") k4, v4⟩], n) := by kernel_rfl
theorem put_nf : (putL (Str.ofString "_nfinished") H (.str (Str.ofString "_nfinished") k) v [⟨H1, .str (Str.ofString "_node2info") k1, v1⟩, ⟨H2, .str (Str.ofString "_ready_nodes") k2, v2⟩, ⟨H3, .str (Str.ofString "_npassedout") k3, v3⟩, ⟨H4, .str (Str.ofString "_nfinished") k4, v4⟩],
    putN (Str.ofString "_nfinished") [⟨H1, .str (Str.ofString "_node2info") k1, v1⟩, ⟨H2, .str (Str.ofString "_ready_nodes") k2, v2⟩, ⟨H3, .str (Str.ofString "_npassedout") k3, v3⟩, ⟨H4, .str (Str.ofString "_nfinished") k4, v4⟩] n) =
    ([⟨H1, .str (Str.ofString "_node2info") k1, v1⟩, ⟨H2, .str (Str.ofString "_ready_nodes") k2, v2⟩, ⟨H3, .str (Str.ofString "_npassedout") k3, v3⟩, ⟨H4, .str (Str.ofString "_nfinished") k4, v⟩], n) := by kernel_rfl
end
local macro_rules | `(tactic| k_put) => `(tactic| first | exact put_po | exact put_nf | exact put_rd)
theorem foldR {w : World} {base h : Heap} {L r : Addr} {S : So} {ri : List Value} {rn : Nat} {c : List Nd} {po' nf' : Int} {pt' ft' : Tok} {p : Addr × Obj}
    (N : News base L h (p :: (S.x, instObj 165 S.dx) ::
      (S.dx, dictOf [⟨PyData.keyHash w.params (Str.ofString "_node2info"), .str (Str.ofString "_node2info") S.k1, .ref S.d⟩, ⟨PyData.keyHash w.params (Str.ofString "_ready_nodes"), .str (Str.ofString "_ready_nodes") S.k2, .ref r⟩,
  ⟨PyData.keyHash w.params (Str.ofString "_npassedout"), .str (Str.ofString "_npassedout") S.k3, .int po' pt'⟩, ⟨PyData.keyHash w.params (Str.ofString "_nfinished"), .str (Str.ofString "_nfinished") S.k4, .int nf' ft'⟩] S.an) :: (S.d, S.o) :: (r, listOf ri.toArray rn) :: ndObjs c)) :
    ∃ pt5 ft5 rn5, News base L h (p :: (({ S with nodes := c, po := po', pt := pt5, nf := nf', ft := ft5 } : So).ready r ri rn5).objs w) := ⟨pt', ft', rn, N⟩
noncomputable def setV (v : Vw) (k n : Int) : Vw := v.map fun x => if x.1 = k then (x.1, n, x.2.2) else x
theorem objs_cls {w : World} {S : So} (O : S.Ok w) (hm : ∀ p ∈ S.more, p.2.cls ≠ .type "tuple") : ∀ p ∈ S.objs w, p.2.cls ≠ .type "tuple" := by
  have hn : ∀ ns : List Nd, ∀ p ∈ ndObjs ns, p.2.cls ≠ .type "tuple" := by
    intro ns
    induction ns with
    | nil => intro p hp; exact nomatch hp
    | cons nd ns ih =>
      intro p hp
      rcases List.mem_cons.mp hp with rfl | hp
      · simp
      · rcases List.mem_cons.mp hp with rfl | hp
        · simp
        · rcases List.mem_cons.mp hp with rfl | hp
          · simp
          · exact ih p hp
  intro p hp
  rcases List.mem_cons.mp hp with rfl | hp
  · simp
  · rcases List.mem_cons.mp hp with rfl | hp
    · simp
    · rcases List.mem_cons.mp hp with rfl | hp
      · obtain ⟨es, ep, ⟨hc, _⟩, _⟩ := O.dict
        rw [hc]; simp
      · rcases List.mem_append.mp hp with hp | hp
        · exact hm p hp
        · exact hn _ p hp
theorem off_tuple {w : World} {S : So} {base h : Heap} {L D : Addr} {its : Array Value} (N : News base L h ((D, tupOf its) :: S.objs w)) (O : S.Ok w) (hm : ∀ p ∈ S.more, p.2.cls ≠ .type "tuple") (hn : ((S.objs w).map (·.1)).Nodup) : (((D, tupOf its) :: S.objs w).map (·.1)).Nodup := by
  refine List.nodup_cons.mpr ⟨fun q => ?_, hn⟩
  obtain ⟨p, hp, e⟩ := List.mem_map.mp q
  have h1 := (N p (.tail _ hp)).1
  have h2 := (N _ (.head _)).1
  have e' : p.1 = D := e
  rw [e', h2] at h1
  exact objs_cls O hm p hp (by rw [← Option.some.inj h1])
theorem setV_keys (v : Vw) (k n : Int) : (setV v k n).map (·.1) = v.map (·.1) := by
  unfold setV
  rw [List.map_map]
  refine List.map_congr_left fun x _ => ?_
  show (if x.1 = k then (x.1, n, x.2.2) else x).1 = x.1
  split <;> rfl
theorem foldl_set_keys (n : Int) : ∀ (ks : List Int) (v : Vw), (ks.foldl (fun v k => setV v k n) v).map (·.1) = v.map (·.1)
  | [], _ => rfl
  | k :: ks, v => (foldl_set_keys n ks (setV v k n)).trans (setV_keys v k n)
theorem node_of {S : So} {k : Int} (h : k ∈ S.view.map (·.1)) : ∃ pre nd post, S.nodes = pre ++ nd :: post ∧ nd.key = k := by
  unfold So.view at h
  rw [List.map_map] at h
  obtain ⟨nd, hn, e⟩ := List.mem_map.mp h
  obtain ⟨pre, post, e'⟩ := List.append_of_mem hn
  exact ⟨pre, nd, post, e', e⟩
section
variable {prog : Program} {w : World} {A : Around} {E : Value → Shared → Prop} {s : Shared} {h₀ h : Heap} {L D : Addr} {m : Str → Option Value} {news news' : List (Addr × Obj)} {its : List Value} {ns : List Int} {n : Nat}
theorem clear_L {Q : Value → Shared → Prop} (F : Fr h₀ L s.heap m) (N : News h₀ L s.heap news) (U : Upd D (listOf its.toArray n) (listOf ([] : List Value).toArray (if ([] : List Value).length = its.length then n else n + 1)) news news') (hi : IntsAre its ns) (hz : ns.length ≤ 100000)
    (h : ∀ h', Fr h₀ L h' m → News h₀ L h' news' → Q .none { s with heap := h' }) : wpAny (model prog w) A (call (.builtin "list.clear") [.ref D]) Q E s := by
  have hm : (D, listOf its.toArray n) ∈ news := by
    obtain ⟨pre, post, rfl, _, _, _⟩ := U.split
    exact List.mem_append.mpr (.inr (.head _))
  have e := hi.length
  obtain ⟨F', N'⟩ := turn_L (fun _ => #[]) F N rfl U
  exact call_meets PySem.F.slot_list_clear ⟨_, (N _ hm).1, rfl⟩ PySem.F.entry_list_clear (PySem.F.args_list_clear_1 _) (PySem.AutoSeq1.list_clear_list_0 D its.toArray n (by rw [sizeLine_eq]; simp; omega)) ⟨(N _ hm).1, h _ F' N'⟩
end
noncomputable abbrev ready_cP := (World) × (ExcName → Option Value) × (Str → Option Value) × (Str → Option Value) × (Around) × (Heap) × (Shared) × (Value → Shared → Prop) × (Value → Shared → Prop) × (So) × (Addr) × (List Value) × (Nat) × (List Int)
noncomputable def ready_cS : ready_cP → Prop := fun p => (fun (w : World) (mean : ExcName → Option Value) (mg : Str → Option Value) (mb : Str → Option Value) (A : Around) (hb : Heap) (s : Shared) (Q : Value → Shared → Prop) (E : Value → Shared → Prop) (S : So) (r : Addr) (ri : List Value) (rn : Nat) (rs : List Int) => ∀ (X : (hd.heap_1 w.params).In hb)
   (T : Top hd.view_1 (looseW hd.view_1 [Str.ofString "_NodeInfo"]) mean mg mb hb)
   (St : hb.StaysIn s.heap)
   (C : Pre hb s.heap ((S.ready r ri rn).objs w))
   (O : (S.ready r ri rn).Ok w)
   (hi : IntsAre ri rs)
   (hz : rs.length ≤ 1000)
   (hsub : ∀ k ∈ rs, k ∈ S.view.map (·.1))
   (hh : A.handled = none)
   (hd : A.depth + 5 < recursionLimit)
   (hret : ∀ D (S' : So) rn' h' tk', S'.x = S.x → S'.view = rs.foldl (fun v k => setV v k (-1)) S.view → S'.po = S.po + rs.length → S'.nf = S.nf → (S'.ready r [] rn').Ok w → Post s.heap h' ((S.ready r ri rn).objs w) ((D, tupOf ri.toArray) :: (S'.ready r [] rn').objs w) → Q (.ref D) { s with heap := h', toks := tk' }),
    wpAny (model PySem.Challenge.rw_oh0070_01.row.prog w) A (call (.ref 127) [.ref S.x]) Q E s) p.1 p.2.1 p.2.2.1 p.2.2.2.1 p.2.2.2.2.1 p.2.2.2.2.2.1 p.2.2.2.2.2.2.1 p.2.2.2.2.2.2.2.1 p.2.2.2.2.2.2.2.2.1 p.2.2.2.2.2.2.2.2.2.1 p.2.2.2.2.2.2.2.2.2.2.1 p.2.2.2.2.2.2.2.2.2.2.2.1 p.2.2.2.2.2.2.2.2.2.2.2.2.1 p.2.2.2.2.2.2.2.2.2.2.2.2.2
noncomputable def ready_cX : ready_cP := @Classical.epsilon ready_cP ⟨⟨⟨fun _ _ => 0, { strHash := fun _ => 0, shareClass := fun _ => 0, mergeTok := fun t => t, idOf := fun _ => 0, idOfShared := fun _ _ => 0, followText := fun _ => false, idOfImm := fun _ => 0 }⟩, fun _ => none, fun _ => none, fun _ => none, callerA, {}, {}, fun _ _ => True, fun _ _ => True, ⟨0, 0, 0, 0, 0, 0, 0, 0, { cls := .none, data := .plain }, .none, 0, 0, 0, 0, [], []⟩, 0, [], 0, []⟩⟩ fun x => ¬ ready_cS x
namespace ready_cC
noncomputable def w : World := ready_cX.1
noncomputable def mean : ExcName → Option Value := ready_cX.2.1
noncomputable def mg : Str → Option Value := ready_cX.2.2.1
noncomputable def mb : Str → Option Value := ready_cX.2.2.2.1
noncomputable def A : Around := ready_cX.2.2.2.2.1
noncomputable def hb : Heap := ready_cX.2.2.2.2.2.1
noncomputable def s : Shared := ready_cX.2.2.2.2.2.2.1
noncomputable def Q : Value → Shared → Prop := ready_cX.2.2.2.2.2.2.2.1
noncomputable def E : Value → Shared → Prop := ready_cX.2.2.2.2.2.2.2.2.1
noncomputable def S : So := ready_cX.2.2.2.2.2.2.2.2.2.1
noncomputable def r : Addr := ready_cX.2.2.2.2.2.2.2.2.2.2.1
noncomputable def ri : List Value := ready_cX.2.2.2.2.2.2.2.2.2.2.2.1
noncomputable def rn : Nat := ready_cX.2.2.2.2.2.2.2.2.2.2.2.2.1
noncomputable def rs : List Int := ready_cX.2.2.2.2.2.2.2.2.2.2.2.2.2
noncomputable def base : Heap := hideAll s.heap (((S.ready r ri rn).objs w).map (·.1))
theorem key : ∀ (X : (hd.heap_1 w.params).In hb)
   (T : Top hd.view_1 (looseW hd.view_1 [Str.ofString "_NodeInfo"]) mean mg mb hb)
   (St : hb.StaysIn s.heap)
   (C : Pre hb s.heap ((S.ready r ri rn).objs w))
   (O : (S.ready r ri rn).Ok w)
   (hi : IntsAre ri rs)
   (hz : rs.length ≤ 1000)
   (hsub : ∀ k ∈ rs, k ∈ S.view.map (·.1))
   (hh : A.handled = none)
   (hd : A.depth + 5 < recursionLimit)
   (hret : ∀ D (S' : So) rn' h' tk', S'.x = S.x → S'.view = rs.foldl (fun v k => setV v k (-1)) S.view → S'.po = S.po + rs.length → S'.nf = S.nf → (S'.ready r [] rn').Ok w → Post s.heap h' ((S.ready r ri rn).objs w) ((D, tupOf ri.toArray) :: (S'.ready r [] rn').objs w) → Q (.ref D) { s with heap := h', toks := tk' }),
    wpAny (model PySem.Challenge.rw_oh0070_01.row.prog w) A (call (.ref 127) [.ref S.x]) Q E s := by
  intro X T St C O hi hz hsub hh hd hret
  refine wpAny_call ?_
  have hH : ∀ a ∈ ((S.ready r ri rn).objs w).map (·.1), hb.get? a = none := chg_off C.found
  k_dflt (refine' enter_def (H := ((S.ready r ri rn).objs w).map (·.1)) (binds := [(Str.ofString "self", .ref S.x)]) ?k1 ?k2 ?k3 ?k4 ?k6 ?k7 ?k8 ?k9 ?kB ?_ ?c2 ?c3 ?c4 ?c5; (case k1 => k_asm); (case k2 => k_asm); (case k3 => k_asm); (case k4 => first | assumption | (intro a ha; cases ha)); (case k6 => k_is); (case k7 => k_is); (case k8 => k_room); (case k9 => first | exact BindsTo.of_eq rfl | exact binds_K (X.keeps St) rfl (by k_is) rfl rfl rfl); (case c5 => decide); (case kB => exact locs rfl); (case c2 => exact rfl); (case c3 => exact rfl); (case c4 => exact rfl); k_whole; intro g L' h' hg hL' F' K' X' T' S'; (try dsimp only); (try k_fold))
  subst hg hL'
  have N' := chg_news C.found K'
  generalize hbase : hideAll s.heap (((S.ready r ri rn).objs w).map (·.1)) = base at *
  obtain rfl : base = ready_cC.base := hbase.symm
  have N2 := N'
  dsimp only [So.objs, So.attrs, So.ready, List.cons_append, List.nil_append] at N2
  clear N'
  ((try clear pk); (try clear pk))
  have pk : PkAt 0 := trivial
  k_steps
  refine unpark ?_
  refine For_invV base (by rfl) (by rfl) ?_
  ((try clear pk); (try clear pk))
  have pk : PkAt 1 := trivial
  k_steps
  refine unpark ?_
  rename News _ _ _ _ => N5
  rename Fr _ _ _ _ => F5
  obtain ⟨D, hD⟩ := News.lead N5
  subst hD
  rename IntsAre ri rs => hi
  have hl := hi.length
  have hnd5 := off_tuple (S := S.ready r ri rn) N5 O (fun p hp => by cases List.mem_singleton.mp hp; simp) C.nodup
  refine loop_tupleP (σ := List Nd) (fun c => (D, tupOf ri.toArray) :: (({ S with nodes := c } : So).ready r ri rn).objs w) (fun _ => [(Str.ofString "self", .ref S.x), (Str.ofString "n2i", .ref S.d), (Str.ofString "result", .ref D)])
    (fun i c => (({ S with nodes := c } : So).ready r ri rn).Ok w ∧ ({ S with nodes := c } : So).view = (rs.take i).foldl (fun v k => setV v k (-1)) S.view ∧
      (((D, tupOf ri.toArray) :: (({ S with nodes := c } : So).ready r ri rn).objs w).map (·.1)).Nodup) S.nodes hh (fun c => .head _) F5 N5 ?hk ⟨O, rfl, hnd5⟩ ?_ ?_
  case hk => (intro p hp; rcases List.mem_cons.mp hp with rfl | hp; exact rfl; rcases List.mem_cons.mp hp with rfl | hp; exact rfl; cases List.mem_singleton.mp hp; exact rfl)
  · intro i c u v h tk I oI hv hJ hoI hI0 F6 N6
    obtain ⟨O6, hv6, hnd6⟩ := hJ
    have hlt : i < ri.length := (List.getElem?_eq_some_iff.mp hv).1
    obtain ⟨k, hki⟩ : ∃ k, rs[i]? = some k := ⟨rs[i]'(by omega), by simp [← hl, hlt]⟩
    obtain ⟨kt, hkt⟩ := hi.get i k hki
    obtain rfl : v = .int k kt := Option.some.inj (hv.symm.trans hkt)
    have hkin : k ∈ ({ S with nodes := c } : So).view.map (·.1) := by
      rw [hv6, foldl_set_keys]; exact hsub k (List.mem_of_getElem? hki)
    obtain ⟨pre, nd, post, e, hk⟩ := node_of hkin
    have e' : c = pre ++ nd :: post := e
    subst e'
    have hvA : valueAt (kvsOf (pre ++ nd :: post)) k = some (.ref nd.a) := valueAt_some O6.keys (List.mem_append_right _ (.head _)) hk
    have hnd7 : (((I, oI) :: (D, tupOf ri.toArray) :: (({ S with nodes := pre ++ nd :: post } : So).ready r ri rn).objs w).map (·.1)).Nodup := List.nodup_cons.mpr ⟨fun q => by
      obtain ⟨z, hz, e⟩ := List.mem_map.mp q
      exact hoI z hz e, hnd6⟩
    have ap := apart_of (w := w) (S := ({ S with nodes := pre ++ nd :: post } : So).ready r ri rn) rfl (List.nodup_cons.mp hnd6).2
    have hDa : nd.a ≠ D := off_head hnd6 (nd.a, nodeOf nd) ((focus_perm (w := w) (S := ({ S with nodes := pre ++ nd :: post } : So).ready r ri rn) rfl).mem_iff.mpr (.head _))
    have hIa : nd.a ≠ I := off_head hnd7 (nd.a, nodeOf nd) (.tail _ ((focus_perm (w := w) (S := ({ S with nodes := pre ++ nd :: post } : So).ready r ri rn) rfl).mem_iff.mpr (.head _)))
    obtain ⟨g1, g2, g3, g4, g5, g6, g7, g8, g9, g10, g11⟩ := ap
    have hra : nd.a ≠ r := Ne.symm (g10 (r, listOf ri.toArray rn) (.head _))
    have g12 : ∀ p ∈ ndObjs (pre ++ post), p.1 ≠ nd.a := fun p hp => g10 p (.tail _ hp)
    clear g10 g11
    have N7 := focusN (fr := [(I, oI), (D, tupOf ri.toArray)]) (S := ({ S with nodes := pre ++ nd :: post } : So).ready r ri rn) rfl N6
    clear N6
    dsimp only [List.cons_append, List.nil_append, So.attrs, So.ready] at N7 g1 g2 g3 g4 g5 g6 g7 g8 g9
    have hdict := O6.dict
    ((try clear pk); (try clear pk))
    k_steps
    rename News _ _ _ _ => nE
    obtain ⟨pt8, N8⟩ := unfocus_npR nE
    have O8 := So.Ok.upd (S := S.ready r ri rn) (o := S.o) (nd' := { nd with np := -1, pt := pt8 }) O6 rfl rfl (O6.areInts nd (List.mem_append_right _ (.head _)))
    have hv8 := view_upd (S := S) (o := S.o) (o' := S.o) (nd' := { nd with np := -1, pt := pt8 }) (fun x => (x.1, -1, x.2.2)) O6.keys hk rfl
    have hnd8 := nodup_upd (S := S.ready r ri rn) (o := S.o) (o' := S.o) { nd with np := -1, pt := pt8 } [(I, oI), (D, tupOf ri.toArray)] hnd7 rfl rfl rfl
    refine turn_end (pre ++ { nd with np := -1, pt := pt8 } :: post) (by assumption) N8 (.head _) (fun p hp => .tail _ hp) (off_head hnd8) ⟨?_, O8, ?_, (List.nodup_cons.mp hnd8).2⟩
    · (intro p hp; rcases List.mem_cons.mp hp with rfl | hp; exact rfl; rcases List.mem_cons.mp hp with rfl | hp; exact rfl; cases List.mem_singleton.mp hp; exact rfl)
    · rw [hv8]
      have : ({ S with nodes := pre ++ nd :: post } : So).view = _ := hv6
      rw [show ({ S with o := S.o, nodes := pre ++ nd :: post } : So).view = _ from hv6, List.take_add_one, hki, List.foldl_append]; rfl
  · intro c u h tk hJ F6 N6
    obtain ⟨O6, hv6, hnd6⟩ := hJ
    have hnd0 := hnd6
    have N7 := N6
    dsimp only [List.cons_append, List.nil_append, So.attrs, So.ready, So.objs] at N7
    clear N6
    simp only [List.map_cons, List.nodup_cons, List.mem_cons, not_or, So.objs, So.ready, List.cons_append, List.nil_append] at hnd6
    obtain ⟨⟨a1, a2, a3, a4, a5⟩, ⟨b1, b2, b3, b4⟩, ⟨c1, c2, c3⟩, ⟨d1, d2⟩, e1, _⟩ := hnd6
    have f1 : ∀ p ∈ ndObjs c, p.1 ≠ r := fun p hp q => e1 (q ▸ fst_mem hp)
    have f2 : ∀ p ∈ ndObjs c, p.1 ≠ S.dx := fun p hp q => c3 (q ▸ fst_mem hp)
    ((try clear pk); (try clear pk))
    k_steps
    rename News _ _ _ _ => nE
    rename Fr _ _ _ _ => fE
    (try subst hbase)
    rw [hl, List.take_length] at hv6
    obtain ⟨pt9, ft9, rn9, N9⟩ := foldR nE
    exact hret D { S with nodes := c, po := S.po + rs.length, pt := pt9, nf := S.nf, ft := ft9 } _ _ _ rfl hv6 rfl rfl ⟨O6.lo, O6.dict, O6.areInts⟩ (post_of fE N9 (fun _ h => h) hnd0)
end ready_cC
section
variable {w : World} {mean : ExcName → Option Value} {mg mb : Str → Option Value} {A : Around} {hb : Heap} {s : Shared} {Q E : Value → Shared → Prop}
theorem ready_c (S : So) {r : Addr} {ri : List Value} {rn : Nat} {rs : List Int} (X : (hd.heap_1 w.params).In hb) (T : Top hd.view_1 (looseW hd.view_1 [Str.ofString "_NodeInfo"]) mean mg mb hb) (St : hb.StaysIn s.heap)
   (C : Pre hb s.heap ((S.ready r ri rn).objs w)) (O : (S.ready r ri rn).Ok w) (hi : IntsAre ri rs) (hz : rs.length ≤ 1000) (hsub : ∀ k ∈ rs, k ∈ S.view.map (·.1)) (hh : A.handled = none) (hd : A.depth + 5 < recursionLimit)
    (hret : ∀ D (S' : So) rn' h' tk', S'.x = S.x → S'.view = rs.foldl (fun v k => setV v k (-1)) S.view → S'.po = S.po + rs.length → S'.nf = S.nf → (S'.ready r [] rn').Ok w → Post s.heap h' ((S.ready r ri rn).objs w) ((D, tupOf ri.toArray) :: (S'.ready r [] rn').objs w) → Q (.ref D) { s with heap := h', toks := tk' }) :
    wpAny (model PySem.Challenge.rw_oh0070_01.row.prog w) A (call (.ref 127) [.ref S.x]) Q E s := by
  refine Classical.byContradiction fun hz9 => ?_
  exact @Classical.epsilon_spec ready_cP (fun x => ¬ ready_cS x) ⟨⟨w, mean, mg, mb, A, hb, s, Q, E, S, r, ri, rn, rs⟩, fun zz9 => hz9 (zz9 X T St C O hi hz hsub hh hd hret)⟩ ready_cC.key
end
end Part_M9
local macro_rules | `(tactic| k_put) => `(tactic| first | exact put_po | exact put_nf | exact put_rd)
section Part_M10
theorem rules_M10 : True := by
  k_with_none
  w_top off
  k_with "exec For Name Name cons nil" => refine parkAt (n := 0) (by with_reducible assumption) ?_
  k_with "m pyIter ref" => refine parkAt (n := 1) (by with_reducible assumption) ?_
  k_with "m mine list" => first | exact isL (by k_asm) (by k_mem) | exact isB (by k_asm) (by assumption)
  k_with "m call builtin:len" => (k_here; (try dsimp only); (with_reducible show wpAny _ _ (call (Value.builtin "len") [Value.ref _]) _ _ _); k_dflt (refine' len_L ?zqk1 ?zqk3 ?zqk4 ?_; (case zqk1 => walk_at "mine list"); (case zqk3 => assumption); (case zqk4 => omega)))
  k_with "m subscriptTail" => (k_here; (try dsimp only); (with_reducible show wpAny _ _ (subscriptTail _ _ (Value.ref _) (Value.int _ _)) _ _ _); k_dflt (first | (refine' item_L ?zqk1 ?zqk3 ?zqk4 ?zqk5 ?zqk6 ?_ ?zqk8; (case zqk1 => walk_at "mine list"); (case zqk3 => assumption); (case zqk5 => with_reducible assumption); (case zqk4 => omega); (case zqk6 => omega); (case zqk8 => with_unfolding_all rfl); k_whole; intro t9) | (refine' out_L ?zqk0 ?zqk1 ?zqk3 ?zqk4 ?zqk5 ?_ ?zqk8; (case zqk0 => first | rfl | assumption); (case zqk1 => walk_at "mine list"); (case zqk3 => assumption); (case zqk4 => omega); (case zqk5 => omega); (case zqk8 => with_unfolding_all rfl); k_whole; intro h9 tk9 e9 x9)))
  k_with "m subscriptTail Name Name ref int" => (k_here; (try dsimp only); (with_reducible show wpAny _ _ (subscriptTail _ _ (Value.ref _) (Value.int _ _)) _ _ _); k_dflt (first | (refine' item_L ?zqk1 ?zqk3 ?zqk4 ?zqk5 ?zqk6 ?_ ?zqk8; (case zqk1 => walk_at "mine list"); (case zqk3 => assumption); (case zqk5 => with_reducible assumption); (case zqk4 => omega); (case zqk6 => omega); (case zqk8 => with_unfolding_all rfl); k_whole; intro t9) | (refine' out_L ?zqk0 ?zqk1 ?zqk3 ?zqk4 ?zqk5 ?_ ?zqk8; (case zqk0 => first | rfl | assumption); (case zqk1 => walk_at "mine list"); (case zqk3 => assumption); (case zqk4 => omega); (case zqk5 => omega); (case zqk8 => with_unfolding_all rfl); k_whole; intro h9 tk9 e9 x9) | (refine' out_over ?zqk0 ?zqkN ?zqkm ?zqkb ?zqk1 ?zqk3 ?zqk4 ?zqk5 ?_ ?zqk8; (case zqk0 => rfl); (case zqkN => k_asm); (case zqkm => k_mem); (case zqkb => assumption); (case zqk1 => walk_at "mine list"); (case zqk3 => assumption); (case zqk4 => omega); (case zqk5 => omega); (case zqk8 => with_unfolding_all rfl); k_whole; intro h9 tk9 e9 x9)))
  k_with "m subscriptTail Name Slice ref ref" => (k_here; k_dflt (refine' kmk_slice_ints ?zqF ?zqN ?zql ?zqpl ?zqpu ?zqhi ?zqhm rfl ?_ ?zqhs ?zqht ?zqhz; (case zqF => k_asm); (case zqN => k_asm); (case zql => walk_at "mine list"); (case zqpl => kmk_part); (case zqpu => kmk_part); (case zqhi => assumption); (case zqhm => first | (with_reducible refine kmk_from (by assumption) ?_; omega) | (with_reducible refine kmk_upto (by assumption) ?_; omega) | with_reducible exact kmk_all (by assumption)); (case zqhs => with_unfolding_all rfl); (case zqht => kmk_pure); (case zqhz => exact kmk_sz (by assumption) (by simp only [sizeLine_eq]; omega)); k_whole; intro D9 ws9 h9 F9 N9 l9 I9 e9 e9'; (try k_lt l9)))
  k_with "m call builtin:list.extend" => (k_here; k_dflt (refine' extend_L ?zqF ?zqN ?zqm ?zqU ?zqi1 ?zqi2 ?zqz ?_; (case zqF => k_asm); (case zqN => k_asm); (case zqU => k_upd); (case zqm => k_mem); (case zqi1 => walk_at "mine ints"); (case zqi2 => walk_at "mine ints"); (case zqz => walk_at "mine len"); k_whole; intro h9 F9 N9 I9))
  k_with "m mine len" => first | omega | (simp only [List.length_append, List.length_drop, List.length_take, List.length_nil, List.length_cons] at *; omega)
  k_with "m mine ints" => first | exact IntsAre.nil | assumption
  k_with "m compareOp In int ref" => (k_here; (try dsimp only); k_dflt (refine' in_L ?zqm ?zqi ?_; (case zqm => walk_at "mine list"); (case zqi => assumption)))
  k_with "m getMethod ref" => (k_here; (with_reducible show wpAny _ _ (getMethod (Value.ref _) (PySem.Str.ofString "get") _) _ _ _); k_dflt (refine' getm_I ?zqN ?zqm ?zqh ?_; (case zqN => k_asm); (case zqm => k_mem); (case zqh => assumption)))
  k_with "m call builtin:dict.get" => (k_here; (try dsimp only); (with_reducible show wpAny _ _ (call (Value.builtin "dict.get") [Value.ref _, Value.int _ _]) _ _ _); k_dflt (refine' get_I ?zqN ?zqm ?zqh ?zql ?zqv ?_; (case zqN => k_asm); (case zqm => k_mem); (case zqh => assumption); (case zql => assumption); (case zqv => assumption); dsimp only [Option.getD]))
  k_with "m subscriptTail Name Name ref int" => (k_here; (try dsimp only); (with_reducible show wpAny _ _ (subscriptTail _ _ (Value.ref _) (Value.int _ _)) _ _ _); k_dflt (refine' item_I ?zqN ?zqm ?zqh ?zqv ?_ ?zqa ?zqb; (case zqN => k_asm); (case zqm => k_mem); (case zqh => assumption); (case zqv => assumption); (case zqa => with_unfolding_all rfl); (case zqb => (intro _; with_unfolding_all rfl)); k_whole))
  trivial
theorem fillM10 (w : World) (h : Heap) : PySem.Challenge.rw_oh0070_01.foot = 5 → (hd.heap_1 w.params).In h → True := by
  k_fill
  intro _ _
  trivial
noncomputable def npAt (v : Vw) (k : Int) : Int := ((v.find? fun x => x.1 = k).map (·.2.1)).getD 0
noncomputable def succAt (v : Vw) (k : Int) : List Int := ((v.find? fun x => x.1 = k).map (·.2.2)).getD []
noncomputable def decW : List Int → Vw → List Int → Vw × List Int
  | [], v, r => (v, r)
  | y :: ys, v, r => decW ys (npV v y (-1)) (if npAt v y - 1 = 0 then r ++ [y] else r)
noncomputable def doneW : List Int → Vw → List Int → Vw × List Int
  | [], v, r => (v, r)
  | u :: us, v, r => doneW us (decW (succAt v u) (setV v u (-2)) r).1 (decW (succAt v u) (setV v u (-2)) r).2
noncomputable def DoneOk : List Int → Vw → List Int → Prop
  | [], _, _ => True
  | u :: us, v, r => u ∈ v.map (·.1) ∧ npAt v u = -1 ∧ (∀ y ∈ succAt v u, y ∈ v.map (·.1)) ∧ DoneOk us (decW (succAt v u) (setV v u (-2)) r).1 (decW (succAt v u) (setV v u (-2)) r).2
theorem npV_keys (v : Vw) (k d : Int) : (npV v k d).map (·.1) = v.map (·.1) := by
  unfold npV
  rw [List.map_map]
  refine List.map_congr_left fun x _ => ?_
  show (if x.1 = k then (x.1, x.2.1 + d, x.2.2) else x).1 = x.1
  split <;> rfl
theorem decW_keys : ∀ (ys : List Int) (v : Vw) (r : List Int), (decW ys v r).1.map (·.1) = v.map (·.1)
  | [], _, _ => rfl
  | y :: ys, v, r => (decW_keys ys _ _).trans (npV_keys v y (-1))
theorem decW_snoc : ∀ (ys : List Int) (y : Int) (v : Vw) (r : List Int), decW (ys ++ [y]) v r = (npV (decW ys v r).1 y (-1), if npAt (decW ys v r).1 y - 1 = 0 then (decW ys v r).2 ++ [y] else (decW ys v r).2)
  | [], _, _, _ => rfl
  | z :: ys, y, v, r => decW_snoc ys y _ _
theorem find_node {S : So} {pre post : List Nd} {nd : Nd} {k : Int} (e : S.nodes = pre ++ nd :: post) (hn : (S.nodes.map (·.key)).Nodup) (hk : nd.key = k) : S.view.find? (fun x => x.1 = k) = some (nd.key, nd.np, nd.succ) := by
  unfold So.view
  rw [e] at hn ⊢
  rw [List.map_append, List.map_cons] at hn ⊢
  have hn' := List.nodup_append.mp hn
  rw [List.find?_append, List.find?_eq_none.mpr, Option.none_or, List.find?_cons]
  · simp [hk]
  · intro x hx
    obtain ⟨n, hm, rfl⟩ := List.mem_map.mp hx
    have : n.key ≠ k := fun q => hn'.2.2 n.key (List.mem_map_of_mem (f := fun n : Nd => n.key) hm) nd.key (.head _) (q.trans hk.symm)
    simpa using this
theorem npAt_node {S : So} {pre post : List Nd} {nd : Nd} {k : Int} (e : S.nodes = pre ++ nd :: post) (hn : (S.nodes.map (·.key)).Nodup) (hk : nd.key = k) : npAt S.view k = nd.np := by
  unfold npAt; rw [find_node e hn hk]; rfl
theorem succAt_node {S : So} {pre post : List Nd} {nd : Nd} {k : Int} (e : S.nodes = pre ++ nd :: post) (hn : (S.nodes.map (·.key)).Nodup) (hk : nd.key = k) : succAt S.view k = nd.succ := by
  unfold succAt; rw [find_node e hn hk]; rfl
theorem ne_of_get {base h : Heap} {L a b : Addr} {o o' : Obj} {news : List (Addr × Obj)} (N : News base L h news) (h1 : (a, o) ∈ news) (h2 : (b, o') ∈ news) (hne : o.cls ≠ o'.cls) : a ≠ b := fun e => by
  have g1 := (N _ h1).1
  have g2 := (N _ h2).1
  have e' : (a, o).1 = b := e
  rw [e', g2] at g1
  have g3 : o' = o := Option.some.inj g1
  exact hne (by rw [g3])
theorem unfocus_npG {w : World} {base h : Heap} {L : Addr} {S : So} {pre post : List Nd} {nd : Nd} {np' : Int} {pt' : Tok} (fr : List (Addr × Obj))
    (N : News base L h ((nd.a, { cls := .ref 68, dict := some nd.d, slots := #[some (.int nd.key nd.kt), some (.int np' pt'), some (.ref nd.l)] }) :: (nd.d, dictOf [] 0) :: (nd.l, listOf nd.its.toArray nd.n) :: (fr ++ (S.x, instObj 165 S.dx) :: (S.dx, dictOf (S.attrs w) S.an) :: (S.d, S.o) :: (S.more ++ ndObjs (pre ++ post))))) :
    ∃ pt5, News base L h (fr ++ ({ S with nodes := pre ++ { nd with np := np', pt := pt5 } :: post } : So).objs w) :=
  ⟨pt', unfocusN (fr := fr) (S := { S with nodes := pre ++ { nd with np := np', pt := pt' } :: post }) rfl N⟩
theorem foldNf {w : World} {base h : Heap} {L r : Addr} {S : So} {ri : List Value} {rn : Nat} {c : List Nd} {nf' : Int} {ft' : Tok} {p q : Addr × Obj}
    (N : News base L h (p :: q :: (S.x, instObj 165 S.dx) ::
      (S.dx, dictOf [⟨PyData.keyHash w.params (Str.ofString "_node2info"), .str (Str.ofString "_node2info") S.k1, .ref S.d⟩, ⟨PyData.keyHash w.params (Str.ofString "_ready_nodes"), .str (Str.ofString "_ready_nodes") S.k2, .ref r⟩,
  ⟨PyData.keyHash w.params (Str.ofString "_npassedout"), .str (Str.ofString "_npassedout") S.k3, .int S.po S.pt⟩, ⟨PyData.keyHash w.params (Str.ofString "_nfinished"), .str (Str.ofString "_nfinished") S.k4, .int nf' ft'⟩] S.an) :: (S.d, S.o) :: (r, listOf ri.toArray rn) :: ndObjs c)) :
    ∃ ft5, News base L h (p :: q :: (({ S with nodes := c, nf := nf', ft := ft5 } : So).ready r ri rn).objs w) := ⟨ft', N⟩
noncomputable abbrev So.at (S : So) (ns : List Nd) (nf : Int) (ft : Tok) : So := { S with nodes := ns, nf := nf, ft := ft }
noncomputable abbrev done_kP := (World) × (ExcName → Option Value) × (Str → Option Value) × (Str → Option Value) × (Around) × (Heap) × (Shared) × (Result → Shared → Prop) × (So) × (Addr) × (List Value) × (Nat) × (List Int) × (List Value) × (List Int) × (Nat)
noncomputable def done_kS : done_kP → Prop := fun p => (fun (w : World) (mean : ExcName → Option Value) (mg : Str → Option Value) (mb : Str → Option Value) (A : Around) (hb : Heap) (s : Shared) (R : Result → Shared → Prop) (S : So) (r : Addr) (ri : List Value) (rn : Nat) (rs : List Int) (ui : List Value) (us : List Int) (b : Nat) => ∀ (X : (hd.heap_1 w.params).In hb)
   (T : Top hd.view_1 (looseW hd.view_1 [Str.ofString "_NodeInfo"]) mean mg mb hb)
   (St : hb.StaysIn s.heap)
   (C : Pre hb s.heap ((S.ready r ri rn).objs w))
   (O : (S.ready r ri rn).Ok w)
   (hi : IntsAre ri rs)
   (hu : IntsAre ui us)
   (hok : DoneOk us S.view rs)
   (hb0 : b ≤ 1000)
   (hb1 : ∀ nd ∈ S.nodes, nd.its.length ≤ b)
   (hz : rs.length ≤ 1000)
   (huz : us.length ≤ 60)
   (hh : A.handled = none)
   (hd : A.depth + 5 < recursionLimit)
   (hret : ∀ (S' : So) ri' rn' h' tk', S'.x = S.x → S'.view = (doneW us S.view rs).1 → S'.po = S.po → S'.nf = S.nf + us.length → IntsAre ri' (doneW us S.view rs).2 → (∀ nd ∈ S'.nodes, nd.its.length ≤ b) → (S'.ready r ri' rn').Ok w → Post s.heap h' ((S.ready r ri rn).objs w) ((S'.ready r ri' rn').objs w) → R (.ok (.ret .none)) { s with heap := h', toks := tk' }),
    codeAny (model PySem.Challenge.rw_oh0070_01.row.prog w) A (.call (.ref 148) ⟨.ref S.x :: ui, []⟩) R s) p.1 p.2.1 p.2.2.1 p.2.2.2.1 p.2.2.2.2.1 p.2.2.2.2.2.1 p.2.2.2.2.2.2.1 p.2.2.2.2.2.2.2.1 p.2.2.2.2.2.2.2.2.1 p.2.2.2.2.2.2.2.2.2.1 p.2.2.2.2.2.2.2.2.2.2.1 p.2.2.2.2.2.2.2.2.2.2.2.1 p.2.2.2.2.2.2.2.2.2.2.2.2.1 p.2.2.2.2.2.2.2.2.2.2.2.2.2.1 p.2.2.2.2.2.2.2.2.2.2.2.2.2.2.1 p.2.2.2.2.2.2.2.2.2.2.2.2.2.2.2
noncomputable def done_kX : done_kP := @Classical.epsilon done_kP ⟨⟨⟨fun _ _ => 0, { strHash := fun _ => 0, shareClass := fun _ => 0, mergeTok := fun t => t, idOf := fun _ => 0, idOfShared := fun _ _ => 0, followText := fun _ => false, idOfImm := fun _ => 0 }⟩, fun _ => none, fun _ => none, fun _ => none, callerA, {}, {}, fun _ _ => True, ⟨0, 0, 0, 0, 0, 0, 0, 0, { cls := .none, data := .plain }, .none, 0, 0, 0, 0, [], []⟩, 0, [], 0, [], [], [], 0⟩⟩ fun x => ¬ done_kS x
namespace done_kC
noncomputable def w : World := done_kX.1
noncomputable def mean : ExcName → Option Value := done_kX.2.1
noncomputable def mg : Str → Option Value := done_kX.2.2.1
noncomputable def mb : Str → Option Value := done_kX.2.2.2.1
noncomputable def A : Around := done_kX.2.2.2.2.1
noncomputable def hb : Heap := done_kX.2.2.2.2.2.1
noncomputable def s : Shared := done_kX.2.2.2.2.2.2.1
noncomputable def R : Result → Shared → Prop := done_kX.2.2.2.2.2.2.2.1
noncomputable def S : So := done_kX.2.2.2.2.2.2.2.2.1
noncomputable def r : Addr := done_kX.2.2.2.2.2.2.2.2.2.1
noncomputable def ri : List Value := done_kX.2.2.2.2.2.2.2.2.2.2.1
noncomputable def rn : Nat := done_kX.2.2.2.2.2.2.2.2.2.2.2.1
noncomputable def rs : List Int := done_kX.2.2.2.2.2.2.2.2.2.2.2.2.1
noncomputable def ui : List Value := done_kX.2.2.2.2.2.2.2.2.2.2.2.2.2.1
noncomputable def us : List Int := done_kX.2.2.2.2.2.2.2.2.2.2.2.2.2.2.1
noncomputable def b : Nat := done_kX.2.2.2.2.2.2.2.2.2.2.2.2.2.2.2
noncomputable def base : Heap := hideAll s.heap (((S.ready r ri rn).objs w).map (·.1))
noncomputable def D : Addr := s.heap.objs.size
theorem key : ∀ (X : (hd.heap_1 w.params).In hb)
   (T : Top hd.view_1 (looseW hd.view_1 [Str.ofString "_NodeInfo"]) mean mg mb hb)
   (St : hb.StaysIn s.heap)
   (C : Pre hb s.heap ((S.ready r ri rn).objs w))
   (O : (S.ready r ri rn).Ok w)
   (hi : IntsAre ri rs)
   (hu : IntsAre ui us)
   (hok : DoneOk us S.view rs)
   (hb0 : b ≤ 1000)
   (hb1 : ∀ nd ∈ S.nodes, nd.its.length ≤ b)
   (hz : rs.length ≤ 1000)
   (huz : us.length ≤ 60)
   (hh : A.handled = none)
   (hd : A.depth + 5 < recursionLimit)
   (hret : ∀ (S' : So) ri' rn' h' tk', S'.x = S.x → S'.view = (doneW us S.view rs).1 → S'.po = S.po → S'.nf = S.nf + us.length → IntsAre ri' (doneW us S.view rs).2 → (∀ nd ∈ S'.nodes, nd.its.length ≤ b) → (S'.ready r ri' rn').Ok w → Post s.heap h' ((S.ready r ri rn).objs w) ((S'.ready r ri' rn').objs w) → R (.ok (.ret .none)) { s with heap := h', toks := tk' }),
    codeAny (model PySem.Challenge.rw_oh0070_01.row.prog w) A (.call (.ref 148) ⟨.ref S.x :: ui, []⟩) R s := by
  intro X T St C O hi hu hok hb0 hb1 hz huz hh hd hret
  have hH : ∀ a ∈ ((S.ready r ri rn).objs w).map (·.1), hb.get? a = none := chg_off C.found
  have hul := hu.length
  k_dflt (refine' enter_rest (H := ((S.ready r ri rn).objs w).map (·.1)) (vs := ui) (binds := fun v9 => [(Str.ofString "self", .ref S.x), (Str.ofString "nodes", v9)]) ?k1 ?k2 ?k3 ?k4 ?k6 ?k7 ?k8 ?k9 ?kB ?kz ?_ ?c2 ?c3 ?c4 ?c5; (case k1 => k_asm); (case k2 => k_asm); (case k3 => k_asm); (case k4 => first | assumption | (intro a ha; cases ha)); (case k6 => k_is); (case k7 => k_is); (case k8 => k_room); (case k9 => first | exact bind_rest2 rfl rfl rfl rfl rfl rfl rfl rfl rfl | exact bind_rest1 rfl rfl rfl rfl rfl rfl rfl rfl); (case c5 => decide); (case kB => (intro v9; exact locs rfl)); (case kz => omega); (case c2 => exact rfl); (case c3 => exact rfl); (case c4 => exact rfl); k_whole; intro g L' D' h' hg hD' hL' F' K' G' X' T' S'; (try dsimp only); (try k_fold))
  subst hg hL' hD'
  have N' : News (hideAll s.heap (((S.ready r ri rn).objs w).map (·.1))) (s.heap.objs.size + 1) h' ((s.heap.objs.size, tupOf ui.toArray) :: (S.ready r ri rn).objs w) := by
    intro p hp
    rcases List.mem_cons.mp hp with rfl | hp
    · exact ⟨G', (Nat.ne_of_lt (Nat.lt_succ_self _)), Heap.get?_none_of_le (by rw [hideAll_size]; exact Nat.le_refl _)⟩
    · exact ⟨K' _ _ (C.found p hp).1, Nat.ne_of_lt (Nat.lt_succ_of_lt (Heap.lt_size (C.found p hp).1)), hideAll_none _ (List.mem_map_of_mem hp)⟩
  generalize hbase : hideAll s.heap (((S.ready r ri rn).objs w).map (·.1)) = base at *
  obtain rfl : base = done_kC.base := hbase.symm
  have hndD : (((s.heap.objs.size, tupOf ui.toArray) :: (S.ready r ri rn).objs w).map (·.1)).Nodup := List.nodup_cons.mpr ⟨fun q => by
    obtain ⟨p, hp, e⟩ := List.mem_map.mp q
    exact absurd (Heap.lt_size (C.found p hp).1) (by rw [show p.1 = s.heap.objs.size from e]; exact Nat.lt_irrefl _), C.nodup⟩
  generalize hDD : s.heap.objs.size = D at *
  obtain rfl : D = done_kC.D := hDD.symm
  have N2 := N'
  dsimp only [So.objs, So.attrs, So.ready, List.cons_append, List.nil_append] at N2
  clear N'
  ((try clear pk); (try clear pk))
  have pk : PkAt 0 := trivial
  k_steps
  refine unpark ?_
  refine For_invV base (by rfl) (by rfl) ?_
  ((try clear pk); (try clear pk))
  have pk : PkAt 1 := trivial
  k_steps
  refine unpark ?_
  rename News _ _ _ _ => N5
  rename Fr _ _ _ _ => F5
  rename IntsAre ri rs => hi
  rename IntsAre ui us => hu
  refine loop_tupleP (σ := List Nd × (List Value × Nat × List Int) × Int × Tok) (fun c => (D, tupOf ui.toArray) :: ((S.at c.1 c.2.2.1 c.2.2.2).ready r c.2.1.1 c.2.1.2.1).objs w) (fun _ => [(Str.ofString "self", .ref S.x), (Str.ofString "n2i", .ref S.d)])
    (fun i c => ((S.at c.1 c.2.2.1 c.2.2.2).ready r c.2.1.1 c.2.1.2.1).Ok w ∧ doneW (us.drop i) (S.at c.1 c.2.2.1 c.2.2.2).view c.2.1.2.2 = doneW us S.view rs ∧ DoneOk (us.drop i) (S.at c.1 c.2.2.1 c.2.2.2).view c.2.1.2.2 ∧ IntsAre c.2.1.1 c.2.1.2.2 ∧
      (((D, tupOf ui.toArray) :: ((S.at c.1 c.2.2.1 c.2.2.2).ready r c.2.1.1 c.2.1.2.1).objs w).map (·.1)).Nodup ∧ (∀ n ∈ c.1, n.its.length ≤ b) ∧ c.2.1.2.2.length ≤ rs.length + i * b ∧ c.2.2.1 = S.nf + i) (S.nodes, (ri, rn, rs), S.nf, S.ft) hh (fun c => .head _) F5 N5 ?hk ⟨O, rfl, hok, hi, hndD, hb1, by simp, by simp⟩ ?_ ?_
  case hk => (intro p hp; rcases List.mem_cons.mp hp with rfl | hp; exact rfl; cases List.mem_singleton.mp hp; exact rfl)
  · intro i c u v h tk I oI hv hJ hoI hI0 F6 N6
    obtain ⟨ns, ⟨ri', rn', rs'⟩, nf, ft⟩ := c
    dsimp only at hJ hoI F6 N6
    obtain ⟨O6, hv6, hok6, hi6, hnd6, hb6, hz6, hnf6⟩ := hJ
    have hlt : i < ui.length := (List.getElem?_eq_some_iff.mp hv).1
    have hlt' : i < us.length := by omega
    obtain ⟨k, hki⟩ : ∃ k, us[i]? = some k := ⟨us[i], by simp [hlt']⟩
    obtain ⟨kt, hkt⟩ := hu.get i k hki
    obtain rfl : v = .int k kt := Option.some.inj (hv.symm.trans hkt)
    have hdr : us.drop i = k :: us.drop (i + 1) := by
      rw [List.drop_eq_getElem_cons hlt']
      congr 1
      simpa [hlt'] using hki
    rw [hdr] at hv6 hok6
    obtain ⟨hkin, hnp, hys, hok7⟩ := hok6
    rw [doneW] at hv6
    obtain ⟨pre, nd, post, e, hk⟩ := node_of hkin
    have e' : ns = pre ++ nd :: post := e
    subst e'
    have hvA : valueAt (kvsOf (pre ++ nd :: post)) k = some (.ref nd.a) := valueAt_some O6.keys (List.mem_append_right _ (.head _)) hk
    rw [npAt_node (S := S.at (pre ++ nd :: post) nf ft) rfl O6.keys hk] at hnp
    rw [succAt_node (S := S.at (pre ++ nd :: post) nf ft) rfl O6.keys hk] at hv6 hys hok7
    have hnd7 : (((I, oI) :: (D, tupOf ui.toArray) :: ((S.at (pre ++ nd :: post) nf ft).ready r ri' rn').objs w).map (·.1)).Nodup := List.nodup_cons.mpr ⟨fun q => by
      obtain ⟨z, hz, e⟩ := List.mem_map.mp q
      exact hoI z hz e, hnd6⟩
    have hpm := focus_perm (w := w) (S := (S.at (pre ++ nd :: post) nf ft).ready r ri' rn') rfl
    have ap := apart_of (w := w) (S := (S.at (pre ++ nd :: post) nf ft).ready r ri' rn') rfl (List.nodup_cons.mp hnd6).2
    have hDa : nd.a ≠ D := off_head hnd6 (nd.a, nodeOf nd) (hpm.mem_iff.mpr (.head _))
    have hIa : nd.a ≠ I := off_head hnd7 (nd.a, nodeOf nd) (.tail _ (hpm.mem_iff.mpr (.head _)))
    obtain ⟨g1, g2, g3, g4, g5, g6, g7, g8, g9, g10, g11⟩ := ap
    have hra : nd.a ≠ r := Ne.symm (g10 (r, listOf ri'.toArray rn') (.head _))
    have hrl : nd.l ≠ r := Ne.symm (g11 (r, listOf ri'.toArray rn') (.head _))
    have g12 : ∀ p ∈ ndObjs (pre ++ post), p.1 ≠ nd.a := fun p hp => g10 p (.tail _ hp)
    clear g10 g11
    have N7 := focusN (fr := [(I, oI), (D, tupOf ui.toArray)]) (S := (S.at (pre ++ nd :: post) nf ft).ready r ri' rn') rfl N6
    clear N6
    dsimp only [List.cons_append, List.nil_append, So.attrs, So.ready, So.at] at N7 g1 g2 g3 g4 g5 g6 g7 g8 g9
    have hdict := O6.dict
    have hlo := O6.lo
    dsimp only at hdict hlo
    dsimp only [nodeOf] at N7
    rw [hnp] at N7
    ((try clear pk); (try clear pk))
    have pk : PkAt 1 := trivial
    k_steps
    refine unpark ?_
    rename News _ _ _ _ => N8
    rename Fr _ _ _ _ => F8
    obtain ⟨pt8, N8⟩ := unfocus_npG (S := (S.at (pre ++ nd :: post) nf ft).ready r ri' rn') [(I, oI), (D, tupOf ui.toArray)] N8
    have hI1 := O6.areInts nd (List.mem_append_right _ (.head _))
    have hl1 := hI1.length
    have hbn := hb6 nd (List.mem_append_right _ (.head _))
    have O8 := So.Ok.upd (S := (S.at (pre ++ nd :: post) nf ft).ready r ri' rn') (o := S.o) (nd' := { nd with np := -2, pt := pt8 }) O6 rfl rfl hI1
    have hv8 := view_upd (S := S.at (pre ++ nd :: post) nf ft) (o := S.o) (o' := S.o) (nd' := { nd with np := -2, pt := pt8 }) (fun x => (x.1, -2, x.2.2)) O6.keys hk rfl
    have hnd8 := nodup_upd (S := (S.at (pre ++ nd :: post) nf ft).ready r ri' rn') (o := S.o) (o' := S.o) { nd with np := -2, pt := pt8 } [(I, oI), (D, tupOf ui.toArray)] hnd7 rfl rfl rfl
    have hb8 := upd_len (nd' := { nd with np := -2, pt := pt8 }) hb6 hbn
    have N9 : News base (D + 1) _ ((nd.l, listOf nd.its.toArray nd.n) :: (I, oI) :: (D, tupOf ui.toArray) :: ((S.at (pre ++ { nd with np := -2, pt := pt8 } :: post) nf ft).ready r ri' rn').objs w) := fun p hp => by
      rcases List.mem_cons.mp hp with rfl | hp
      · exact N8 _ (.tail _ (.tail _ ((focus_perm (w := w) (S := (S.at (pre ++ { nd with np := -2, pt := pt8 } :: post) nf ft).ready r ri' rn') rfl).mem_iff.mpr (.tail _ (.tail _ (.head _))))))
      · exact N8 p hp
    refine loop_listP (σ := List Nd × (List Value × Nat × List Int)) (fun c => (nd.l, listOf nd.its.toArray nd.n) :: (I, oI) :: (D, tupOf ui.toArray) :: ((S.at c.1 nf ft).ready r c.2.1 c.2.2.1).objs w) (fun _ => [(Str.ofString "self", .ref S.x), (Str.ofString "n2i", .ref S.d)])
      (fun j c => ((S.at c.1 nf ft).ready r c.2.1 c.2.2.1).Ok w ∧ decW (nd.succ.take j) (setV (S.at (pre ++ nd :: post) nf ft).view k (-2)) rs' = ((S.at c.1 nf ft).view, c.2.2.2) ∧ IntsAre c.2.1 c.2.2.2 ∧
        (((I, oI) :: (D, tupOf ui.toArray) :: ((S.at c.1 nf ft).ready r c.2.1 c.2.2.1).objs w).map (·.1)).Nodup ∧ (∀ n ∈ c.1, n.its.length ≤ b) ∧ c.2.2.2.length ≤ rs'.length + j) (pre ++ { nd with np := -2, pt := pt8 } :: post, ri', rn', rs') hh (fun c => .head _) F8 N9 ?hk ⟨O8, ?_, hi6, hnd8, hb8, by simp⟩ ?_ ?_
    case hk => (intro p hp; rcases List.mem_cons.mp hp with rfl | hp; exact rfl; cases List.mem_singleton.mp hp; exact rfl)
    · rw [List.take_zero]
      show (setV (S.at (pre ++ nd :: post) nf ft).view k (-2), rs') = _
      rw [Prod.mk.injEq]
      exact ⟨hv8.symm, rfl⟩
    · intro j c u2 v2 h2 tk2 I2 oI2 hv2 hJ2 hoI2 hI02 F10 N10
      obtain ⟨ns2, ri2, rn2, rs2⟩ := c
      dsimp only at hJ2 hoI2 F10 N10
      obtain ⟨O10, hd10, hi10, hnd10, hb10, hz10⟩ := hJ2
      have hlt2 : j < nd.its.length := (List.getElem?_eq_some_iff.mp hv2).1
      have hlt2' : j < nd.succ.length := by omega
      obtain ⟨y, hyj⟩ : ∃ y, nd.succ[j]? = some y := ⟨nd.succ[j], by simp [hlt2']⟩
      obtain ⟨yt, hyt⟩ := hI1.get j y hyj
      obtain rfl : v2 = .int y yt := Option.some.inj (hv2.symm.trans hyt)
      have hyin : y ∈ (S.at ns2 nf ft).view.map (·.1) := by
        have e1 := decW_keys (nd.succ.take j) (setV (S.at (pre ++ nd :: post) nf ft).view k (-2)) rs'
        rw [hd10, setV_keys] at e1
        rw [e1]
        exact hys y (List.mem_of_getElem? hyj)
      obtain ⟨pre2, n2, post2, e2, hk2⟩ := node_of hyin
      have e2' : ns2 = pre2 ++ n2 :: post2 := e2
      subst e2'
      have hvA2 : valueAt (kvsOf (pre2 ++ n2 :: post2)) y = some (.ref n2.a) := valueAt_some O10.keys (List.mem_append_right _ (.head _)) hk2
      have hnp2 := npAt_node (S := S.at (pre2 ++ n2 :: post2) nf ft) rfl O10.keys hk2
      have hpm2 := focus_perm (w := w) (S := (S.at (pre2 ++ n2 :: post2) nf ft).ready r ri2 rn2) rfl
      have ap2 := apart_of (w := w) (S := (S.at (pre2 ++ n2 :: post2) nf ft).ready r ri2 rn2) rfl (List.nodup_cons.mp (List.nodup_cons.mp hnd10).2).2
      have hmem2 : (n2.a, nodeOf n2) ∈ ((S.at (pre2 ++ n2 :: post2) nf ft).ready r ri2 rn2).objs w := hpm2.mem_iff.mpr (.head _)
      have hDa2 : n2.a ≠ D := off_head (List.nodup_cons.mp hnd10).2 _ hmem2
      have hIa2 : n2.a ≠ I := off_head hnd10 _ (.tail _ hmem2)
      have hI2a : n2.a ≠ I2 := hoI2 _ (.tail _ (.tail _ (.tail _ hmem2)))
      have hla2 : nd.l ≠ n2.a := ne_of_get N10 (.tail _ (.head _)) (.tail _ (.tail _ (.tail _ (.tail _ hmem2)))) (by simp)
      obtain ⟨m1, m2, m3, m4, m5, m6, m7, m8, m9, m10, m11⟩ := ap2
      have hra2 : n2.a ≠ r := Ne.symm (m10 (r, listOf ri2.toArray rn2) (.head _))
      have hrl2 : n2.l ≠ r := Ne.symm (m11 (r, listOf ri2.toArray rn2) (.head _))
      have m12 : ∀ p ∈ ndObjs (pre2 ++ post2), p.1 ≠ n2.a := fun p hp => m10 p (.tail _ hp)
      clear m10 m11
      have hr0 := (hpm2.map (·.1)).nodup_iff.mp (List.nodup_cons.mp (List.nodup_cons.mp hnd10).2).2
      simp only [List.map_cons, List.nodup_cons, List.mem_cons, not_or, So.ready, So.at, List.cons_append, List.nil_append] at hr0
      obtain ⟨_, ⟨_, _, _, _, hrd2, _⟩, _, ⟨_, _, hrx, _⟩, ⟨_, hrdx, _⟩, ⟨hrd, _⟩, hrt, _⟩ := hr0
      have hrt' : ∀ p ∈ ndObjs (pre2 ++ post2), p.1 ≠ r := fun p hp q => hrt (q ▸ fst_mem hp)
      have hrmem : (r, listOf ri2.toArray rn2) ∈ ((S.at (pre2 ++ n2 :: post2) nf ft).ready r ri2 rn2).objs w := .tail _ (.tail _ (.tail _ (.head _)))
      have hrD : r ≠ D := off_head (List.nodup_cons.mp hnd10).2 _ hrmem
      have hrI : r ≠ I := off_head hnd10 _ (.tail _ hrmem)
      have hrI2 : r ≠ I2 := hoI2 _ (.tail _ (.tail _ (.tail _ hrmem)))
      have N11 := focusN (fr := [(I2, oI2), (nd.l, listOf nd.its.toArray nd.n), (I, oI), (D, tupOf ui.toArray)]) (S := (S.at (pre2 ++ n2 :: post2) nf ft).ready r ri2 rn2) rfl N10
      clear N10
      dsimp only [List.cons_append, List.nil_append, So.attrs, So.ready, So.at] at N11 m1 m2 m3 m4 m5 m6 m7 m8 m9
      have hdict2 := O10.dict
      dsimp only at hdict2
      have hI3 := O10.areInts n2 (List.mem_append_right _ (.head _))
      have hb3 := hb10 n2 (List.mem_append_right _ (.head _))
      have hil : ri2.length = rs2.length := hi10.length
      have hz2 : ri2.length ≤ 100000 := by
        have : i * b ≤ 60 * 1000 := Nat.mul_le_mul (by omega) hb0
        omega
      have fin : ∀ pt9 (ri9 : List Value) rn9 (rs9 : List Int), IntsAre ri9 rs9 → rs9 = (if n2.np - 1 = 0 then rs2 ++ [y] else rs2) →
          ((S.at (pre2 ++ { n2 with np := n2.np - 1, pt := pt9 } :: post2) nf ft).ready r ri9 rn9).Ok w ∧
          decW (nd.succ.take (j + 1)) (setV (S.at (pre ++ nd :: post) nf ft).view k (-2)) rs' = ((S.at (pre2 ++ { n2 with np := n2.np - 1, pt := pt9 } :: post2) nf ft).view, rs9) ∧ IntsAre ri9 rs9 ∧
          (((I, oI) :: (D, tupOf ui.toArray) :: ((S.at (pre2 ++ { n2 with np := n2.np - 1, pt := pt9 } :: post2) nf ft).ready r ri9 rn9).objs w).map (·.1)).Nodup ∧ (∀ n ∈ pre2 ++ { n2 with np := n2.np - 1, pt := pt9 } :: post2, n.its.length ≤ b) ∧ rs9.length ≤ rs'.length + (j + 1) := by
        intro pt9 ri9 rn9 rs9 hi9 hrs9
        refine ⟨?_, ?_, hi9, ?_, upd_len hb10 hb3, ?_⟩
        · have := So.Ok.upd (S := (S.at (pre2 ++ n2 :: post2) nf ft).ready r ri2 rn2) (o := S.o) (nd' := { n2 with np := n2.np - 1, pt := pt9 }) O10 rfl rfl hI3
          exact ⟨this.lo, this.dict, this.areInts⟩
        · rw [List.take_add_one, hyj]
          show decW (nd.succ.take j ++ [y]) _ _ = _
          rw [decW_snoc, hd10]
          have hv12 := view_upd (S := S.at (pre2 ++ n2 :: post2) nf ft) (o := S.o) (o' := S.o) (nd' := { n2 with np := n2.np - 1, pt := pt9 }) (fun x => (x.1, x.2.1 + -1, x.2.2)) O10.keys hk2 (by show (n2.key, n2.np - 1, n2.succ) = (n2.key, n2.np + -1, n2.succ); congr 2)
          rw [Prod.mk.injEq]
          refine ⟨hv12.symm, ?_⟩
          show (if npAt (S.at (pre2 ++ n2 :: post2) nf ft).view y - 1 = 0 then rs2 ++ [y] else rs2) = rs9
          rw [hnp2, hrs9]
        · exact nodup_upd (S := (S.at (pre2 ++ n2 :: post2) nf ft).ready r ri9 rn9) (o := S.o) (o' := S.o) { n2 with np := n2.np - 1, pt := pt9 } [(I, oI), (D, tupOf ui.toArray)] hnd10 rfl rfl rfl
        · rw [hrs9]
          split
          · rw [List.length_append, List.length_singleton]; omega
          · omega
      have offI2 : ∀ pt9 (ri9 : List Value) rn9, ∀ p ∈ (nd.l, listOf nd.its.toArray nd.n) :: (I, oI) :: (D, tupOf ui.toArray) :: ((S.at (pre2 ++ { n2 with np := n2.np - 1, pt := pt9 } :: post2) nf ft).ready r ri9 rn9).objs w, p.1 ≠ I2 := by
        intro pt9 ri9 rn9 p hp q
        have e3 : ((nd.l, listOf nd.its.toArray nd.n) :: (I, oI) :: (D, tupOf ui.toArray) :: ((S.at (pre2 ++ { n2 with np := n2.np - 1, pt := pt9 } :: post2) nf ft).ready r ri9 rn9).objs w).map (·.1) = ((nd.l, listOf nd.its.toArray nd.n) :: (I, oI) :: (D, tupOf ui.toArray) :: ((S.at (pre2 ++ n2 :: post2) nf ft).ready r ri2 rn2).objs w).map (·.1) := by
          show nd.l :: I :: D :: S.x :: S.dx :: S.d :: r :: (ndObjs (pre2 ++ { n2 with np := n2.np - 1, pt := pt9 } :: post2)).map (·.1) = nd.l :: I :: D :: S.x :: S.dx :: S.d :: r :: (ndObjs (pre2 ++ n2 :: post2)).map (·.1)
          rw [fst_same (nd := n2) (nd' := { n2 with np := n2.np - 1, pt := pt9 }) rfl rfl rfl]
        have h1 := fst_mem hp
        rw [e3] at h1
        obtain ⟨z, hz, ez⟩ := List.mem_map.mp h1
        exact hoI2 z hz (ez.trans q)
      ((try clear pk); (try clear pk))
      k_steps
      · have hz0 : n2.np - 1 = 0 := by first | assumption | omega | simp_all
        rename News _ _ _ _ => nE
        simp only [List.push_toArray] at nE
        obtain ⟨pt9, N12⟩ := unfocus_npG (S := (S.at (pre2 ++ n2 :: post2) nf ft).ready r (ri2 ++ [Value.int y yt]) (rn2 + 1)) [(I2, oI2), (nd.l, listOf nd.its.toArray nd.n), (I, oI), (D, tupOf ui.toArray)] nE
        exact turn_end (pre2 ++ { n2 with np := n2.np - 1, pt := pt9 } :: post2, ri2 ++ [Value.int y yt], rn2 + 1, rs2 ++ [y]) (by assumption) N12 (.head _) (fun p hp => .tail _ hp) (offI2 pt9 _ _) ⟨(by intro p hp; rcases List.mem_cons.mp hp with rfl | hp; exact rfl; cases List.mem_singleton.mp hp; exact rfl), fin pt9 _ _ _ (ints_snoc hi10 _ _) (by rw [if_pos hz0])⟩
      · have hz0 : ¬ n2.np - 1 = 0 := by first | assumption | omega | simp_all
        rename News _ _ _ _ => nE
        obtain ⟨pt9, N12⟩ := unfocus_npG (S := (S.at (pre2 ++ n2 :: post2) nf ft).ready r ri2 rn2) [(I2, oI2), (nd.l, listOf nd.its.toArray nd.n), (I, oI), (D, tupOf ui.toArray)] nE
        exact turn_end (pre2 ++ { n2 with np := n2.np - 1, pt := pt9 } :: post2, ri2, rn2, rs2) (by assumption) N12 (.head _) (fun p hp => .tail _ hp) (offI2 pt9 _ _) ⟨(by intro p hp; rcases List.mem_cons.mp hp with rfl | hp; exact rfl; cases List.mem_singleton.mp hp; exact rfl), fin pt9 _ _ _ hi10 (by rw [if_neg hz0])⟩
    · intro c u2 h2 tk2 hJ2 F10 N10
      obtain ⟨ns2, ri2, rn2, rs2⟩ := c
      dsimp only at hJ2 F10 N10
      obtain ⟨O10, hd10, hi10, hnd10, hb10, hz10⟩ := hJ2
      have hnd0 := hnd10
      have N11 : News _ _ _ _ := fun p hp => N10 p (.tail _ hp)
      dsimp only [List.cons_append, List.nil_append, So.attrs, So.ready, So.at, So.objs] at N11
      clear N10
      simp only [List.map_cons, List.nodup_cons, List.mem_cons, not_or, So.objs, So.ready, So.at, List.cons_append, List.nil_append] at hnd10
      obtain ⟨⟨z1, z2, z3, z4, z5, z6⟩, ⟨a1, a2, a3, a4, a5⟩, ⟨b1, b2, b3, b4⟩, ⟨c1, c2, c3⟩, ⟨d1, d2⟩, e1, _⟩ := hnd10
      have f2 : ∀ p ∈ ndObjs ns2, p.1 ≠ S.dx := fun p hp q => c3 (q ▸ fst_mem hp)
      ((try clear pk); (try clear pk))
      k_steps
      rename News _ _ _ _ => nE
      have hl2 : nd.its.length = nd.succ.length := hl1
      rw [hl2, List.take_length] at hd10
      rw [show setV (S.at (pre ++ nd :: post) nf ft).view k (-2) = setV (S.at (pre ++ nd :: post) nf ft).view k (-2) from rfl] at hd10
      rw [hd10] at hv6 hok7
      obtain ⟨ft9, N12⟩ := foldNf nE
      refine turn_end (ns2, (ri2, rn2, rs2), nf + 1, ft9) (by assumption) N12 (.head _) (fun p hp => .tail _ hp) (off_head (l := (D, tupOf ui.toArray) :: ((S.at ns2 (nf + 1) ft9).ready r ri2 rn2).objs w) hnd0) ⟨?_, ⟨O10.lo, O10.dict, O10.areInts⟩, hv6, hok7, hi10, (List.nodup_cons.mp hnd0).2, hb10, ?_, ?_⟩
      · (intro p hp; rcases List.mem_cons.mp hp with rfl | hp; exact rfl; cases List.mem_singleton.mp hp; exact rfl)
      · show rs2.length ≤ rs.length + (i + 1) * b
        have : (i + 1) * b = i * b + b := Nat.succ_mul i b
        omega
      · show nf + 1 = S.nf + ((i + 1 : Nat) : Int)
        push_cast; omega
  · intro c u h tk hJ F6 N6
    obtain ⟨ns, ⟨ri', rn', rs'⟩, nf, ft⟩ := c
    dsimp only at hJ F6 N6
    obtain ⟨O6, hv6, hok6, hi6, hnd6, hb6, hz6, hnf6⟩ := hJ
    ((try clear pk); (try clear pk))
    k_steps
    (try subst hbase)
    rw [hul, List.drop_length] at hv6
    have e1 : (S.at ns nf ft).view = (doneW us S.view rs).1 := by rw [← hv6]; rfl
    have e2 : rs' = (doneW us S.view rs).2 := by rw [← hv6]; rfl
    rw [e2] at hi6
    exact hret (S.at ns nf ft) ri' rn' _ _ rfl e1 rfl (by rw [← hul]; exact hnf6) hi6 hb6 O6 (post_of F6 N6 (fun p hp => .tail _ hp) (List.nodup_cons.mp hnd6).2)
end done_kC
section
variable {w : World} {mean : ExcName → Option Value} {mg mb : Str → Option Value} {A : Around} {hb : Heap} {s : Shared} {Q E : Value → Shared → Prop}
theorem done_k {R : Result → Shared → Prop} (S : So) {r : Addr} {ri : List Value} {rn : Nat} {rs : List Int} {ui : List Value} {us : List Int} {b : Nat} (X : (hd.heap_1 w.params).In hb) (T : Top hd.view_1 (looseW hd.view_1 [Str.ofString "_NodeInfo"]) mean mg mb hb) (St : hb.StaysIn s.heap)
   (C : Pre hb s.heap ((S.ready r ri rn).objs w)) (O : (S.ready r ri rn).Ok w) (hi : IntsAre ri rs) (hu : IntsAre ui us) (hok : DoneOk us S.view rs) (hb0 : b ≤ 1000) (hb1 : ∀ nd ∈ S.nodes, nd.its.length ≤ b) (hz : rs.length ≤ 1000) (huz : us.length ≤ 60) (hh : A.handled = none) (hd : A.depth + 5 < recursionLimit)
    (hret : ∀ (S' : So) ri' rn' h' tk', S'.x = S.x → S'.view = (doneW us S.view rs).1 → S'.po = S.po → S'.nf = S.nf + us.length → IntsAre ri' (doneW us S.view rs).2 → (∀ nd ∈ S'.nodes, nd.its.length ≤ b) → (S'.ready r ri' rn').Ok w → Post s.heap h' ((S.ready r ri rn).objs w) ((S'.ready r ri' rn').objs w) → R (.ok (.ret .none)) { s with heap := h', toks := tk' }) :
    codeAny (model PySem.Challenge.rw_oh0070_01.row.prog w) A (.call (.ref 148) ⟨.ref S.x :: ui, []⟩) R s := by
  refine Classical.byContradiction fun hz9 => ?_
  exact @Classical.epsilon_spec done_kP (fun x => ¬ done_kS x) ⟨⟨w, mean, mg, mb, A, hb, s, R, S, r, ri, rn, rs, ui, us, b⟩, fun zz9 => hz9 (zz9 X T St C O hi hu hok hb0 hb1 hz huz hh hd hret)⟩ done_kC.key
end
end Part_M10
section Part_M11
theorem anew_M11 : True := by k_with_none; w_top off; trivial
/-- the entry of a def some of whose names are cells -/
theorem enter_cells {prog : Program} {w : World} {A : Around} {s : Shared} {hb : Heap} {K : Frag} {H : List Addr} {R : Result → Shared → Prop} {mg mb : Str → Option Value} {p : Program} {loose : List Str} {mean : ExcName → Option Value}
    {name qual : Str} {params : Arguments} {body : List Stmt} {scope : Scope} {dV kV doc pm cdv ct oc : Value} {an od : Option Addr} {osl : Array (Option Value)} {f : Addr} {args : Args} {binds : List (Str × Value)}
    (X : K.In hb) (T : Top p loose mean mg mb hb) (St : hb.StaysIn s.heap) (hH : ∀ a ∈ H, hb.get? a = none)
    (ho : K.lookup f = some ⟨oc, od, .func (fnOf name qual params body scope dV kV doc pm an cdv ct), osl⟩) (hcd : codeIn K cdv qual = true) (hroom : A.depth < recursionLimit)
    (hbind : BindsTo s (fnOf name qual params body scope dV kV doc pm an cdv ct) args binds)
    (hkind : (binds.all fun y => scope.names.lookup y.1 == some .local || scope.names.lookup y.1 == some .cell) = true) (hnd : ((cellsFrom 0 scope.names []).map (·.1)).Nodup)
    (h : ∀ g L' h₁ tk cells, g = hideAll s.heap H → L' = s.heap.objs.size → Fr g L' h₁ (bindL (envOfC qual scope L' f cdv).kindOf binds fun _ => none) → News g L' h₁ cells →
      CellsAre (bindC (envOfC qual scope L' f cdv).kindOf binds fun _ => none) (cellsFrom (L' + 1) scope.names []) cells → (∀ b o, s.heap.get? b = some o → h₁.get? b = some o) → K.In g → Top p loose mean mg mb g → hb.StaysIn g →
      wpAny (model prog w) (A.deeper (envOfC qual scope L' f cdv)) (execs body (envOfC qual scope L' f cdv))
        (fun fl s' => R (.ok (.ret (match fl with | .ret v => v | _ => .none))) s') (fun _ _ => False)
        { s with heap := h₁, toks := tk })
    (hco : scope.isCoroutine = false) (hgen : scope.isGenerator = false) (hk : scope.kind = .function) : codeAny (model prog w) A (.call (.ref f) args) R s := by
  have Xs : K.In s.heap := X.keeps St
  have sg : hb.StaysIn (hideAll s.heap H) := fun b o e => hideAll_get _ (St b o e) fun q => by rw [hH b q] at e; cases e
  refine codeAny_call_function (fd := fnOf name qual params body scope dV kV doc pm an cdv ct) (body := body) hroom (Xs _ _ ho) rfl hco hgen rfl (codeRec_of Xs hcd) (hbind _ _ _ _ ?_)
  refine wpAny_newFunctionEnv_cells hk (kindsX hkind _) fun env' he s' x => ?_
  subst he
  refine ⟨(T.nolimit.keeps St).keeps x.toInCall.keep, codeAny_func ?_⟩
  obtain ⟨h₁, tk, rfl, _⟩ := x.done
  have hk₁ := x.toInCall.keep
  obtain ⟨cells, NC, Y⟩ := Cl.news (h₀ := s.heap) (Nat.le_refl _) fun n c hm => ⟨x.cell n c (lookup_of_mem_nodup (cellsFrom_names scope.names 0 (s.heap.objs.size + 1) [] [] rfl ▸ hnd) hm), x.above n c hm⟩
  refine wpAny_mono (E := fun _ _ => False) (h _ _ h₁ tk cells rfl rfl ⟨x.toInCall.ns, fun b o e => hk₁ b o (of_hideAll _ e), Nat.le_of_eq (hideAll_size _ _)⟩ (fun p hp => ?_) Y hk₁ (X.keeps sg) (T.keeps sg) sg) (fun _ _ x => x) (fun _ _ x => x.elim)
  refine ⟨(NC p hp).1, (NC p hp).2.1, ?_⟩
  cases q : (hideAll s.heap H).get? p.1 with
  | none => rfl
  | some o => have := of_hideAll _ q; rw [(NC p hp).2.2] at this; cases this
end Part_M11
section Part_M12
theorem anew_M12 : True := by k_with_none; w_top off; trivial
open PySem PySem.W PySem.Spec PySem.Calls PyProof.Rows
set_option maxRecDepth 100000
noncomputable abbrev itOf (l : Addr) (j : Nat) : Obj := { cls := .type "list_iterator", data := .fields #[.ref l, .int j 0] }
noncomputable abbrev bmOf (it : Addr) : Obj := { cls := .type "method-wrapper", data := .fields #[.builtin "list_iterator.__next__", .ref it] }
theorem slot_li_getattribute : Slot "list_iterator" "__getattribute__" "object.__getattribute__" :=
  .of (owner := "object") (n := "__getattribute__") (by rw [typeLookup_type, builtinLookup_eq_fast]; kernel_rfl) (by decide +kernel) (by decide +kernel) (by decide +kernel)
    (by first | exact .inl (by decide +kernel) | exact .inr (by decide +kernel)) (by rw [isSubtype_type]; kernel_rfl)
theorem li_getattr_none : typeLookup (.type "list_iterator") "__getattr__" = pure none := by rw [typeLookup_type, builtinLookup_eq_fast]; kernel_rfl
theorem entry_oga : entryFor table "object.__getattribute__" = some Builtin.«object.__getattribute__» := entryFor_of_tree (by kernel_rfl)
theorem args_oga (a b : Value) : argsOk "object.__getattribute__" ⟨[a, b], []⟩ := by unfold argsOk; kernel_rfl
theorem li_next : typeLookup (.type "list_iterator") "__next__" = pure (some (.builtin "list_iterator.__next__")) := by rw [typeLookup_type, builtinLookup_eq_fast]; kernel_rfl
theorem type_li_next : typeOf (.builtin "list_iterator.__next__") = pure (.type "wrapper_descriptor") := by show builtinType _ = _; rw [builtinType_eq_fast]; kernel_rfl
theorem wd_get : typeLookup (.type "wrapper_descriptor") (Str.ofString "__get__") = pure (some (.builtin "wrapper_descriptor.__get__")) := by rw [typeLookup_type, builtinLookup_eq_fast]; kernel_rfl
theorem wd_set : typeLookup (.type "wrapper_descriptor") (Str.ofString "__set__") = pure none := by rw [typeLookup_type, builtinLookup_eq_fast]; kernel_rfl
theorem wd_delete : typeLookup (.type "wrapper_descriptor") (Str.ofString "__delete__") = pure none := by rw [typeLookup_type, builtinLookup_eq_fast]; kernel_rfl
theorem slot_wd_get : Slot "wrapper_descriptor" "__get__" "wrapper_descriptor.__get__" :=
  .of (owner := "wrapper_descriptor") (n := "__get__") (by rw [typeLookup_type, builtinLookup_eq_fast]; kernel_rfl) (by decide +kernel) (by decide +kernel) (by decide +kernel)
    (by first | exact .inl (by decide +kernel) | exact .inr (by decide +kernel)) (by rw [isSubtype_type]; kernel_rfl)
theorem entry_wd : entryFor table "wrapper_descriptor.__get__" = some Builtin.«wrapper_descriptor.__get__» := entryFor_of_tree (by kernel_rfl)
theorem args_wd (a b c : Value) : argsOk "wrapper_descriptor.__get__" ⟨[a, b, c], []⟩ := by unfold argsOk; kernel_rfl
theorem sub_li : isSubtype (.type "list_iterator") (.type "list_iterator") = pure true := by rw [isSubtype_type]; kernel_rfl
theorem li_cut : ".".intercalate ("list_iterator.__next__".cutAt '.').dropLast = "list_iterator" := by decide +kernel
theorem meets_wd (a l : Addr) (j : Nat) :
    Meets (Builtin.«wrapper_descriptor.__get__» ⟨[.builtin "list_iterator.__next__", .ref a, .type "list_iterator"], []⟩) (fun A R s => s.heap.get? a = some (itOf l j) ∧ R (.ok (.ret (.ref s.heap.objs.size))) { s with heap := s.heap.push (bmOf a) }) :=
  Meets.of_wp fun prog w A R s hs => by
    obtain ⟨hp, g, d, tk, os⟩ := s
    obtain ⟨hx, hs⟩ := hs
    have hT : (⟨hp, g, d, tk, os⟩ : Shared).TypeIs (.ref a) "list_iterator" := ⟨_, hx, rfl⟩
    have f1 := sub_li
    have f2 := type_li_next
    unfold Builtin.«wrapper_descriptor.__get__»
    repeat (any_goals (first | assumption | wp_step))
    rw [li_cut]
    repeat (any_goals (first | assumption | wp_step))
    all_goals first | exact ⟨_, rfl, hs⟩ | exact hs | skip
theorem meets_oga (a l : Addr) (j : Nat) (u : Tok) :
    Meets (Builtin.«object.__getattribute__» ⟨[.ref a, .str (Str.ofString "__next__") u], []⟩) (fun A R s => s.heap.get? a = some (itOf l j) ∧ R (.ok (.ret (.ref s.heap.objs.size))) { s with heap := s.heap.push (bmOf a) }) :=
  Meets.of_wp fun prog w A R s hs => by
    obtain ⟨hp, g, d, tk, os⟩ := s
    obtain ⟨hx, hs⟩ := hs
    have hT : (⟨hp, g, d, tk, os⟩ : Shared).TypeIs (.ref a) "list_iterator" := ⟨_, hx, rfl⟩
    have f1 := li_next
    have f2 := type_li_next
    have f3 := wd_get
    have f4 := wd_set
    have f5 := wd_delete
    unfold Builtin.«object.__getattribute__»
    repeat (any_goals (first | assumption | ((with_reducible show wpAny _ _ (call (Value.builtin "wrapper_descriptor.__get__") _ _) _ _ _); refine call_meets slot_wd_get type_li_next entry_wd (args_wd _ _ _) (meets_wd a l j) ⟨hx, ?_⟩) | wp_step))
    all_goals first | exact ⟨_, rfl, hs⟩ | exact hs | exact wpAny_pure ⟨_, rfl, hs⟩ | skip
theorem next_attr {prog : Program} {w : World} {A : Around} {E : Value → Shared → Prop} {s : Shared} {a l : Addr} {j : Nat} {Q : Value → Shared → Prop}
    (hx : s.heap.get? a = some (itOf l j)) (h : ∀ tk, Q (.ref s.heap.objs.size) { s with heap := s.heap.push (bmOf a), toks := tk }) : wpAny (model prog w) A (getAttr (.ref a) (Str.ofString "__next__") true) Q E s := by
  obtain ⟨hp, g, d, tk, os⟩ := s
  have hT : ∀ tk', (⟨hp, g, d, tk', os⟩ : Shared).TypeIs (.ref a) "list_iterator" := fun _ => ⟨_, hx, rfl⟩
  have f3 := slot_li_getattribute.lookup
  have f4 := slot_li_getattribute.bind (.ref a)
  have f5 := li_getattr_none
  unfold getAttr getAttrBy
  repeat (any_goals (first | assumption | exact hT _ | ((with_reducible show wpAny _ _ (call (Value.builtin "object.__getattribute__") _ _) _ _ _); refine call_meets slot_li_getattribute (hT _) entry_oga (args_oga _ _) (meets_oga a l j _) ⟨hx, ?_⟩) | wp_step))
  show wpAny _ _ (handedOut (.ref _)) _ _ _
  unfold handedOut
  repeat (any_goals (first | assumption | wp_step))
  all_goals exact h _
theorem check_li (a : Addr) : checkBoundCall "list_iterator.__next__" ⟨[.ref a], []⟩ = pure () := by kernel_rfl
section
variable {prog : Program} {w : World} {A : Around} {E : Value → Shared → Prop} {s : Shared} {bm it l : Addr} {j : Nat} {Q : Value → Shared → Prop}
theorem bm_call {R : Result → Shared → Prop} (hb : s.heap.get? bm = some (bmOf it)) (hq : codeAny (model prog w) A (.builtin "list_iterator.__next__" ⟨[.ref it], []⟩) R s) : codeAny (model prog w) A (.call (.ref bm) ⟨[], []⟩) R s := by
  refine codeAny_of_tree ?_
  show wpAny _ A.in1 (callAny (.ref bm) _) _ _ _
  unfold callAny
  refine wpAny_bind (wpAny_load hb ?_)
  show wpAny _ _ (checkBoundCall "list_iterator.__next__" ⟨[.ref it], []⟩ >>= _) _ _ _
  refine wpAny_bind (wpAny_of_eq (check_li it) ?_)
  exact wpAny_bind (wpAny_pure (wpAny_pure ⟨plainId_quiet (by decide +kernel) _, hq⟩))
theorem bm_item {items : Array Value} {x : Value} (hb : s.heap.get? bm = some (bmOf it)) (hi : s.heap.get? it = some (itOf l j)) (hl : s.heap.IsList l items) (hx : items[j]? = some x)
    (h : ∀ h', h'.get? it = some (itOf l (j + 1)) → Heap.SameBut it s.heap h' → Q x { s with heap := h' }) : wpAny (model prog w) A (call (.ref bm) []) Q E s := by
  obtain ⟨ol, hol, _, nl, hdl⟩ := hl
  refine wpAny_call (bm_call hb (codeAny_builtin entry_listiter_next ?_))
  show wpAny _ _ (field (.ref it) 0 >>= _) _ _ s
  refine wpAny_bind (wpAny_field hi rfl (x := .ref l) rfl ?_)
  show wpAny _ _ (if (Value.ref l == Value.none) = true then _ else _) _ _ s
  rw [if_neg (show ¬ ((Value.ref l == Value.none) = true) from Bool.false_ne_true)]
  show wpAny _ _ (field (.ref it) 1 >>= _) _ _ s
  refine wpAny_bind (wpAny_field hi rfl (x := .int j 0) rfl ?_)
  show wpAny _ _ (seqItems? (.ref l) >>= _) _ _ s
  refine wpAny_bind (wpAny_seqItems hol hdl ?_)
  simp only [Int.toNat_natCast, hx]
  refine wpAny_bind (wpAny_setField hi rfl (by simp) (wpAny_pure ?_))
  refine h _ ?_ (Heap.SameBut.update ..)
  have := Heap.get?_update_self (Obj.mapFields (·.setIfInBounds 1 (rawInt ((j : Int) + 1)))) hi rfl
  rw [this]
  simp [Obj.mapFields, rawInt]
theorem bm_end {items : Array Value} (hh : A.handled = none) (hb : s.heap.get? bm = some (bmOf it)) (hi : s.heap.get? it = some (itOf l j)) (hl : s.heap.IsList l items) (hx : items[j]? = none)
    (hE : ∀ h₁ h' e, Heap.SameBut it s.heap h₁ → Heap.NewExc h₁ h' e "StopIteration" → E (.ref e) { s with heap := h' }) : wpAny (model prog w) A (call (.ref bm) []) Q E s := by
  obtain ⟨ol, hol, _, nl, hdl⟩ := hl
  refine wpAny_call (bm_call hb (codeAny_builtin entry_listiter_next ?_))
  show wpAny _ _ (field (.ref it) 0 >>= _) _ _ s
  refine wpAny_bind (wpAny_field hi rfl (x := .ref l) rfl ?_)
  show wpAny _ _ (if (Value.ref l == Value.none) = true then _ else _) _ _ s
  rw [if_neg (show ¬ ((Value.ref l == Value.none) = true) from Bool.false_ne_true)]
  show wpAny _ _ (field (.ref it) 1 >>= _) _ _ s
  refine wpAny_bind (wpAny_field hi rfl (x := .int j 0) rfl ?_)
  show wpAny _ _ (seqItems? (.ref l) >>= _) _ _ s
  refine wpAny_bind (wpAny_seqItems hol hdl ?_)
  simp only [Int.toNat_natCast, hx]
  refine wpAny_bind (wpAny_rule (wpAny_bind (wpAny_setField hi rfl (by simp) ?_)))
  show wpAny _ _ (newExc (.type "StopIteration") [] >>= _) _ _ _
  refine wpAny_bind ?_
  simp only [newExc, newTuple]
  refine wpAny_bind (wpAny_newObj_type ?_ (by size_fits))
  refine wpAny_bind (m := firstArgMember _ _) (wpAny_of_eq (a := Value.none) (by first | rfl | (simp only [firstArgMember]; rfl)) ?_)
  refine wpAny_newObj_type ?_ (by size_fits)
  simp only [raiseNew]
  refine wpAny_bind (wpAny_handled ?_)
  rw [show (A.under _).handled = none from hh]
  refine wpAny_bind (wpAny_pure (wpAny_throw ?_))
  exact hE (s.heap.update it (Obj.mapFields (·.setIfInBounds 0 .none))) _ _ (Heap.SameBut.update ..) ⟨fun b o hb => Heap.get?_push_of_some _ (Heap.get?_push_of_some _ hb), Heap.get?_none_of_le (by simp), _, _, Heap.get?_push_size _ rfl, rfl, rfl⟩
end
section
variable {prog : Program} {w : World} {A : Around} {E : Value → Shared → Prop} {s : Shared} {h₀ : Heap} {L sa d : Addr} {m : Str → Option Value} {news : List (Addr × Obj)} {g : Obj → List (Addr × Obj)} {so o : Obj} {S : Int → Bool} {n : Nat} {k : Int} {t : Tok} {kvs : List (Int × Value)} {env : Env} {x : Str} {body : List Stmt} {Q' : Flow → Shared → Prop}
theorem mem_split {p : Addr × Obj} {l : List (Addr × Obj)} (h : p ∈ l) : ∃ a b, l = a ++ p :: b := List.append_of_mem h
theorem in_S {Q : Value → Shared → Prop} (N : News h₀ L s.heap news) (hm : (sa, so) ∈ news) (hso : so.SetObjOf (intKind prog w) S n) (hb : n < 60) (h : Q (.bool (S k)) { s with toks := s.toks + 1 }) :
    wpAny (model prog w) A (compareOp .In (.int k t) (.ref sa)) Q E s := by
  obtain ⟨pre, post, rfl⟩ := mem_split hm
  exact in_sl1 N hso (Nat.lt_trans hb (by decide)) (isInt_self k t) rfl h
theorem loop_keysP {σ : Type} {m₀ : Str → Option Value} (Led : σ → List (Addr × Obj)) (ps : σ → List (Str × Value)) (J : Nat → σ → Prop) (c₀ : σ) (hh : A.handled = none)
    (hl : ∀ c, (d, o) ∈ Led c) (hd : o.IsDictOf (intKind prog w) kvs) (lo : (d == sysModules) = false) (F : Fr h₀ env.locals s.heap m₀) (N : News h₀ env.locals s.heap (Led c₀)) (hk : ∀ p ∈ ps c₀, m₀ p.1 = some p.2) (hj : J 0 c₀)
    (turn : ∀ i c u k y t h tk I oI, kvs[i]? = some (k, y) → J i c → (∀ p ∈ Led c, p.1 ≠ I) → (∀ p ∈ Led c₀, p.1 < I) → Fr h₀ env.locals h (fun y => if y = x then some (.int k t) else kstB u (ps c) y) → News h₀ env.locals h ((I, oI) :: Led c) →
      wpAny (model prog w) A (execs body env) (Turn h₀ env.locals I oI Led (fun c m => (∀ p ∈ ps c, m p.1 = some p.2) ∧ J (i + 1) c) s Q') E { s with heap := h, toks := tk })
    (done : ∀ c u h tk, J kvs.length c → Fr h₀ env.locals h (kstB u (ps c)) → News h₀ env.locals h (Led c) → Q' .next { s with heap := h, toks := tk }) :
    wpAny (model prog w) A (pyIter (.ref d)) (fun it s₂ => LoopAtV prog w A h₀ env x body Q' E it s₂) E s := by
  obtain ⟨ep, ha⟩ := KdkAt.of hd
  have hdm := (N _ (hl c₀)).1
  refine wpAny_pyIter_dict lo (ha.dictAt hdm) ?_
  have hne : d ≠ s.heap.objs.size := Nat.ne_of_lt (Heap.lt_size hdm)
  have W := Walks.dictKeys (prog := prog) (w := w) (knd := intKind prog w) hh s.heap.objs.size d hne kvs ep
  refine loop_gen (s := { s with heap := s.heap.push { cls := .type "dict_keyiterator", data := .fields #[.ref d, .int 0 0, .int kvs.length 0, .int ep 0] } }) (m₀ := m₀) W (fun i h hst => by obtain ⟨⟨o, ho, _⟩, _⟩ := hst; exact ⟨o, ho⟩) Led (fun i c m => (∀ p ∈ ps c, m p.1 = some p.2) ∧ J i c) c₀ (fun b hb => by cases List.mem_singleton.mp hb; exact .inr ⟨_, hl⟩)
    ⟨⟨_, Heap.get?_push_size _ rfl, rfl, rfl⟩, ha.dictAt (Heap.get?_push_of_some _ hdm)⟩ ?_ ?_ (F.push _) (fun p hp => ⟨Heap.get?_push_of_some _ (N p hp).1, (N p hp).2⟩) ?_ ⟨hk, hj⟩ ?_ ?_
  · exact next_is_new F
  · exact (Nat.ne_of_lt F.ns.lt).symm
  · exact fun p hp => Nat.ne_of_lt (Heap.lt_size (N p hp).1)
  · intro i c m v h tk oI hi hP hJ hoff F₁ N₁
    obtain ⟨k, y, hky, hkey⟩ := hP
    obtain ⟨t, rfl⟩ := Value.isInt_shape hkey
    refine turn i c m k y t h tk _ oI hky hJ.2 hoff (fun p hp => Heap.lt_size (N p hp).1) ?_ N₁
    rw [kstB_same hJ.1]; exact F₁
  · intro c m h tk hJ F₁ N₁
    refine done c m h tk hJ.2 ?_ N₁
    rw [kstB_same hJ.1]; exact F₁
end
end Part_M12
section Part_M13
theorem anew_M13 : True := by k_with_none; w_top off; trivial
noncomputable def WPost {σ : Type} (h₀ : Heap) (L : Addr) (s : Shared) (Led : σ → List (Addr × Obj)) (ps : σ → List (Str × Value)) (P : σ → Prop) (μ : σ → Nat) (Q : Flow → Shared → Prop) (c : σ) (f : Flow) (s₂ : Shared) : Prop :=
  match f with
  | .ret v => Q (.ret v) s₂
  | .brk => Q .next s₂
  | _ => ∃ c' h tk m news, s₂ = { s with heap := h, toks := tk } ∧ Fr h₀ L h m ∧ News h₀ L h news ∧ (∀ p ∈ Led c', p ∈ news) ∧ (∀ p ∈ ps c', m p.1 = some p.2) ∧ P c' ∧ μ c' < μ c
section
variable {prog : Program} {w : World} {A : Around} {E : Value → Shared → Prop} {s : Shared} {env : Env} {h₀ : Heap} {L : Addr} {Q : Flow → Shared → Prop}
theorem while_inv {σ : Type} {test : Expr} {body orelse : List Stmt} {pos : Pos} {m₀ : Str → Option Value} (Led : σ → List (Addr × Obj)) (ps : σ → List (Str × Value)) (P : σ → Prop) (μ : σ → Nat) (c₀ : σ)
    (F : Fr h₀ L s.heap m₀) (N : News h₀ L s.heap (Led c₀)) (hk : ∀ p ∈ ps c₀, m₀ p.1 = some p.2) (hp : P c₀)
    (turn : ∀ (c : σ) (u : Str → Option Value) h tk, P c → Fr h₀ L h (kstB u (ps c)) → News h₀ L h (Led c) →
      wpAny (model prog w) A (isTrue test env (eval test env)) (fun b s₂ =>
        if b = true then wpAny (model prog w) A (execs body env) (WPost h₀ L s Led ps P μ Q c) E s₂ else wpAny (model prog w) A (execs orelse env) Q E s₂) E { s with heap := h, toks := tk })
    (hE : PassesOwn (model prog w) A env E := by passes_own) :
    wpAny (model prog w) A (exec (.While test body orelse pos) env) Q E s := by
  refine wpAny_While (codeAny_whileLoop (fun n s' => ∃ c h tk m, s' = { s with heap := h, toks := tk } ∧ Fr h₀ L h m ∧ News h₀ L h (Led c) ∧ (∀ p ∈ ps c, m p.1 = some p.2) ∧ P c ∧ n = μ c) ?_ (μ c₀) ⟨c₀, s.heap, s.toks, m₀, rfl, F, N, hk, hp, rfl⟩)
  rintro n s' ⟨c, h, tk, m, rfl, F₁, N₁, hk₁, hp₁, rfl⟩
  refine wpAny_mono (turn c m h tk hp₁ (by rw [kstB_same hk₁]; exact F₁) N₁) (fun b s₂ h₂ => ?_) hE
  cases b with
  | false =>
    simp only [Bool.false_eq_true, if_false] at h₂ ⊢
    exact wpAny_mono h₂ (fun _ _ x => x) hE
  | true =>
    simp only [if_true] at h₂ ⊢
    refine wpAny_mono h₂ (fun f s₃ h₃ => ?_) hE
    have fin : ∀ {s₃ : Shared}, (∃ c' h tk m news, s₃ = { s with heap := h, toks := tk } ∧ Fr h₀ L h m ∧ News h₀ L h news ∧ (∀ p ∈ Led c', p ∈ news) ∧ (∀ p ∈ ps c', m p.1 = some p.2) ∧ P c' ∧ μ c' < μ c) →
        ∃ m', m' < μ c ∧ ∃ c h tk m, s₃ = { s with heap := h, toks := tk } ∧ Fr h₀ L h m ∧ News h₀ L h (Led c) ∧ (∀ p ∈ ps c, m p.1 = some p.2) ∧ P c ∧ m' = μ c := by
      rintro s₃ ⟨c', h', tk', m', news, rfl, F', N', hs', hk', hp', hm'⟩
      exact ⟨μ c', hm', c', h', tk', m', rfl, F', fun p hp => N' p (hs' p hp), hk', hp', rfl⟩
    cases f with
    | ret v => exact h₃
    | brk => exact h₃
    | next => exact fin h₃
    | cont => exact fin h₃
theorem while_end {σ : Type} {Led : σ → List (Addr × Obj)} {ps : σ → List (Str × Value)} {P : σ → Prop} {μ : σ → Nat} {c : σ} {h' : Heap} {tk : Nat} {m : Str → Option Value} {news : List (Addr × Obj)} (c' : σ) (F : Fr h₀ L h' m) (N : News h₀ L h' news) (hs : ∀ p ∈ Led c', p ∈ news) (hk : ∀ p ∈ ps c', m p.1 = some p.2) (hp : P c') (hm : μ c' < μ c) :
    WPost h₀ L s Led ps P μ Q c .next { s with heap := h', toks := tk } := ⟨c', h', tk, m, news, rfl, F, N, hs, hk, hp, hm⟩
end
section
variable {prog : Program} {w : World} {A : Around} {E : Value → Shared → Prop} {s : Shared} {h₀ : Heap} {L sa d l it bm D : Addr} {m : Str → Option Value} {news news' : List (Addr × Obj)} {g : Obj → List (Addr × Obj)} {so o : Obj} {S : Int → Bool} {n j : Nat} {k : Int} {t : Tok} {kvs : List (Int × Value)} {its : List Value}
theorem add_S {Q : Value → Shared → Prop} (F : Fr h₀ L s.heap m) (N : News h₀ L s.heap news) (U : UpdF sa so news g) (hso : so.SetObjOf (intKind prog w) S n) (hb : n < 60)
    (h : ∀ h' so', Fr h₀ L h' m → News h₀ L h' (g so') → so'.SetObjOf (intKind prog w) (fun k' => S k' || decide (k' = k)) (if S k then n else n + 1) → Q .none { s with heap := h', toks := s.toks + 1 }) :
    wpAny (model prog w) A (call (.builtin "set.add") [.ref sa, .int k t]) Q E s := kse_add F N U hso (Nat.lt_trans (Nat.succ_lt_succ hb) (by decide)) (isInt_self k t) rfl h
theorem iter_L {Q : Value → Shared → Prop} (F : Fr h₀ L s.heap m) (N : News h₀ L s.heap news) (hm : (l, listOf its.toArray n) ∈ news)
    (h : ∀ I h', Fr h₀ L h' m → News h₀ L h' ((I, itOf l 0) :: news) → (∀ p ∈ news, p.1 < I) → Q (.ref I) { s with heap := h' }) : wpAny (model prog w) A (call (.builtin "iter") [.ref l]) Q E s := by
  refine call_function_entry (by decide +kernel) (by decide +kernel) kdk_entry_iter (kdk_args_iter _) ?_
  unfold Builtin.«iter»
  refine wpAny_bind (m := someArgs "iter" 1 2 _) (wpAny_of_eq (a := [Value.ref l]) (by first | rfl | kernel_rfl!) ?_)
  show wpAny _ _ (pyIter (.ref l) >>= _) _ _ _
  refine wpAny_bind (wpAny_pyIter_list (isL N hm) ?_)
  exact wpAny_pure ⟨_, rfl, h _ _ (F.push _) (News.push F N _ rfl) (fun q hq => Heap.lt_size (N q hq).1)⟩
theorem attr_next {Q : Value → Shared → Prop} (F : Fr h₀ L s.heap m) (N : News h₀ L s.heap news) (hm : (it, itOf l j) ∈ news)
    (h : ∀ B h' tk, Fr h₀ L h' m → News h₀ L h' ((B, bmOf it) :: news) → (∀ p ∈ news, p.1 < B) → Q (.ref B) { s with heap := h', toks := tk }) : wpAny (model prog w) A (getAttr (.ref it) (Str.ofString "__next__") true) Q E s :=
  next_attr (N _ hm).1 fun tk => h _ _ tk (F.push _) (News.push F N _ rfl) (fun q hq => Heap.lt_size (N q hq).1)
theorem next_N {x : Value} {Q : Value → Shared → Prop} (F : Fr h₀ L s.heap m) (N : News h₀ L s.heap news) (hb : (bm, bmOf it) ∈ news) (hl : (l, listOf its.toArray n) ∈ news) (U : Upd it (itOf l j) (itOf l (j + 1)) news news') (hx : its[j]? = some x)
    (h : ∀ h', Fr h₀ L h' m → News h₀ L h' news' → Q x { s with heap := h' }) : wpAny (model prog w) A (call (.ref bm) []) Q E s := by
  obtain ⟨pre, post, rfl, rfl, a, b⟩ := U.split
  have z := N (it, itOf l j) (List.mem_append.mpr (.inr (.head _)))
  refine bm_item (N _ hb).1 z.1 (isL N hl) (by simpa using hx) fun h' hi' hs' => ?_
  exact h h' (F.change hs' z.2.1 z.2.2) (N.setIn a b hs' hi')
theorem next_E {Q : Value → Shared → Prop} (hh : A.handled = none) (F : Fr h₀ L s.heap m) (N : News h₀ L s.heap news) (hb : (bm, bmOf it) ∈ news) (hl : (l, listOf its.toArray n) ∈ news) (hm : (it, itOf l j) ∈ news) (hx : its.length ≤ j)
    (h : ∀ h₁ h' e, Fr h₀ L h₁ m → News h₀ L h₁ (news.filter fun p => decide (p.1 ≠ it)) → Heap.NewExc h₁ h' e "StopIteration" → E (.ref e) { s with heap := h' }) : wpAny (model prog w) A (call (.ref bm) []) Q E s := by
  have z := N _ hm
  refine bm_end hh (N _ hb).1 z.1 (isL N hl) (Array.getElem?_eq_none (by simpa using hx)) fun h₁ h' e hs' hx' => ?_
  refine h h₁ h' e (F.change hs' z.2.1 z.2.2) (fun p hp => ?_) hx'
  obtain ⟨hp1, hp2⟩ := List.mem_filter.mp hp
  exact ⟨(hs'.2 p.1 (by simpa using hp2)).trans (N p hp1).1, (N p hp1).2⟩
theorem last_R {value slice : Expr} {p : List Value} {y : Value} {u : Tok} {Q : Value → Shared → Prop} (N : News h₀ L s.heap news) (hm : (D, listOf (p ++ [y]).toArray n) ∈ news) (hz : p.length ≤ 1000) (h : Q y s)
    (hs : subscripted slice false (.ref D) (.int (-1) u) = operate [.ref D, .int (-1) u] (getItem (.ref D) (.int (-1) u)) := by with_unfolding_all rfl) :
    wpAny (model prog w) A (subscriptTail value slice (.ref D) (.int (-1) u)) Q E s := by
  have hl := isL N hm
  refine tail_any hl.typeIs slot_list_getitem.lookup (wpAny_getItem_list_neg hl (by decide) (by simp; omega) (by decide) ?_ h) hs
  have e : ((-1 : Int) + ((p ++ [y]).toArray.size : Nat)).toNat = p.length := by simp; omega
  rw [e]
  simp
theorem pop_R {p : List Value} {y : Value} {Q : Value → Shared → Prop} (F : Fr h₀ L s.heap m) (N : News h₀ L s.heap news) (U : Upd D (listOf (p ++ [y]).toArray n) (listOf p.toArray (n + 1)) news news') (hz : p.length ≤ 1000)
    (h : ∀ h', Fr h₀ L h' m → News h₀ L h' news' → Q y { s with heap := h' }) : wpAny (model prog w) A (call (.builtin "list.pop") [.ref D]) Q E s :=
  kl_pop F N (by simpa using kpa_last y p) U (by rw [sizeLine_eq]; simp; omega) h
end
end Part_M13
section Part_P1
theorem anew_P1 : True := by k_with_none; w_top off; trivial
open PySem
set_option linter.unusedVariables false
/-- the pigeonhole: a list that holds 0 .. n-1 has n items or more -/
theorem php : ∀ (n : Nat) (l : List Int), (∀ i : Nat, i < n → (i : Int) ∈ l) → n ≤ l.length
  | 0, _, _ => Nat.zero_le _
  | n + 1, l, h => by
    have h1 : (n : Int) ∈ l := h n (Nat.lt_succ_self _)
    have h2 : n ≤ (l.erase (n : Int)).length := php n _ fun i hi => (List.mem_erase_of_ne (by omega)).mpr (h i (by omega))
    rw [List.length_erase_of_mem h1] at h2
    have : 0 < l.length := List.length_pos_of_mem h1
    omega
theorem fmod_pos {a b : Int} (h : 0 < b) : a.fmod b = a % b := Int.fmod_eq_emod_of_nonneg a (Int.le_of_lt h)
theorem standsN_spec {full : List Int} {size : Int} (hs : 0 < size) : ∀ (k : Nat) (spot : Int), 0 ≤ spot → spot < size → (∃ j : Nat, j ≤ k ∧ (spot + j) % size ∉ full) →
    ∃ j : Nat, j ≤ k ∧ standsN full size k spot = (spot + j) % size ∧ (spot + j) % size ∉ full ∧ ∀ i : Nat, i < j → (spot + i) % size ∈ full
  | 0, spot, h0, h1, ⟨j, hj, hf⟩ => by
    obtain rfl : j = 0 := by omega
    have e : (spot + ((0 : Nat) : Int)) % size = spot := by simp; exact Int.emod_eq_of_lt h0 h1
    exact ⟨0, Nat.le_refl _, by rw [e]; rfl, hf, fun i hi => absurd hi (Nat.not_lt_zero _)⟩
  | k + 1, spot, h0, h1, ⟨j, hj, hf⟩ => by
    have e0 : (spot + ((0 : Nat) : Int)) % size = spot := by simp; exact Int.emod_eq_of_lt h0 h1
    by_cases hin : spot ∈ full
    · have hj0 : j ≠ 0 := fun q => by subst q; rw [e0] at hf; exact hf hin
      have step : ∀ i : Nat, ((spot + 1) % size + i) % size = (spot + ((i + 1 : Nat) : Int)) % size := fun i => by
        rw [Int.emod_add_emod]; congr 1; push_cast; omega
      have ih := standsN_spec hs k ((spot + 1) % size) (Int.emod_nonneg _ (by omega)) (Int.emod_lt_of_pos _ hs) ⟨j - 1, by omega, by rw [step, show j - 1 + 1 = j by omega]; exact hf⟩
      obtain ⟨i, hi, e, hn, hall⟩ := ih
      refine ⟨i + 1, by omega, ?_, by rw [← step]; exact hn, fun q hq => ?_⟩
      · rw [standsN, if_pos hin, fmod_pos hs, e, step]
      · cases q with
        | zero => rw [e0]; exact hin
        | succ q => rw [← step]; exact hall q (by omega)
    · exact ⟨0, by omega, by rw [standsN, if_neg hin, e0], by rw [e0]; exact hin, fun i hi => absurd hi (Nat.not_lt_zero _)⟩
/-- where a car stands: behind its wish, over full spots alone -/
theorem stands_spec {full : List Int} {wish : Int} {n : Nat} (hlen : full.length ≤ n) (h0 : 0 ≤ wish) (h1 : wish < (n : Int) + 1) :
    ∃ j : Nat, j ≤ n ∧ stands full wish ((n : Int) + 1) = (wish + j) % ((n : Int) + 1) ∧ (wish + j) % ((n : Int) + 1) ∉ full ∧ ∀ i : Nat, i < j → (wish + i) % ((n : Int) + 1) ∈ full := by
  have hs : (0 : Int) < (n : Int) + 1 := by omega
  have hfree : ∃ x : Nat, x < n + 1 ∧ (x : Int) ∉ full := by
    refine Classical.byContradiction fun hc => ?_
    have : ∀ i : Nat, i < n + 1 → (i : Int) ∈ full := fun i hi => Classical.byContradiction fun q => hc ⟨i, hi, q⟩
    have := php (n + 1) full this
    omega
  obtain ⟨x, hx, hxf⟩ := hfree
  have hj : ∃ j : Nat, j ≤ n + 1 ∧ (wish + j) % ((n : Int) + 1) ∉ full := by
    refine ⟨(((x : Int) - wish) % ((n : Int) + 1)).toNat, ?_, ?_⟩
    · have := Int.emod_lt_of_pos ((x : Int) - wish) hs
      have := Int.emod_nonneg ((x : Int) - wish) (b := (n : Int) + 1) (by omega)
      omega
    · have hnn := Int.emod_nonneg ((x : Int) - wish) (b := (n : Int) + 1) (by omega)
      rw [Int.toNat_of_nonneg hnn, Int.add_emod_emod, show wish + ((x : Int) - wish) = x by omega, Int.emod_eq_of_lt (by omega) (by omega)]
      exact hxf
  have hN : ((n : Int) + 1).toNat = n + 1 := by omega
  obtain ⟨j, hj, e, hn, hall⟩ := standsN_spec hs (n + 1) wish h0 h1 hj
  refine ⟨j, ?_, by unfold stands; rw [hN]; exact e, hn, hall⟩
  refine Nat.le_of_not_lt fun hjn => ?_
  -- over n + 1 full spots in a row: too many
  have hall' : ∀ i : Nat, i < n + 1 → (i : Int) ∈ full := fun i hi => by
    have hnn := Int.emod_nonneg ((i : Int) - wish) (b := (n : Int) + 1) (by omega)
    have hlt := Int.emod_lt_of_pos ((i : Int) - wish) hs
    have := hall (((i : Int) - wish) % ((n : Int) + 1)).toNat (by omega)
    rw [Int.toNat_of_nonneg hnn, Int.add_emod_emod, show wish + ((i : Int) - wish) = i by omega, Int.emod_eq_of_lt (by omega) (by omega)] at this
    exact this
  have := php (n + 1) full hall'
  omega
end Part_P1
section Part_P2
theorem anew_P2 : True := by k_with_none; w_top off; trivial
open PySem
set_option linter.unusedVariables false
noncomputable def InR (n : Nat) (l : List Int) : Prop := ∀ x ∈ l, 0 ≤ x ∧ x < (n : Int) + 1
theorem stands_in {full : List Int} {wish : Int} {n : Nat} (hlen : full.length ≤ n) (h0 : 0 ≤ wish) (h1 : wish < (n : Int) + 1) :
    0 ≤ stands full wish ((n : Int) + 1) ∧ stands full wish ((n : Int) + 1) < (n : Int) + 1 ∧ stands full wish ((n : Int) + 1) ∉ full := by
  obtain ⟨j, _, e, hn, _⟩ := stands_spec hlen h0 h1
  rw [e]
  exact ⟨Int.emod_nonneg _ (by omega), Int.emod_lt_of_pos _ (by omega), hn⟩
theorem tableFrom_props {n : Nat} : ∀ (ws acc : List Int), InR n ws → InR n acc → acc.Nodup → acc.length + ws.length ≤ n →
    (tableFrom ((n : Int) + 1) acc ws).length = acc.length + ws.length ∧ (tableFrom ((n : Int) + 1) acc ws).Nodup ∧ InR n (tableFrom ((n : Int) + 1) acc ws)
  | [], acc, _, h2, h3, _ => ⟨rfl, h3, h2⟩
  | x :: xs, acc, h1, h2, h3, h4 => by
    have hx := h1 x (.head _)
    have hl : acc.length ≤ n := by simp only [List.length_cons] at h4; omega
    obtain ⟨s0, s1, s2⟩ := stands_in hl hx.1 hx.2
    have ih := tableFrom_props xs (acc ++ [stands acc x ((n : Int) + 1)]) (fun y hy => h1 y (.tail _ hy))
      (fun y hy => by
        rcases List.mem_append.mp hy with hy | hy
        · exact h2 y hy
        · rw [List.mem_singleton.mp hy]; exact ⟨s0, s1⟩)
      (by
        refine List.nodup_append.mpr ⟨h3, by simp, fun a ha b hb => ?_⟩
        rw [List.mem_singleton.mp hb]
        exact fun q => s2 (q ▸ ha))
      (by simp only [List.length_append, List.length_cons, List.length_nil] at h4 ⊢; omega)
    simp only [List.length_append, List.length_cons, List.length_nil] at ih ⊢
    refine ⟨?_, ih.2⟩
    show (tableFrom ((n : Int) + 1) (acc ++ [stands acc x ((n : Int) + 1)]) xs).length = _
    omega
theorem tableFrom_prefix {size : Int} : ∀ (ws acc : List Int), acc <+: tableFrom size acc ws
  | [], acc => List.prefix_refl _
  | x :: xs, acc => (List.prefix_append acc [stands acc x size]).trans (tableFrom_prefix xs _)
theorem tableFrom_app {size : Int} : ∀ (a b acc : List Int), tableFrom size acc (a ++ b) = tableFrom size (tableFrom size acc a) b
  | [], _, _ => rfl
  | x :: xs, b, acc => tableFrom_app xs b _
/-- the table of the ring with n + 1 spots -/
theorem table_props {ws : List Int} (h : InR ws.length ws) : (tableOf ws).length = ws.length ∧ (tableOf ws).Nodup ∧ InR ws.length (tableOf ws) := by
  have := tableFrom_props (n := ws.length) ws [] h (fun _ h => nomatch h) List.nodup_nil (by simp)
  simpa [tableOf] using this
theorem table_hst {ws : List Int} (h : InR ws.length ws) (pre : List Int) (x : Int) (post : List Int) (e : ws = pre ++ x :: post) :
    stands (tableFrom ((ws.length : Int) + 1) [] pre) x ((ws.length : Int) + 1) ∉ tableFrom ((ws.length : Int) + 1) [] pre := by
  have hl : ws.length = pre.length + (post.length + 1) := by rw [e]; simp
  have h1 : InR ws.length pre := fun y hy => h y (by rw [e]; exact List.mem_append_left _ hy)
  have hp := tableFrom_props (n := ws.length) pre [] h1 (fun _ h => nomatch h) List.nodup_nil (by simp; omega)
  have hx := h x (by rw [e]; exact List.mem_append_right _ (.head _))
  refine (stands_in ?_ hx.1 hx.2).2.2
  rw [hp.1]; simp; omega
/-- each car stands behind its wish, over spots that were taken before it -/
theorem table_car {ws : List Int} (h : InR ws.length ws) {c : Nat} {x : Int} (hx : ws[c]? = some x) :
    ∃ (j : Nat) (t : Int), j ≤ ws.length ∧ (tableOf ws)[c]? = some t ∧ t = (x + j) % ((ws.length : Int) + 1) ∧ t ∉ (tableOf ws).take c ∧ ∀ i : Nat, i < j → (x + i) % ((ws.length : Int) + 1) ∈ (tableOf ws).take c := by
  obtain ⟨hc, hxc⟩ := List.getElem?_eq_some_iff.mp hx
  have e : ws = ws.take c ++ x :: ws.drop (c + 1) := by rw [← hxc]; simp
  have hlt : (ws.take c).length = c := by simp; omega
  have h1 : InR ws.length (ws.take c) := fun y hy => h y (List.mem_of_mem_take hy)
  have hp := tableFrom_props (n := ws.length) (ws.take c) [] h1 (fun _ h => nomatch h) List.nodup_nil (by simp; omega)
  have hT : tableOf ws = tableFrom ((ws.length : Int) + 1) (tableFrom ((ws.length : Int) + 1) [] (ws.take c) ++ [stands (tableFrom ((ws.length : Int) + 1) [] (ws.take c)) x ((ws.length : Int) + 1)]) (ws.drop (c + 1)) := by
    unfold tableOf
    conv => lhs; rw [show tableFrom ((ws.length : Int) + 1) [] ws = tableFrom ((ws.length : Int) + 1) [] (ws.take c ++ x :: ws.drop (c + 1)) from by rw [← e]]
    rw [tableFrom_app]; rfl
  have hlen : (tableFrom ((ws.length : Int) + 1) [] (ws.take c)).length = c := by rw [hp.1]; simp; omega
  obtain ⟨r, hr⟩ := tableFrom_prefix (size := (ws.length : Int) + 1) (ws.drop (c + 1)) (tableFrom ((ws.length : Int) + 1) [] (ws.take c) ++ [stands (tableFrom ((ws.length : Int) + 1) [] (ws.take c)) x ((ws.length : Int) + 1)])
  rw [← hT] at hr
  have htake : (tableOf ws).take c = tableFrom ((ws.length : Int) + 1) [] (ws.take c) := by
    rw [← hr, List.append_assoc, List.take_append_of_le_length (by omega), List.take_of_length_le (by omega)]
  have hw := h x (List.mem_of_getElem? hx)
  obtain ⟨j, hj, es, hn, hall⟩ := stands_spec (full := tableFrom ((ws.length : Int) + 1) [] (ws.take c)) (n := ws.length) (by omega) hw.1 hw.2
  refine ⟨j, _, hj, ?_, es, by rw [htake, es]; exact hn, fun i hi => by rw [htake]; exact hall i hi⟩
  rw [← hr, List.append_assoc, List.getElem?_append_right (by omega), hlen]
  simp
end Part_P2
section Part_P3
theorem anew_P3 : True := by k_with_none; w_top off; trivial
open PySem
set_option linter.unusedVariables false
theorem php2 : ∀ (n : Nat) (l : List Int), l.Nodup → (∀ x ∈ l, 0 ≤ x ∧ x < (n : Int)) → l.length ≤ n
  | 0, l, _, h => by
    cases l with
    | nil => exact Nat.le_refl _
    | cons x l => have := h x (.head _); omega
  | n + 1, l, hn, h => by
    by_cases hin : (n : Int) ∈ l
    · have h2 : (l.erase (n : Int)).length ≤ n := php2 n _ (hn.erase _) fun x hx => by
        have hx' := h x (List.mem_of_mem_erase hx)
        have : x ≠ (n : Int) := fun q => by
          rw [q] at hx
          exact (List.Nodup.not_mem_erase hn) hx
        omega
      rw [List.length_erase_of_mem hin] at h2
      omega
    · have h2 := php2 n l hn fun x hx => by
        have hx' := h x hx
        have : x ≠ (n : Int) := fun q => hin (q ▸ hx)
        omega
      omega
/-- one spot stays free, and one alone -/
theorem free_one {n : Nat} {T : List Int} (hl : T.length = n) (hn : T.Nodup) (hr : InR n T) : ∃ f : Int, 0 ≤ f ∧ f < (n : Int) + 1 ∧ f ∉ T ∧ ∀ x : Int, 0 ≤ x → x < (n : Int) + 1 → x ≠ f → x ∈ T := by
  have h1 : ∃ f : Nat, f < n + 1 ∧ (f : Int) ∉ T := by
    refine Classical.byContradiction fun hc => ?_
    have := php (n + 1) T fun i hi => Classical.byContradiction fun q => hc ⟨i, hi, q⟩
    omega
  obtain ⟨f, hf, hfT⟩ := h1
  refine ⟨f, by omega, by omega, hfT, fun x h0 h1 hx => Classical.byContradiction fun hxT => ?_⟩
  have := php2 (n + 1) ((f : Int) :: x :: T) (by
    refine List.nodup_cons.mpr ⟨?_, List.nodup_cons.mpr ⟨hxT, hn⟩⟩
    intro q
    rcases List.mem_cons.mp q with q | q
    · exact hx q.symm
    · exact hfT q) (fun y hy => by
    rcases List.mem_cons.mp hy with rfl | hy
    · omega
    · rcases List.mem_cons.mp hy with rfl | hy
      · omega
      · have := hr y hy; omega)
  simp only [List.length_cons] at this
  omega
theorem sldM_nil (l : List Int) : sldM l [] = l := by cases l <;> rfl
theorem sldM_self : ∀ l : List Int, sldM l l = []
  | [] => rfl
  | x :: l => by rw [sldM, if_pos rfl]; exact sldM_self l
theorem sldM_free (f : Int) : ∀ es : List Int, es.Nodup → f ∈ es → sldM es (es.filter (· ≠ f)) = [f]
  | [], _, h => nomatch h
  | e :: es, hn, h => by
    have hn' := List.nodup_cons.mp hn
    by_cases q : e = f
    · subst q
      have e1 : (e :: es).filter (· ≠ e) = es := by
        rw [List.filter_cons_of_neg (by simp)]
        refine List.filter_eq_self.mpr fun x hx => ?_
        have : x ≠ e := fun z => hn'.1 (z ▸ hx)
        simpa using this
      rw [e1]
      cases es with
      | nil => rfl
      | cons a t =>
        have : e ≠ a := fun z => hn'.1 (z ▸ .head _)
        rw [sldM, if_neg this, sldM_self]
    · have hf : f ∈ es := by
        rcases List.mem_cons.mp h with h | h
        · exact absurd h.symm q
        · exact h
      rw [List.filter_cons_of_pos (by simpa using q), sldM, if_pos rfl]
      exact sldM_free f es hn'.2 hf
/-- two rising lists of the same items are the same -/
theorem rising_eq : ∀ (a b : List Int), a.Pairwise (· < ·) → b.Pairwise (· < ·) → (∀ x, x ∈ a ↔ x ∈ b) → a = b
  | [], [], _, _, _ => rfl
  | [], y :: b, _, _, h => nomatch (h y).mpr (.head _)
  | x :: a, [], _, _, h => nomatch (h x).mp (.head _)
  | x :: a, y :: b, ha, hb, h => by
    have ha' := List.pairwise_cons.mp ha
    have hb' := List.pairwise_cons.mp hb
    have e : x = y := by
      have h1 := (h x).mp (.head _)
      have h2 := (h y).mpr (.head _)
      rcases List.mem_cons.mp h1 with h1 | h1
      · exact h1
      · rcases List.mem_cons.mp h2 with h2 | h2
        · exact h2.symm
        · have := hb'.1 x h1; have := ha'.1 y h2; omega
    subst e
    rw [rising_eq a b ha'.2 hb'.2 fun z => ?_]
    constructor
    · intro hz
      rcases List.mem_cons.mp ((h z).mp (.tail _ hz)) with q | q
      · subst q; exact absurd (ha'.1 z hz) (by omega)
      · exact q
    · intro hz
      rcases List.mem_cons.mp ((h z).mpr (.tail _ hz)) with q | q
      · subst q; exact absurd (hb'.1 z hz) (by omega)
      · exact q
/-- the sorted table against all spots: the free one is lacking -/
theorem sld_table {n : Nat} {es as T : List Int} {f : Int} (hes : es.Pairwise (· < ·)) (hem : ∀ x, x ∈ es ↔ 0 ≤ x ∧ x < (n : Int) + 1) (has : as.Pairwise (· < ·)) (ham : ∀ x, x ∈ as ↔ x ∈ T) (hr : InR n T)
    (hf0 : 0 ≤ f) (hf1 : f < (n : Int) + 1) (hfT : f ∉ T) (hall : ∀ x : Int, 0 ≤ x → x < (n : Int) + 1 → x ≠ f → x ∈ T) : as.Sublist es ∧ sldM es as = [f] := by
  have e : as = es.filter (· ≠ f) := by
    refine rising_eq _ _ has (hes.filter _) fun x => ?_
    rw [ham, List.mem_filter, hem]
    constructor
    · intro hx
      refine ⟨hr x hx, ?_⟩
      have : x ≠ f := fun q => hfT (q ▸ hx)
      simpa using this
    · rintro ⟨⟨h0, h1⟩, hx⟩
      exact hall x h0 h1 (by simpa using hx)
  rw [e]
  exact ⟨List.filter_sublist, sldM_free f es (hes.imp (fun h q => by omega)) ((hem f).mpr ⟨hf0, hf1⟩)⟩
end Part_P3
section Part_P4
theorem anew_P4 : True := by k_with_none; w_top off; trivial
open PySem
set_option linter.unusedVariables false
/-- the brackets in plain: a block is c opening ones and one closing -/
noncomputable def bal : List Nat → Int → Bool
  | [], o => o == 0
  | c :: cs, o => if o + c - 1 < 0 then false else bal cs (o + c - 1)
noncomputable def sumTo (c : Nat → Nat) : Nat → Nat
  | 0 => 0
  | k + 1 => sumTo c k + c k
theorem bal_map (c : Nat → Nat) : ∀ (m a : Nat) (o : Int), bal ((List.range' a m).map c) o = true ↔
    (∀ k : Nat, 1 ≤ k → k ≤ m → 0 ≤ o + (sumTo c (a + k) : Int) - (sumTo c a : Int) - k) ∧ o + (sumTo c (a + m) : Int) - (sumTo c a : Int) - m = 0
  | 0, a, o => by
    simp only [List.range'_zero, List.map_nil, bal, Nat.add_zero]
    constructor
    · intro h
      have : o = 0 := by simpa using h
      exact ⟨fun k h1 h2 => by omega, by omega⟩
    · rintro ⟨_, h⟩
      have : o = 0 := by omega
      simp [this]
  | m + 1, a, o => by
    rw [List.range'_succ, List.map_cons, bal]
    have e1 : sumTo c (a + 1) = sumTo c a + c a := rfl
    by_cases hneg : o + (c a : Int) - 1 < 0
    · rw [if_pos hneg]
      constructor
      · intro h; cases h
      · rintro ⟨h, _⟩
        have := h 1 (Nat.le_refl _) (by omega)
        rw [e1] at this
        push_cast at this
        omega
    · rw [if_neg hneg, bal_map c m (a + 1) (o + (c a : Int) - 1)]
      have es : ∀ k, a + 1 + k = a + (k + 1) := fun k => by omega
      constructor
      · rintro ⟨h1, h2⟩
        refine ⟨fun k hk1 hk2 => ?_, ?_⟩
        · cases k with
          | zero => omega
          | succ k =>
            cases k with
            | zero =>
              show 0 ≤ o + (sumTo c (a + 1) : Int) - _ - _
              rw [e1]; push_cast; omega
            | succ k =>
              have := h1 (k + 1) (by omega) (by omega)
              rw [es, e1] at this
              push_cast at this ⊢
              omega
        · rw [es, e1] at h2
          push_cast at h2 ⊢
          omega
      · rintro ⟨h1, h2⟩
        refine ⟨fun k hk1 hk2 => ?_, ?_⟩
        · have := h1 (k + 1) (by omega) (by omega)
          rw [es, e1]
          push_cast at this ⊢
          omega
        · rw [es, e1]
          push_cast at h2 ⊢
          omega
/-- how far x lies behind s on the ring of N spots -/
noncomputable def off (N s x : Int) : Int := if s ≤ x then x - s else x - s + N
theorem off_emod {N s x : Int} (hs : 0 ≤ s) (hs1 : s < N) (hx : 0 ≤ x) (hx1 : x < N) : off N s x = (x - s) % N := by
  unfold off
  split
  · rw [Int.emod_eq_of_lt (by omega) (by omega)]
  · rw [← Int.add_emod_right, Int.emod_eq_of_lt (by omega) (by omega)]
theorem off_of_add {N s : Int} {d : Int} (hs : 0 ≤ s) (hs1 : s < N) (hd : 0 ≤ d) (hd1 : d < N) : off N s ((s + d) % N) = d := by
  rw [off_emod hs hs1 (Int.emod_nonneg _ (by omega)) (Int.emod_lt_of_pos _ (by omega)), Int.emod_sub_emod, show s + d - s = d by omega, Int.emod_eq_of_lt hd hd1]
theorem add_of_off {N s x d : Int} (hs : 0 ≤ s) (hs1 : s < N) (hx : 0 ≤ x) (hx1 : x < N) (h : off N s x = d) : (s + d) % N = x := by
  rw [← h, off_emod hs hs1 hx hx1, Int.add_emod_emod, show s + (x - s) = x by omega, Int.emod_eq_of_lt hx hx1]
theorem countP_or {p q : Int → Bool} : ∀ l : List Int, (∀ x ∈ l, ¬ (p x = true ∧ q x = true)) → l.countP (fun x => p x || q x) = l.countP p + l.countP q
  | [], _ => rfl
  | x :: l, h => by
    have ih := countP_or l fun y hy => h y (.tail _ hy)
    have hx := h x (.head _)
    rw [List.countP_cons, List.countP_cons, List.countP_cons, ih]
    cases hp : p x <;> cases hq : q x <;> simp [hp, hq] at hx ⊢ <;> omega
/-- the wishes in the arc of k spots behind s, block by block -/
theorem sumTo_count {ws : List Int} {n : Nat} (hw : InR n ws) {s : Int} (hs : 0 ≤ s) (hs1 : s < (n : Int) + 1) : ∀ k : Nat, k ≤ n →
    sumTo (fun d => ws.count ((s + ((d : Int) + 1)) % ((n : Int) + 1))) k = ws.countP (fun x => decide (1 ≤ off ((n : Int) + 1) s x ∧ off ((n : Int) + 1) s x ≤ (k : Int)))
  | 0, _ => by
    symm
    refine List.countP_eq_zero.mpr fun x hx => ?_
    simp
    omega
  | k + 1, hk => by
    rw [sumTo, sumTo_count hw hs hs1 k (by omega), List.count]
    have := countP_or (p := fun x => decide (1 ≤ off ((n : Int) + 1) s x ∧ off ((n : Int) + 1) s x ≤ (k : Int))) (q := fun x => x == (s + ((k : Int) + 1)) % ((n : Int) + 1)) ws fun x hx => by
      rintro ⟨h1, h2⟩
      have h2 : x = (s + ((k : Int) + 1)) % ((n : Int) + 1) := by simpa using h2
      have h1 := (of_decide_eq_true h1).2
      rw [h2, off_of_add hs hs1 (by omega) (by omega)] at h1
      omega
    rw [← this]
    refine List.countP_congr fun x hx => ?_
    have hx' := hw x hx
    simp only [Bool.or_eq_true, decide_eq_true_eq, beq_iff_eq]
    constructor
    · rintro (h | h)
      · push_cast; omega
      · rw [h, off_of_add hs hs1 (by omega) (by omega)]; push_cast; omega
    · rintro ⟨h1, h2⟩
      push_cast at h2
      by_cases hq : off ((n : Int) + 1) s x ≤ (k : Int)
      · exact .inl ⟨h1, hq⟩
      · refine .inr (add_of_off hs hs1 hx'.1 hx'.2 (by omega)).symm
end Part_P4
section Part_P5
theorem anew_P5 : True := by k_with_none; w_top off; trivial
open PySem
set_option linter.unusedVariables false
theorem countP_le_of {p q : Int → Bool} : ∀ (a b : List Int), a.length = b.length → (∀ (c : Nat) (x t : Int), a[c]? = some x → b[c]? = some t → q t = true → p x = true) → b.countP q ≤ a.countP p
  | [], [], _, _ => Nat.le_refl _
  | [], _ :: _, h, _ => by simp at h
  | _ :: _, [], h, _ => by simp at h
  | x :: a, t :: b, hl, h => by
    have ih := countP_le_of a b (by simpa using hl) fun c y u hy hu => h (c + 1) y u (by simpa using hy) (by simpa using hu)
    have h0 := h 0 x t rfl rfl
    rw [List.countP_cons, List.countP_cons]
    cases hq : q t with
    | false => simp; omega
    | true => rw [h0 hq]; simp; omega
theorem sumTo_ge {c : Nat → Nat} : ∀ k : Nat, (∀ d, d < k → 1 ≤ c d) → k ≤ sumTo c k
  | 0, _ => Nat.le_refl _
  | k + 1, h => by
    have := sumTo_ge (c := c) k fun d hd => h d (by omega)
    have := h k (Nat.lt_succ_self _)
    rw [sumTo]; omega
theorem off_sum {n s f : Int} (hs : 0 ≤ s) (hs1 : s < n + 1) (hf0 : 0 ≤ f) (hf1 : f < n + 1) (hne : ¬ s = f) : 1 ≤ off (n + 1) s f ∧ off (n + 1) s f ≤ n ∧ off (n + 1) s f + off (n + 1) f s = n + 1 := by
  unfold off
  by_cases h : s < f
  · rw [if_pos (Int.le_of_lt h), if_neg (Int.not_le.mpr h)]; omega
  · rw [if_neg (by omega), if_pos (Int.not_lt.mp h)]; omega
theorem off_apart {n s f x : Int} (hs : 0 ≤ s) (hs1 : s < n + 1) (hf0 : 0 ≤ f) (hf1 : f < n + 1) (hx : 0 ≤ x) (hx1 : x < n + 1) (q1 : 1 ≤ off (n + 1) s x ∧ off (n + 1) s x ≤ off (n + 1) s f)
    (q2 : 1 ≤ off (n + 1) f x ∧ off (n + 1) f x ≤ off (n + 1) f s) : False := by
  unfold off at q1 q2
  (repeat' split at q1) <;> (repeat' split at q2) <;> omega
section
variable {ws : List Int} {f : Int} (hw : InR ws.length ws) (hf0 : 0 ≤ f) (hf1 : f < (ws.length : Int) + 1) (hfT : f ∉ tableOf ws) (hall : ∀ x : Int, 0 ≤ x → x < (ws.length : Int) + 1 → x ≠ f → x ∈ tableOf ws)
include hw hf0 hf1 hfT
/-- no car passes the free spot: its spot lies behind its wish, seen from there -/
theorem car_off {c : Nat} {x t : Int} (hx : ws[c]? = some x) (ht : (tableOf ws)[c]? = some t) :
    1 ≤ off ((ws.length : Int) + 1) f x ∧ off ((ws.length : Int) + 1) f x ≤ off ((ws.length : Int) + 1) f t ∧ off ((ws.length : Int) + 1) f x ≤ (ws.length : Int) := by
  obtain ⟨j, t', hj, ht', et, hnt, hpass⟩ := table_car hw hx
  rw [ht] at ht'
  obtain rfl := Option.some.inj ht'
  have hx' := hw x (List.mem_of_getElem? hx)
  have htT : t ∈ tableOf ws := List.mem_of_getElem? ht
  have hnf : ∀ i : Nat, i ≤ j → (x + i) % ((ws.length : Int) + 1) ≠ f := fun i hi q => by
    by_cases hij : i < j
    · exact hfT (q ▸ List.mem_of_mem_take (hpass i hij))
    · obtain rfl : i = j := by omega
      rw [← et] at q
      exact hfT (q ▸ htT)
  have ha : 0 ≤ off ((ws.length : Int) + 1) f x ∧ off ((ws.length : Int) + 1) f x < (ws.length : Int) + 1 := by unfold off; split <;> omega
  have hback := add_of_off hf0 hf1 hx'.1 hx'.2 rfl
  generalize off ((ws.length : Int) + 1) f x = a at ha hback ⊢
  have h1 : 1 ≤ a := by
    refine Classical.byContradiction fun hc => ?_
    have h0 : a = 0 := by omega
    rw [h0, Int.add_zero, Int.emod_eq_of_lt hf0 hf1] at hback
    refine hnf 0 (Nat.zero_le _) ?_
    simp
    rw [Int.emod_eq_of_lt hx'.1 hx'.2]; exact hback.symm
  have h2 : a + j < (ws.length : Int) + 1 := by
    refine Classical.byContradiction fun hc => ?_
    refine hnf (((ws.length : Int) + 1) - a).toNat (by omega) ?_
    rw [Int.toNat_of_nonneg (by omega), ← hback, Int.emod_add_emod, show f + a + ((ws.length : Int) + 1 - a) = f + ((ws.length : Int) + 1) by omega, Int.add_emod_right, Int.emod_eq_of_lt hf0 hf1]
  have h3 : off ((ws.length : Int) + 1) f t = a + j := by
    have : t = (f + (a + j)) % ((ws.length : Int) + 1) := by
      rw [et, ← hback, Int.emod_add_emod]; congr 1; omega
    rw [this, off_of_add hf0 hf1 (by omega) (by omega)]
  omega
include hall
theorem arc_free {k : Nat} (hk : k ≤ ws.length) : k ≤ ws.countP (fun x => decide (1 ≤ off ((ws.length : Int) + 1) f x ∧ off ((ws.length : Int) + 1) f x ≤ (k : Int))) := by
  have hp := table_props hw
  have h1 := sumTo_count (ws := tableOf ws) (n := ws.length) hp.2.2 hf0 hf1 k hk
  have h2 := sumTo_ge (c := fun d : Nat => (tableOf ws).count ((f + ((d : Int) + 1)) % ((ws.length : Int) + 1))) k fun d hd => by
    refine List.count_pos_iff.mpr (hall _ (Int.emod_nonneg _ (by omega)) (Int.emod_lt_of_pos _ (by omega)) fun q => ?_)
    have := off_of_add (N := (ws.length : Int) + 1) (s := f) (d := (d : Int) + 1) hf0 hf1 (by omega) (by omega)
    rw [q] at this
    unfold off at this
    simp at this
    omega
  have h3 := countP_le_of (p := fun x => decide (1 ≤ off ((ws.length : Int) + 1) f x ∧ off ((ws.length : Int) + 1) f x ≤ (k : Int))) (q := fun x => decide (1 ≤ off ((ws.length : Int) + 1) f x ∧ off ((ws.length : Int) + 1) f x ≤ (k : Int)))
    ws (tableOf ws) hp.1.symm fun c x t hx ht hq => by
      have := car_off hw hf0 hf1 hfT hx ht
      have hq := of_decide_eq_true hq
      exact decide_eq_true (by omega)
  omega
/-- THE CYCLE LEMMA: the brackets that go round from s close just for the free spot -/
theorem cycle {s : Int} (hs : 0 ≤ s) (hs1 : s < (ws.length : Int) + 1) :
    bal ((List.range' 0 ws.length).map fun d : Nat => ws.count ((s + ((d : Int) + 1)) % ((ws.length : Int) + 1))) 0 = true ↔ s = f := by
  rw [bal_map (fun d : Nat => ws.count ((s + ((d : Int) + 1)) % ((ws.length : Int) + 1)))]
  simp only [Nat.zero_add, sumTo]
  constructor
  · rintro ⟨h1, _⟩
    refine Classical.byContradiction fun hne => ?_
    have hk := off_sum hs hs1 hf0 hf1 hne
    obtain ⟨k, ek⟩ : ∃ k : Nat, off ((ws.length : Int) + 1) s f = k := ⟨(off ((ws.length : Int) + 1) s f).toNat, by omega⟩
    obtain ⟨m, em⟩ : ∃ m : Nat, off ((ws.length : Int) + 1) f s = m := ⟨(off ((ws.length : Int) + 1) f s).toNat, by omega⟩
    have a1 := h1 k (by omega) (by omega)
    rw [sumTo_count hw hs hs1 k (by omega)] at a1
    have a2 := arc_free hw hf0 hf1 hfT hall (k := m) (by omega)
    have a3 := countP_or (p := fun x => decide (1 ≤ off ((ws.length : Int) + 1) s x ∧ off ((ws.length : Int) + 1) s x ≤ (k : Int))) (q := fun x => decide (1 ≤ off ((ws.length : Int) + 1) f x ∧ off ((ws.length : Int) + 1) f x ≤ (m : Int))) ws fun x hx => by
      rintro ⟨q1, q2⟩
      have q1 := of_decide_eq_true q1
      have q2 := of_decide_eq_true q2
      have hx' := hw x hx
      rw [← ek] at q1
      rw [← em] at q2
      exact off_apart hs hs1 hf0 hf1 hx'.1 hx'.2 q1 q2
    have a4 := List.countP_le_length (p := fun x => decide (1 ≤ off ((ws.length : Int) + 1) s x ∧ off ((ws.length : Int) + 1) s x ≤ (k : Int)) || decide (1 ≤ off ((ws.length : Int) + 1) f x ∧ off ((ws.length : Int) + 1) f x ≤ (m : Int))) (l := ws)
    omega
  · rintro rfl
    refine ⟨fun k hk1 hk2 => ?_, ?_⟩
    · have := arc_free hw hs hs1 hfT hall (k := k) hk2
      rw [sumTo_count hw hs hs1 k hk2]
      omega
    · rw [sumTo_count hw hs hs1 ws.length (Nat.le_refl _)]
      have : ws.countP (fun x => decide (1 ≤ off ((ws.length : Int) + 1) s x ∧ off ((ws.length : Int) + 1) s x ≤ (ws.length : Int))) = ws.length := by
        refine List.countP_eq_length.mpr fun x hx => ?_
        obtain ⟨c, hc⟩ := List.getElem?_of_mem hx
        have hlt : c < ws.length := (List.getElem?_eq_some_iff.mp hc).1
        have hp := table_props hw
        have := car_off hw hs hs1 hfT hc (List.getElem?_eq_getElem (by rw [hp.1]; exact hlt))
        exact decide_eq_true (by omega)
      omega
end
end Part_P5
section Part_P6
theorem anew_P6 : True := by k_with_none; w_top off; trivial
open PySem
set_option linter.unusedVariables false
noncomputable def upd {α : Type} (f : Int → α) (k : Int) (v : α) : Int → α := fun x => if x = k then v else f x
/-- the successors of a node that is done -/
noncomputable def decs : List Int → (Int → Int) → List Int → (Int → Int) × List Int
  | [], np, r => (np, r)
  | v :: vs, np, r => decs vs (upd np v (np v - 1)) (if np v - 1 = 0 then r ++ [v] else r)
theorem decs_spec : ∀ (vs : List Int) (np : Int → Int) (r : List Int), (∀ x ∈ vs, (vs.count x : Int) ≤ np x) → (∀ x ∈ vs, x ∉ r) → r.Nodup →
    (∀ x, (decs vs np r).1 x = np x - (vs.count x : Int)) ∧ (∀ x, x ∈ (decs vs np r).2 ↔ x ∈ r ∨ (x ∈ vs ∧ np x = (vs.count x : Int))) ∧ (decs vs np r).2.Nodup
  | [], np, r, _, _, hn => ⟨fun x => by simp [decs], fun x => by simp [decs], hn⟩
  | v :: vs, np, r, h, hr, hn => by
    have hv := h v (.head _)
    rw [List.count_cons_self] at hv
    push_cast at hv
    have h' : ∀ x ∈ vs, (vs.count x : Int) ≤ upd np v (np v - 1) x := fun x hx => by
      unfold upd
      by_cases q : x = v
      · subst q; rw [if_pos rfl]; omega
      · rw [if_neg q]
        have := h x (.tail _ hx)
        rw [List.count_cons_of_ne (Ne.symm q)] at this
        exact this
    have hz : np v - 1 = 0 → vs.count v = 0 := fun q => by omega
    have hr' : ∀ x ∈ vs, x ∉ (if np v - 1 = 0 then r ++ [v] else r) := fun x hx => by
      split
      · rename_i q
        intro hm
        rcases List.mem_append.mp hm with hm | hm
        · exact hr x (.tail _ hx) hm
        · rw [List.mem_singleton.mp hm] at hx
          have := List.count_pos_iff.mpr hx
          have := hz q
          omega
      · exact hr x (.tail _ hx)
    have hn' : (if np v - 1 = 0 then r ++ [v] else r).Nodup := by
      split
      · refine List.nodup_append.mpr ⟨hn, by simp, fun a ha b hb => ?_⟩
        rw [List.mem_singleton.mp hb]
        exact fun q => hr v (.head _) (q ▸ ha)
      · exact hn
    obtain ⟨i1, i2, i3⟩ := decs_spec vs (upd np v (np v - 1)) _ h' hr' hn'
    refine ⟨fun x => ?_, fun x => ?_, i3⟩
    · show (decs vs (upd np v (np v - 1)) _).1 x = _
      rw [i1]
      unfold upd
      by_cases q : x = v
      · subst q; rw [if_pos rfl, List.count_cons_self]; push_cast; omega
      · rw [if_neg q, List.count_cons_of_ne (Ne.symm q)]
    · show x ∈ (decs vs (upd np v (np v - 1)) _).2 ↔ _
      rw [i2]
      unfold upd
      by_cases q : x = v
      · subst q
        rw [if_pos rfl, List.count_cons_self]
        push_cast
        constructor
        · rintro (hm | ⟨hm, he⟩)
          · split at hm
            · rename_i q0
              have := hz q0
              rcases List.mem_append.mp hm with hm | hm
              · exact .inl hm
              · exact .inr ⟨.head _, by omega⟩
            · exact .inl hm
          · exact .inr ⟨.head _, by omega⟩
        · rintro (hm | ⟨_, he⟩)
          · exact absurd hm (hr x (.head _))
          · by_cases hin : x ∈ vs
            · exact .inr ⟨hin, by omega⟩
            · have : vs.count x = 0 := List.count_eq_zero.mpr hin
              rw [if_pos (by omega)]
              exact .inl (List.mem_append_right _ (.head _))
      · rw [if_neg q, List.count_cons_of_ne (Ne.symm q)]
        have e : (x ∈ if np v - 1 = 0 then r ++ [v] else r) ↔ x ∈ r := by
          split
          · rw [List.mem_append, List.mem_singleton]
            exact ⟨fun h => h.resolve_right q, .inl⟩
          · exact Iff.rfl
        rw [e, List.mem_cons]
        constructor
        · rintro (hm | ⟨hm, he⟩)
          · exact .inl hm
          · exact .inr ⟨.inr hm, he⟩
        · rintro (hm | ⟨hm, he⟩)
          · exact .inl hm
          · exact .inr ⟨hm.resolve_left q, he⟩
end Part_P6
section Part_P7
theorem anew_P7 : True := by k_with_none; w_top off; trivial
open PySem
set_option linter.unusedVariables false
/-- how many edges come to v from keys that are not in S -/
noncomputable def deg (keys : List Int) (succ : Int → List Int) (S : List Int) (v : Int) : Nat := ((keys.filter fun u => decide (u ∉ S)).map fun u => (succ u).count v).sum
theorem deg_snoc {succ : Int → List Int} {S : List Int} {u v : Int} (hS : u ∉ S) : ∀ {keys : List Int}, keys.Nodup → u ∈ keys → deg keys succ S v = deg keys succ (S ++ [u]) v + (succ u).count v
  | [], _, h => nomatch h
  | k :: keys, hn, h => by
    have hn' := List.nodup_cons.mp hn
    unfold deg
    by_cases q : k = u
    · subst q
      have e : keys.filter (fun x => decide (x ∉ S ++ [k])) = keys.filter fun x => decide (x ∉ S) := by
        refine List.filter_congr fun x hx => ?_
        have : x ≠ k := fun z => hn'.1 (z ▸ hx)
        simp [this]
      rw [List.filter_cons_of_pos (by simpa using hS), List.filter_cons_of_neg (by simp), e]
      simp
      omega
    · have hu : u ∈ keys := (List.mem_cons.mp h).resolve_left (Ne.symm q)
      have ih := deg_snoc (succ := succ) (v := v) hS hn'.2 hu
      unfold deg at ih
      by_cases hk : k ∈ S
      · rw [List.filter_cons_of_neg (by simpa using hk), List.filter_cons_of_neg (by simp [hk])]
        exact ih
      · rw [List.filter_cons_of_pos (by simpa using hk), List.filter_cons_of_pos (by simp [hk, q])]
        simp only [List.map_cons, List.sum_cons]
        omega
theorem deg_zero {succ : Int → List Int} {S : List Int} {v : Int} : ∀ {keys : List Int}, deg keys succ S v = 0 ↔ ∀ u ∈ keys, u ∉ S → v ∉ succ u
  | [] => by simp [deg]
  | k :: keys => by
    have ih := deg_zero (succ := succ) (S := S) (v := v) (keys := keys)
    unfold deg at ih ⊢
    by_cases hk : k ∈ S
    · rw [List.filter_cons_of_neg (by simpa using hk), ih]
      constructor
      · intro h u hu hS
        rcases List.mem_cons.mp hu with rfl | hu
        · exact absurd hk hS
        · exact h u hu hS
      · exact fun h u hu => h u (.tail _ hu)
    · rw [List.filter_cons_of_pos (by simpa using hk)]
      simp only [List.map_cons, List.sum_cons, Nat.add_eq_zero_iff]
      rw [ih, List.count_eq_zero]
      constructor
      · rintro ⟨h1, h2⟩ u hu hS
        rcases List.mem_cons.mp hu with rfl | hu
        · exact h1
        · exact h2 u hu hS
      · exact fun h => ⟨h k (.head _) hk, fun u hu => h u (.tail _ hu)⟩
noncomputable def doneAll (succ : Int → List Int) : List Int → (Int → Int) → List Int → (Int → Int) × List Int
  | [], np, r => (np, r)
  | u :: us, np, r => doneAll succ us (decs (succ u) (upd np u (-2)) r).1 (decs (succ u) (upd np u (-2)) r).2
/-- within a round: R is handed out, dn of it is done -/
structure InRound (keys : List Int) (succ : Int → List Int) (S R dn rest : List Int) (np : Int → Int) (r : List Int) : Prop where
  split : R = dn ++ rest
  np_free : ∀ x ∈ keys, x ∉ S → x ∉ R → np x = (deg keys succ (S ++ dn) x : Int)
  np_out : ∀ x ∈ rest, np x = -1
  np_done : ∀ x, x ∈ S ∨ x ∈ dn → np x = -2
  nodup : r.Nodup
  mem : ∀ x, x ∈ r ↔ x ∈ keys ∧ x ∉ S ∧ x ∉ R ∧ deg keys succ (S ++ dn) x = 0
theorem InRound.step {keys : List Int} {succ : Int → List Int} {S R dn rest : List Int} {u : Int} {np : Int → Int} {r : List Int} (hk : keys.Nodup) (hsub : ∀ u ∈ keys, ∀ v ∈ succ u, v ∈ keys) (hn : (S ++ R).Nodup) (hR : ∀ x ∈ R, x ∈ keys)
    (hz : ∀ x, x ∈ S ∨ x ∈ R → deg keys succ S x = 0) (J : InRound keys succ S R dn (u :: rest) np r) :
    InRound keys succ S R (dn ++ [u]) rest (decs (succ u) (upd np u (-2)) r).1 (decs (succ u) (upd np u (-2)) r).2 := by
  have huR : u ∈ R := by rw [J.split]; exact List.mem_append_right _ (.head _)
  have huk := hR u huR
  have hnn := List.nodup_append.mp hn
  have huS : u ∉ S := fun q => hnn.2.2 u q u huR rfl
  have hndR := hnn.2.1
  rw [J.split] at hndR
  have hnd := List.nodup_append.mp hndR
  have hudn : u ∉ dn := fun q => hnd.2.2 u q u (.head _) rfl
  have hurest : u ∉ rest := (List.nodup_cons.mp hnd.2.1).1
  have huSd : u ∉ S ++ dn := fun q => (List.mem_append.mp q).elim huS hudn
  have e : ∀ x, deg keys succ (S ++ dn) x = deg keys succ (S ++ (dn ++ [u])) x + (succ u).count x := fun x => by
    rw [← List.append_assoc]; exact deg_snoc huSd hk huk
  have hv : ∀ x ∈ succ u, x ∈ keys ∧ x ∉ S ∧ x ∉ R := fun x hx => by
    refine ⟨hsub u huk x hx, fun q => ?_, fun q => ?_⟩
    · exact deg_zero.mp (hz x (.inl q)) u huk huS hx
    · exact deg_zero.mp (hz x (.inr q)) u huk huS hx
  have hne : ∀ x, x ∉ R → x ≠ u := fun x h q => h (q ▸ huR)
  have hc0 : ∀ x, x ∈ S ∨ x ∈ R → (succ u).count x = 0 := fun x hx => List.count_eq_zero.mpr fun q => hx.elim (hv x q).2.1 (hv x q).2.2
  have hup : ∀ x, x ≠ u → upd np u (-2) x = np x := fun x q => if_neg q
  obtain ⟨d1, d2, d3⟩ := decs_spec (succ u) (upd np u (-2)) r (fun x hx => by
      obtain ⟨a, b, c⟩ := hv x hx
      rw [hup x (hne x c), J.np_free x a b c, e x]; push_cast; omega) (fun x hx hm => by
      have := (J.mem x).mp hm
      have h2 := e x
      have := List.count_pos_iff.mpr hx
      omega) J.nodup
  refine ⟨by rw [J.split]; simp, fun x a b c => ?_, fun x hx => ?_, fun x hx => ?_, d3, fun x => ?_⟩
  · rw [d1, hup x (hne x c), J.np_free x a b c, e x]; push_cast; omega
  · have hxR : x ∈ R := by rw [J.split]; exact List.mem_append_right _ (.tail _ hx)
    have hxu : x ≠ u := fun q => hurest (q ▸ hx)
    rw [d1, hup x hxu, J.np_out x (.tail _ hx), hc0 x (.inr hxR)]; rfl
  · rw [d1]
    rcases hx with hx | hx
    · have hxu : x ≠ u := fun q => huS (q ▸ hx)
      rw [hup x hxu, J.np_done x (.inl hx), hc0 x (.inl hx)]; rfl
    · rcases List.mem_append.mp hx with hx | hx
      · have hxu : x ≠ u := fun q => hudn (q ▸ hx)
        have hxR : x ∈ R := by rw [J.split]; exact List.mem_append_left _ hx
        rw [hup x hxu, J.np_done x (.inr hx), hc0 x (.inr hxR)]; rfl
      · rw [List.mem_singleton.mp hx, hc0 u (.inr huR)]
        show upd np u (-2) u - 0 = -2
        rw [upd, if_pos rfl]; rfl
  · rw [d2, J.mem]
    have h2 := e x
    constructor
    · rintro (⟨a, b, c, z⟩ | ⟨hx, hq⟩)
      · exact ⟨a, b, c, by omega⟩
      · obtain ⟨a, b, c⟩ := hv x hx
        rw [hup x (hne x c), J.np_free x a b c] at hq
        exact ⟨a, b, c, by omega⟩
    · rintro ⟨a, b, c, z⟩
      by_cases hx : x ∈ succ u
      · refine .inr ⟨hx, ?_⟩
        rw [hup x (hne x c), J.np_free x a b c]
        omega
      · have := List.count_eq_zero.mpr hx
        exact .inl ⟨a, b, c, by omega⟩
end Part_P7
section Part_P8
theorem anew_P8 : True := by k_with_none; w_top off; trivial
open PySem
set_option linter.unusedVariables false
/-- between the rounds: S is handed out and done, R is ready -/
structure AtHead (keys : List Int) (succ : Int → List Int) (S R : List Int) (np : Int → Int) : Prop where
  nodup : (S ++ R).Nodup
  sub : ∀ x ∈ S, x ∈ keys
  np_free : ∀ x ∈ keys, x ∉ S → np x = (deg keys succ S x : Int)
  np_done : ∀ x ∈ S, np x = -2
  mem : ∀ x, x ∈ R ↔ x ∈ keys ∧ x ∉ S ∧ deg keys succ S x = 0
  zero : ∀ x ∈ S, deg keys succ S x = 0
  order : ∀ (t : Nat) (v : Int), S[t]? = some v → deg keys succ (S.take t) v = 0
noncomputable def outNp (R : List Int) (np : Int → Int) : Int → Int := fun x => if x ∈ R then -1 else np x
theorem deg_mono {succ : Int → List Int} {S S' : List Int} {keys : List Int} (h : ∀ x ∈ S, x ∈ S') {v : Int} (z : deg keys succ S v = 0) : deg keys succ S' v = 0 :=
  deg_zero.mpr fun u hu hS => deg_zero.mp z u hu fun q => hS (h u q)
theorem AtHead.opens {keys : List Int} {succ : Int → List Int} {S R : List Int} {np : Int → Int} (H : AtHead keys succ S R np) : InRound keys succ S R [] R (outNp R np) [] where
  split := rfl
  np_free := fun x a b c => by
    unfold outNp
    rw [if_neg c, H.np_free x a b, List.append_nil]
  np_out := fun x hx => if_pos hx
  np_done := fun x hx => by
    rcases hx with hx | hx
    · have hc : x ∉ R := fun q => (List.nodup_append.mp H.nodup).2.2 x hx x q rfl
      unfold outNp
      rw [if_neg hc, H.np_done x hx]
    · exact nomatch hx
  nodup := List.nodup_nil
  mem := fun x => by
    rw [List.append_nil]
    constructor
    · intro h; exact nomatch h
    · rintro ⟨a, b, c, d⟩
      exact absurd ((H.mem x).mpr ⟨a, b, d⟩) c
theorem InRound.all {keys : List Int} {succ : Int → List Int} {S R : List Int} (hk : keys.Nodup) (hsub : ∀ u ∈ keys, ∀ v ∈ succ u, v ∈ keys) (hn : (S ++ R).Nodup) (hR : ∀ x ∈ R, x ∈ keys)
    (hz : ∀ x, x ∈ S ∨ x ∈ R → deg keys succ S x = 0) : ∀ (rest dn : List Int) (np : Int → Int) (r : List Int), InRound keys succ S R dn rest np r → InRound keys succ S R R [] (doneAll succ rest np r).1 (doneAll succ rest np r).2
  | [], dn, np, r, J => by
    have e := J.split
    rw [List.append_nil] at e
    subst e
    exact J
  | u :: rest, dn, np, r, J => InRound.all hk hsub hn hR hz rest (dn ++ [u]) _ _ (J.step hk hsub hn hR hz)
theorem AtHead.hz {keys : List Int} {succ : Int → List Int} {S R : List Int} {np : Int → Int} (H : AtHead keys succ S R np) : ∀ x, x ∈ S ∨ x ∈ R → deg keys succ S x = 0 :=
  fun x h => h.elim (H.zero x) fun q => ((H.mem x).mp q).2.2
theorem AtHead.next {keys : List Int} {succ : Int → List Int} {S R : List Int} {np : Int → Int} (hk : keys.Nodup) (hsub : ∀ u ∈ keys, ∀ v ∈ succ u, v ∈ keys) (H : AtHead keys succ S R np) :
    AtHead keys succ (S ++ R) (doneAll succ R (outNp R np) []).2 (doneAll succ R (outNp R np) []).1 := by
  have hR : ∀ x ∈ R, x ∈ keys := fun x hx => ((H.mem x).mp hx).1
  have J := InRound.all hk hsub H.nodup hR H.hz R [] _ _ H.opens
  have hmono : ∀ {v : Int}, deg keys succ S v = 0 → deg keys succ (S ++ R) v = 0 := fun z => deg_mono (fun x hx => List.mem_append_left _ hx) z
  refine ⟨?_, fun x hx => (List.mem_append.mp hx).elim (H.sub x) (hR x), fun x a b => ?_, fun x hx => J.np_done x (List.mem_append.mp hx), fun x => ?_, fun x hx => hmono (H.hz x (List.mem_append.mp hx)), fun t v ht => ?_⟩
  · refine List.nodup_append.mpr ⟨H.nodup, J.nodup, fun x hx y hy q => ?_⟩
    subst q
    obtain ⟨_, b, c, _⟩ := (J.mem x).mp hy
    exact (List.mem_append.mp hx).elim b c
  · exact J.np_free x a (fun q => b (List.mem_append_left _ q)) fun q => b (List.mem_append_right _ q)
  · rw [J.mem]
    constructor
    · rintro ⟨a, b, c, d⟩
      exact ⟨a, fun q => (List.mem_append.mp q).elim b c, d⟩
    · rintro ⟨a, b, d⟩
      exact ⟨a, fun q => b (List.mem_append_left _ q), fun q => b (List.mem_append_right _ q), d⟩
  · by_cases hl : t < S.length
    · rw [List.getElem?_append_left hl] at ht
      rw [List.take_append_of_le_length (by omega)]
      exact H.order t v ht
    · rw [List.getElem?_append_right (by omega)] at ht
      have hv := ((H.mem v).mp (List.mem_of_getElem? ht)).2.2
      refine deg_mono (fun x hx => ?_) hv
      rw [List.take_append]
      refine List.mem_append_left _ ?_
      rw [List.take_of_length_le (by omega)]
      exact hx
/-- the start: behind prepare -/
theorem AtHead.start {keys : List Int} {succ : Int → List Int} {np : Int → Int} (hk : keys.Nodup) (hnp : ∀ x ∈ keys, np x = (deg keys succ [] x : Int)) : AtHead keys succ [] (keys.filter fun x => decide (np x = 0)) np where
  nodup := by rw [List.nil_append]; exact hk.filter _
  sub := fun x hx => nomatch hx
  np_free := fun x hx _ => hnp x hx
  np_done := fun x hx => nomatch hx
  mem := fun x => by
    rw [List.mem_filter, decide_eq_true_eq]
    constructor
    · rintro ⟨a, b⟩
      have := hnp x a
      exact ⟨a, fun q => (nomatch q), by omega⟩
    · rintro ⟨a, _, b⟩
      have := hnp x a
      exact ⟨a, by omega⟩
  zero := fun x hx => nomatch hx
  order := fun t v ht => by simp at ht
/-- what is known when no node is ready any more -/
theorem AtHead.fin {keys : List Int} {succ : Int → List Int} {S : List Int} {np : Int → Int} (H : AtHead keys succ S [] np) : ∀ x ∈ keys, x ∉ S → ∃ u ∈ keys, u ∉ S ∧ x ∈ succ u := fun x hx hS => by
  refine Classical.byContradiction fun hc => ?_
  have : deg keys succ S x = 0 := deg_zero.mpr fun u hu hu' q => hc ⟨u, hu, hu', q⟩
  exact nomatch (H.mem x).mpr ⟨hx, hS, this⟩
theorem AtHead.before {keys : List Int} {succ : Int → List Int} {S R : List Int} {np : Int → Int} (H : AtHead keys succ S R np) {t : Nat} {v : Int} (ht : S[t]? = some v) : ∀ u ∈ keys, v ∈ succ u → u ∈ S.take t := fun u hu hv =>
  Classical.byContradiction fun q => deg_zero.mp (H.order t v ht) u hu q hv
end Part_P8
section Part_P9
theorem anew_P9 : True := by k_with_none; w_top off; trivial
open PySem
set_option linter.unusedVariables false
/-- a way along edges, of one edge or more -/
inductive Way (keys : List Int) (succ : Int → List Int) : Int → Int → Prop where
  | one {u v : Int} : u ∈ keys → v ∈ succ u → Way keys succ u v
  | more {u v x : Int} : u ∈ keys → v ∈ succ u → Way keys succ v x → Way keys succ u x
theorem Way.snoc {keys : List Int} {succ : Int → List Int} {a b c : Int} (h : Way keys succ a b) (hb : b ∈ keys) (hc : c ∈ succ b) : Way keys succ a c := by
  induction h with
  | one hu hv => exact .more hu hv (.one hb hc)
  | more hu hv _ ih => exact .more hu hv (ih hb hc)
theorem AtHead.way {keys : List Int} {succ : Int → List Int} {S R : List Int} {np : Int → Int} (H : AtHead keys succ S R np) {a b : Int} (h : Way keys succ a b) : ∀ {t : Nat}, S[t]? = some b → ∃ t', t' < t ∧ S[t']? = some a := by
  have one : ∀ {u v : Int} {t : Nat}, u ∈ keys → v ∈ succ u → S[t]? = some v → ∃ t', t' < t ∧ S[t']? = some u := fun {u v t} hu hv ht => by
    have := H.before ht u hu hv
    obtain ⟨i, hi⟩ := List.getElem?_of_mem this
    rw [List.getElem?_take] at hi
    split at hi
    · rename_i h; exact ⟨i, h, hi⟩
    · cases hi
  induction h with
  | one hu hv => exact fun ht => one hu hv ht
  | more hu hv _ ih =>
    intro t ht
    obtain ⟨t', h1, h2⟩ := ih ht
    obtain ⟨t'', h3, h4⟩ := one hu hv h2
    exact ⟨t'', by omega, h4⟩
/-- a node on a round way is never handed out -/
theorem AtHead.round {keys : List Int} {succ : Int → List Int} {S R : List Int} {np : Int → Int} (H : AtHead keys succ S R np) {a : Int} (h : Way keys succ a a) : a ∉ S := fun ha => by
  obtain ⟨t, ht⟩ := List.getElem?_of_mem ha
  obtain ⟨t', h1, h2⟩ := H.way h ht
  have hn := (List.nodup_append.mp H.nodup).1
  have l1 := (List.getElem?_eq_some_iff.mp ht)
  have l2 := (List.getElem?_eq_some_iff.mp h2)
  obtain ⟨l1, e1⟩ := l1
  obtain ⟨l2, e2⟩ := l2
  exact (List.pairwise_iff_getElem.mp hn) t' t l2 l1 h1 (e2.trans e1.symm)
/-- where a rank falls along all edges, all are handed out -/
theorem AtHead.allOut {keys : List Int} {succ : Int → List Int} {S : List Int} {np : Int → Int} (H : AtHead keys succ S [] np) (rank : Int → Nat) (hr : ∀ u ∈ keys, ∀ v ∈ succ u, rank v < rank u) : ∀ x ∈ keys, x ∈ S := by
  have bound : ∃ M : Nat, ∀ x ∈ keys, rank x ≤ M := by
    clear H hr
    induction keys with
    | nil => exact ⟨0, fun x hx => nomatch hx⟩
    | cons k keys ih =>
      obtain ⟨M, hM⟩ := ih
      exact ⟨M + rank k, fun x hx => by
        rcases List.mem_cons.mp hx with rfl | hx
        · omega
        · have := hM x hx; omega⟩
  obtain ⟨M, hM⟩ := bound
  have key : ∀ d : Nat, ∀ x ∈ keys, M - rank x ≤ d → x ∈ S := by
    intro d
    induction d with
    | zero =>
      intro x hx hd
      refine Classical.byContradiction fun hS => ?_
      obtain ⟨u, hu, _, hv⟩ := H.fin x hx hS
      have := hr u hu x hv
      have := hM u hu
      omega
    | succ d ih =>
      intro x hx hd
      refine Classical.byContradiction fun hS => ?_
      obtain ⟨u, hu, huS, hv⟩ := H.fin x hx hS
      have h1 := hr u hu x hv
      have h2 := hM u hu
      exact huS (ih u hu (by omega))
  exact fun x hx => key _ x hx (Nat.le_refl _)
end Part_P9
section Part_P10
theorem anew_P10 : True := by k_with_none; w_top off; trivial
open PySem
set_option linter.unusedVariables false
noncomputable def PathF (succ : Int → List Int) (fin : List Int) : Option Int → List (Int × Nat) → Prop
  | _, [] => True
  | e, f :: r => (∀ y ∈ (succ f.1).take f.2, y ∈ fin ∨ e = some y) ∧ (∀ y, e = some y → y ∈ succ f.1) ∧ PathF succ fin (some f.1) r
noncomputable def FinOk (succ : Int → List Int) : List Int → Prop
  | [] => True
  | x :: r => (∀ y ∈ succ x, y ∈ r) ∧ FinOk succ r
/-- a search in depth: fs is on the stack (the top first), fin is left (the last first), e is looked at -/
structure Dfs (keys : List Int) (succ : Int → List Int) (fs : List (Int × Nat)) (fin : List Int) (e : Option Int) : Prop where
  path : PathF succ fin e fs
  finOk : FinOk succ fin
  nodup : (fs.map (·.1) ++ fin).Nodup
  sub : ∀ x ∈ fs.map (·.1) ++ fin, x ∈ keys
section
variable {keys : List Int} {succ : Int → List Int} {fs r : List (Int × Nat)} {fin : List Int} {k y : Int} {j : Nat}
theorem PathF.mono {fin' : List Int} (h : ∀ x ∈ fin, x ∈ fin') : ∀ {e : Option Int} {fs : List (Int × Nat)}, PathF succ fin e fs → PathF succ fin' e fs
  | _, [], _ => trivial
  | e, f :: r, p => ⟨fun y hy => (p.1 y hy).imp (h y) id, p.2.1, PathF.mono h p.2.2⟩
theorem PathF.left {e : Int} (h : e ∈ fin) : ∀ {fs : List (Int × Nat)}, PathF succ fin (some e) fs → PathF succ fin none fs
  | [], _ => trivial
  | f :: r, p => ⟨fun y hy => (p.1 y hy).elim .inl fun q => .inl (by rw [← Option.some.inj q]; exact h), fun y q => (nomatch q), p.2.2⟩
theorem Dfs.start (hk : k ∈ keys) (hf : FinOk succ fin) (hn : fin.Nodup) (hs : ∀ x ∈ fin, x ∈ keys) : Dfs keys succ [] fin (some k) := ⟨trivial, hf, by simpa using hn, by simpa using hs⟩
theorem Dfs.take (D : Dfs keys succ ((k, j) :: r) fin none) (h : (succ k)[j]? = some y) : Dfs keys succ ((k, j + 1) :: r) fin (some y) := by
  refine ⟨⟨fun z hz => ?_, fun z q => ?_, D.path.2.2⟩, D.finOk, D.nodup, D.sub⟩
  · have hz' : z ∈ (succ k).take (j + 1) := hz
    rw [List.take_add_one, h] at hz'
    rcases List.mem_append.mp hz' with q | q
    · exact .inl ((D.path.1 z q).resolve_right fun q => nomatch q)
    · right
      have : z = y := by simpa using q
      rw [this]
  · rw [← Option.some.inj q]
    exact List.mem_of_getElem? h
theorem Dfs.seen (D : Dfs keys succ fs fin (some y)) (h : y ∈ fin) : Dfs keys succ fs fin none := ⟨D.path.left h, D.finOk, D.nodup, D.sub⟩
theorem Dfs.push (D : Dfs keys succ fs fin (some y)) (h1 : y ∉ fs.map (·.1)) (h2 : y ∉ fin) (hk : y ∈ keys) : Dfs keys succ ((y, 0) :: fs) fin none := by
  refine ⟨⟨fun z hz => ?_, fun z q => (nomatch q), D.path⟩, D.finOk, ?_, fun x hx => ?_⟩
  · have : z ∈ (succ y).take 0 := hz
    rw [List.take_zero] at this
    exact nomatch this
  · refine List.nodup_cons.mpr ⟨fun q => ?_, D.nodup⟩
    exact (List.mem_append.mp q).elim h1 h2
  · rcases List.mem_cons.mp hx with rfl | hx
    · exact hk
    · exact D.sub x hx
theorem Dfs.pop (D : Dfs keys succ ((k, j) :: r) fin none) (h : (succ k).length ≤ j) : Dfs keys succ r (k :: fin) none := by
  have hall : ∀ y ∈ succ k, y ∈ fin := fun y hy => (D.path.1 y (by show y ∈ (succ k).take j; rw [List.take_of_length_le h]; exact hy)).resolve_right fun q => nomatch q
  have hp : ((k :: r.map (·.1)) ++ fin).Nodup := D.nodup
  have hperm : List.Perm ((k :: r.map (·.1)) ++ fin) (r.map (·.1) ++ k :: fin) := by
    show List.Perm (k :: (r.map (·.1) ++ fin)) _
    exact (List.perm_middle).symm
  refine ⟨?_, ⟨hall, D.finOk⟩, hperm.nodup_iff.mp hp, fun x hx => D.sub x (hperm.mem_iff.mpr hx)⟩
  exact PathF.left (.head _) (PathF.mono (fun x hx => .tail _ hx) D.path.2.2)
theorem path_way : ∀ {fs : List (Int × Nat)} {e : Int}, (∀ x ∈ fs.map (·.1), x ∈ keys) → PathF succ fin (some e) fs → ∀ x ∈ fs.map (·.1), Way keys succ x e
  | [], _, _, _, _, hx => nomatch hx
  | f :: r, e, hs, p, x, hx => by
    have hf := p.2.1 e rfl
    have hfk := hs f.1 (.head _)
    rcases List.mem_cons.mp hx with rfl | hx
    · exact .one hfk hf
    · exact (path_way (fun z hz => hs z (.tail _ hz)) p.2.2 x hx).snoc hfk hf
theorem Dfs.cycle (D : Dfs keys succ fs fin (some y)) (h : y ∈ fs.map (·.1)) : Way keys succ y y :=
  path_way (fun x hx => D.sub x (List.mem_append_left _ hx)) D.path y h
theorem finOk_tail : ∀ {a : List Int} {x : Int} {b : List Int}, FinOk succ (a ++ x :: b) → ∀ y ∈ succ x, y ∈ b
  | [], _, _, h => h.1
  | _ :: a, _, _, h => finOk_tail h.2
noncomputable def rankIn (fin : List Int) (x : Int) : Nat := (fin.dropWhile fun z => decide (z ≠ x)).length
theorem rankIn_at : ∀ {a : List Int} {x : Int} {b : List Int}, x ∉ a → rankIn (a ++ x :: b) x = b.length + 1
  | [], x, b, _ => by simp [rankIn]
  | z :: a, x, b, h => by
    have hz : z ≠ x := fun q => h (q ▸ .head _)
    have := rankIn_at (a := a) (x := x) (b := b) fun q => h (.tail _ q)
    unfold rankIn at this ⊢
    rw [List.cons_append, List.dropWhile_cons, if_pos (by simpa using hz)]
    exact this
theorem Dfs.rank (D : Dfs keys succ [] fin none) (h : ∀ x ∈ keys, x ∈ fin) : ∃ rk : Int → Nat, ∀ u ∈ keys, ∀ v ∈ succ u, rk v < rk u := by
  refine ⟨rankIn fin, fun u hu v hv => ?_⟩
  have hn : fin.Nodup := by simpa using D.nodup
  have hfin := D.finOk
  obtain ⟨a, b, e⟩ := List.append_of_mem (h u hu)
  subst e
  have hvb := finOk_tail hfin v hv
  obtain ⟨c, d, e2⟩ := List.append_of_mem hvb
  subst e2
  have hn1 := List.nodup_append.mp hn
  have hua : u ∉ a := fun q => hn1.2.2 u q u (.head _) rfl
  rw [rankIn_at hua]
  have e3 : a ++ u :: (c ++ v :: d) = (a ++ u :: c) ++ v :: d := by simp
  rw [e3]
  rw [e3] at hn
  have hn2 := List.nodup_append.mp hn
  have hva : v ∉ a ++ u :: c := fun q => hn2.2.2 v q v (.head _) rfl
  rw [rankIn_at hva]
  simp only [List.length_append, List.length_cons]
  omega
end
end Part_P10
section Part_M14a
theorem rules_M14a : True := by
  k_with_none
  w_top off
  k_with "m mine list" => first | exact isL (by k_asm) (by k_mem) | exact isB (by k_asm) (by assumption)
  k_with "m call builtin:len" => (k_here; (try dsimp only); (with_reducible show wpAny _ _ (call (Value.builtin "len") [Value.ref _]) _ _ _); k_dflt (refine' len_L ?zqk1 ?zqk3 ?zqk4 ?_; (case zqk1 => walk_at "mine list"); (case zqk3 => assumption); (case zqk4 => omega)))
  k_with "m subscriptTail" => (k_here; (try dsimp only); (with_reducible show wpAny _ _ (subscriptTail _ _ (Value.ref _) (Value.int _ _)) _ _ _); k_dflt (first | (refine' item_L ?zqk1 ?zqk3 ?zqk4 ?zqk5 ?zqk6 ?_ ?zqk8; (case zqk1 => walk_at "mine list"); (case zqk3 => assumption); (case zqk5 => with_reducible assumption); (case zqk4 => omega); (case zqk6 => omega); (case zqk8 => with_unfolding_all rfl); k_whole; intro t9) | (refine' out_L ?zqk0 ?zqk1 ?zqk3 ?zqk4 ?zqk5 ?_ ?zqk8; (case zqk0 => first | rfl | assumption); (case zqk1 => walk_at "mine list"); (case zqk3 => assumption); (case zqk4 => omega); (case zqk5 => omega); (case zqk8 => with_unfolding_all rfl); k_whole; intro h9 tk9 e9 x9)))
  k_with "m subscriptTail Name Name ref int" => (k_here; (try dsimp only); (with_reducible show wpAny _ _ (subscriptTail _ _ (Value.ref _) (Value.int _ _)) _ _ _); k_dflt (first | (refine' item_L ?zqk1 ?zqk3 ?zqk4 ?zqk5 ?zqk6 ?_ ?zqk8; (case zqk1 => walk_at "mine list"); (case zqk3 => assumption); (case zqk5 => with_reducible assumption); (case zqk4 => omega); (case zqk6 => omega); (case zqk8 => with_unfolding_all rfl); k_whole; intro t9) | (refine' out_L ?zqk0 ?zqk1 ?zqk3 ?zqk4 ?zqk5 ?_ ?zqk8; (case zqk0 => first | rfl | assumption); (case zqk1 => walk_at "mine list"); (case zqk3 => assumption); (case zqk4 => omega); (case zqk5 => omega); (case zqk8 => with_unfolding_all rfl); k_whole; intro h9 tk9 e9 x9) | (refine' out_over ?zqk0 ?zqkN ?zqkm ?zqkb ?zqk1 ?zqk3 ?zqk4 ?zqk5 ?_ ?zqk8; (case zqk0 => rfl); (case zqkN => k_asm); (case zqkm => k_mem); (case zqkb => assumption); (case zqk1 => walk_at "mine list"); (case zqk3 => assumption); (case zqk4 => omega); (case zqk5 => omega); (case zqk8 => with_unfolding_all rfl); k_whole; intro h9 tk9 e9 x9)))
  k_with "m subscriptTail Name Slice ref ref" => (k_here; k_dflt (refine' kmk_slice_ints ?zqF ?zqN ?zql ?zqpl ?zqpu ?zqhi ?zqhm rfl ?_ ?zqhs ?zqht ?zqhz; (case zqF => k_asm); (case zqN => k_asm); (case zql => walk_at "mine list"); (case zqpl => kmk_part); (case zqpu => kmk_part); (case zqhi => assumption); (case zqhm => first | (with_reducible refine kmk_from (by assumption) ?_; omega) | (with_reducible refine kmk_upto (by assumption) ?_; omega) | with_reducible exact kmk_all (by assumption)); (case zqhs => with_unfolding_all rfl); (case zqht => kmk_pure); (case zqhz => exact kmk_sz (by assumption) (by simp only [sizeLine_eq]; omega)); k_whole; intro D9 ws9 h9 F9 N9 l9 I9 e9 e9'; (try k_lt l9)))
  k_with "m call builtin:list.extend" => (k_here; k_dflt (refine' extend_L ?zqF ?zqN ?zqm ?zqU ?zqi1 ?zqi2 ?zqz ?_; (case zqF => k_asm); (case zqN => k_asm); (case zqU => k_upd); (case zqm => k_mem); (case zqi1 => walk_at "mine ints"); (case zqi2 => walk_at "mine ints"); (case zqz => walk_at "mine len"); k_whole; intro h9 F9 N9 I9))
  k_with "m mine len" => first | omega | (simp only [List.length_append, List.length_drop, List.length_take, List.length_nil, List.length_cons] at *; omega)
  k_with "m mine ints" => first | exact IntsAre.nil | assumption
  k_with "m compareOp In int ref" => (k_here; (try dsimp only); k_dflt (refine' in_L ?zqm ?zqi ?_; (case zqm => walk_at "mine list"); (case zqi => assumption)))
  trivial
theorem fillM14a (w : World) (h : Heap) : PySem.Challenge.rw_oh0070_01.foot = 5 → (hd.heap_1 w.params).In h → True := by
  k_fill
  intro _ _
  trivial
structure Fm where
  key : Int
  kt : Tok
  bm : Addr
  it : Addr
  nd : Nd
  j : Nat
noncomputable def fmObjs : List Fm → List (Addr × Obj)
  | [] => []
  | f :: fs => (f.bm, bmOf f.it) :: (f.it, itOf f.nd.l f.j) :: fmObjs fs
noncomputable def stk (fs : List Fm) : List Value := fs.reverse.map fun f => Value.int f.key f.kt
noncomputable def itk (fs : List Fm) : List Value := fs.reverse.map fun f => Value.ref f.bm
noncomputable def fks (fs : List Fm) : List Int := fs.map (·.key)
noncomputable def fpk (fs : List Fm) : List (Int × Nat) := fs.map fun f => (f.key, f.j)
theorem stk_cons (f : Fm) (fs : List Fm) : stk (f :: fs) = stk fs ++ [Value.int f.key f.kt] := by simp [stk]
theorem itk_cons (f : Fm) (fs : List Fm) : itk (f :: fs) = itk fs ++ [Value.ref f.bm] := by simp [itk]
theorem stk_ints (fs : List Fm) : IntsAre (stk fs) (fks fs).reverse := by
  induction fs with
  | nil => exact .nil
  | cons f fs ih =>
    rw [stk_cons]
    have : (fks (f :: fs)).reverse = (fks fs).reverse ++ [f.key] := by simp [fks]
    rw [this]
    exact ints_snoc ih _ _
structure Fst where
  fs : List Fm
  fin : List Int
  od : Obj
  os : Obj
  sn : Nat
  pv : List (Int × Value)
  vi : Nat
  vt : Nat
  frs : List (Addr × Obj)
noncomputable abbrev Fst.led (w : World) (S : So) (ld ls li lt : Addr) (c : Fst) : List (Addr × Obj) := (ld, c.od) :: (ls, c.os) :: (li, listOf (itk c.fs).toArray c.vi) :: (lt, listOf (stk c.fs).toArray c.vt) :: (fmObjs c.fs ++ (S.objs w ++ c.frs))
structure FInv (w : World) (S : So) (l : List Env) (frs₀ : List (Addr × Obj)) (ld ls li lt : Addr) (c : Fst) (e : Option Int) : Prop where
  nodup : ((c.led w S ld ls li lt).map (·.1)).Nodup
  dict : c.od.IsDictOf (intKind PySem.Challenge.rw_oh0070_01.row.prog w) c.pv
  sset : c.os.SetObjOf (intKind PySem.Challenge.rw_oh0070_01.row.prog w) (fun x => decide (x ∈ fks c.fs ++ c.fin)) c.sn
  count : c.sn = c.fs.length + c.fin.length
  pvLen : c.pv.length = c.fs.length
  pvAt : ∀ (i : Nat) (k : Int), (fks c.fs).reverse[i]? = some k → ∃ t, c.pv[i]? = some (k, Value.int i t)
  nds : ∀ f ∈ c.fs, f.nd ∈ S.nodes ∧ f.nd.key = f.key
  dfs : Dfs (S.nodes.map (·.key)) (succAt S.view) (fpk c.fs) c.fin e
  up : TI.SameUp frs₀ c.frs
  frsOk : TI.Frs l c.frs
noncomputable def fmu (S : So) (c : Fst) : Nat := ((S.nodes.filter fun n => decide (n.key ∉ fks c.fs ++ c.fin)).map fun n => n.succ.length + 1).sum + (c.fs.map fun f => f.nd.succ.length - f.j).sum
theorem in_Sb {prog : Program} {w : World} {A : Around} {E : Value → Shared → Prop} {s : Shared} {h₀ : Heap} {L sa : Addr} {news : List (Addr × Obj)} {so : Obj} {S : Int → Bool} {n : Nat} {k : Int} {t : Tok} {b : Bool} {Q : Value → Shared → Prop} (N : News h₀ L s.heap news) (hm : (sa, so) ∈ news) (hso : so.SetObjOf (intKind prog w) S n) (hb : n < 60) (hv : S k = b)
    (h : Q (.bool b) { s with toks := s.toks + 1 }) : wpAny (model prog w) A (compareOp .In (.int k t) (.ref sa)) Q E s := in_S N hm hso hb (by rw [hv]; exact h)
theorem len_sub : ∀ (l k : List Int), l.Nodup → (∀ x ∈ l, x ∈ k) → l.length ≤ k.length
  | [], _, _, _ => Nat.zero_le _
  | x :: l, k, hn, h => by
    have hn' := List.nodup_cons.mp hn
    have hx := h x (.head _)
    have := len_sub l (k.erase x) hn'.2 fun y hy => (List.mem_erase_of_ne (fun q : y = x => hn'.1 (by rw [← q]; exact hy))).mpr (h y (.tail _ hy))
    rw [List.length_erase_of_mem hx] at this
    have := List.length_pos_of_mem hx
    rw [List.length_cons]; omega
theorem FInv.small {w : World} {S : So} {l : List Env} {frs₀ : List (Addr × Obj)} {ld ls li lt : Addr} {c : Fst} {e : Option Int} (I : FInv w S l frs₀ ld ls li lt c e) (h : S.nodes.length ≤ 50) : c.sn < 60 ∧ c.fs.length ≤ 50 := by
  have h1 := len_sub _ _ I.dfs.nodup I.dfs.sub
  have h2 := I.count
  simp only [List.length_append, List.length_map, fpk] at h1
  omega
theorem nodup_top {a : Addr} {o : Obj} {L : List (Addr × Obj)} (h : AllLt a L) (n : (L.map (·.1)).Nodup) : (((a, o) :: L).map (·.1)).Nodup := by
  refine List.nodup_cons.mpr ⟨fun q => ?_, n⟩
  obtain ⟨p, hp, e⟩ := List.mem_map.mp q
  exact ne_of_allLt h p hp e
theorem leadS {prog : Program} {w : World} {base h : Heap} {L a : Addr} {o : Obj} {p : Addr × Obj} {news : List (Addr × Obj)} {f : Int → Bool} {n : Nat} (N : News base L h (p :: (a, o) :: news)) (hs : o.SetObjOf (intKind prog w) f n) : ∃ os, News base L h (p :: (a, os) :: news) ∧ os.SetObjOf (intKind prog w) f n := ⟨o, N, hs⟩
theorem leadD {prog : Program} {w : World} {base h : Heap} {L a : Addr} {o : Obj} {news : List (Addr × Obj)} {kvs : List (Int × Value)} (N : News base L h ((a, o) :: news)) (hs : o.IsDictOf (intKind prog w) kvs) : ∃ od, News base L h ((a, od) :: news) ∧ od.IsDictOf (intKind prog w) kvs := ⟨o, N, hs⟩
theorem valueAt_get : ∀ {pv : List (Int × Value)} {i : Nat} {k : Int} {v : Value}, (pv.map (·.1)).Nodup → pv[i]? = some (k, v) → valueAt pv k = some v
  | [], i, _, _, _, h => by simp at h
  | (k', v') :: pv, 0, k, v, _, h => by
    have e : (k', v') = (k, v) := Option.some.inj h
    cases e
    simp [valueAt]
  | (k', v') :: pv, i + 1, k, v, hn, h => by
    have hn' := List.nodup_cons.mp hn
    have h' : pv[i]? = some (k, v) := by simpa using h
    have hne : k' ≠ k := fun q => hn'.1 (by
      have h1 : k' ∈ pv.map (·.1) := List.mem_map.mpr ⟨(k, v), List.mem_of_getElem? h', q.symm⟩
      exact h1)
    have := valueAt_get hn'.2 h'
    unfold valueAt at this ⊢
    rw [List.find?_cons]
    simp only [hne, decide_false]
    exact this
theorem FInv.pvIn {w : World} {S : So} {l : List Env} {frs₀ : List (Addr × Obj)} {ld ls li lt : Addr} {c : Fst} {e : Option Int} (I : FInv w S l frs₀ ld ls li lt c e) {k : Int} (h : k ∈ fks c.fs) : ∃ i t, i < c.fs.length ∧ valueAt c.pv k = some (.int (i : Nat) t) := by
  have hr : k ∈ (fks c.fs).reverse := List.mem_reverse.mpr h
  obtain ⟨i, hi⟩ := List.getElem?_of_mem hr
  obtain ⟨t, ht⟩ := I.pvAt i k hi
  obtain ⟨es, ep, _, _, _, _, hn⟩ := I.dict
  refine ⟨i, t, ?_, valueAt_get hn ht⟩
  have := (List.getElem?_eq_some_iff.mp hi).1
  simpa [fks] using this
theorem FInv.pvOut {w : World} {S : So} {l : List Env} {frs₀ : List (Addr × Obj)} {ld ls li lt : Addr} {c : Fst} {e : Option Int} (I : FInv w S l frs₀ ld ls li lt c e) {k : Int} (h : k ∉ fks c.fs) : valueAt c.pv k = none := by
  unfold valueAt
  rw [List.find?_eq_none.mpr, Option.map_none]
  intro kv hkv
  obtain ⟨i, hi⟩ := List.getElem?_of_mem hkv
  have hlt := (List.getElem?_eq_some_iff.mp hi).1
  rw [I.pvLen] at hlt
  have hr : i < (fks c.fs).reverse.length := by simpa [fks] using hlt
  obtain ⟨t, ht⟩ := I.pvAt i ((fks c.fs).reverse[i]) (List.getElem?_eq_getElem hr)
  rw [hi] at ht
  have e := Option.some.inj ht
  have : kv.1 ≠ k := fun q => h (by
    rw [e] at q
    rw [← q]
    exact List.mem_reverse.mp (List.getElem_mem hr))
  simpa using this
theorem execs_cut {prog : Program} {w : World} {A : Around} {E : Value → Shared → Prop} {s : Shared} {env : Env} {st : Stmt} {rest : List Stmt} {Q : Flow → Shared → Prop} (Mid : Shared → Prop)
    (h1 : wpAny (model prog w) A (exec st env) (fun f s' => match f with | .next => Mid s' | f => Q f s') E s) (h2 : ∀ s', Mid s' → wpAny (model prog w) A (execs rest env) Q E s') : wpAny (model prog w) A (execs (st :: rest) env) Q E s :=
  wpAny_execs_cons (wpAny_mono h1 (fun f s' h => by cases f <;> first | exact h2 s' h | exact h) fun _ _ x => x)
/-- where the search stands behind a look at a node -/
noncomputable def FMid (w : World) (S : So) (l : List Env) (frs : List (Addr × Obj)) (ld ls li lt I : Addr) (oI : Obj) (base : Heap) (L : Addr) (s : Shared) (mu : Nat) (fin0 : List Int) (k : Int) (s' : Shared) : Prop :=
  ∃ c3 h tk m, s' = { s with heap := h, toks := tk } ∧ Fr base L h m ∧ (∀ p ∈ [(Str.ofString "n2i", Value.ref S.d), (Str.ofString "stack", Value.ref lt), (Str.ofString "itstack", Value.ref li), (Str.ofString "seen", Value.ref ls), (Str.ofString "node2stacki", Value.ref ld)], m p.1 = some p.2) ∧
    News base L h ((I, oI) :: Fst.led w S ld ls li lt c3) ∧ FInv w S l frs ld ls li lt c3 none ∧ (∀ p ∈ Fst.led w S ld ls li lt c3, p.1 ≠ I) ∧ fmu S c3 ≤ mu ∧ (∀ x ∈ fin0, x ∈ c3.fin) ∧ k ∈ fks c3.fs ++ c3.fin
theorem FInv.pushed {w : World} {S : So} {l : List Env} {frs₀ : List (Addr × Obj)} {ld ls li lt I B : Addr} {od os : Obj} {c : Fst} {k : Int} {t tt : Tok} {nd : Nd} {n : Nat} (V : FInv w S l frs₀ ld ls li lt c (some k)) (hA : k ∉ fks c.fs) (hB : k ∉ c.fin) (hk : k ∈ S.nodes.map (·.key)) (hnd : nd ∈ S.nodes) (hnk : nd.key = k)
    (hs : os.SetObjOf (intKind PySem.Challenge.rw_oh0070_01.row.prog w) (fun k' => decide (k' ∈ fks c.fs ++ c.fin) || decide (k' = k)) n) (hn : n = c.sn + 1) (hd : od.IsDictOf (intKind PySem.Challenge.rw_oh0070_01.row.prog w) (stored c.pv k (Value.int ((fks c.fs).reverse.length : Nat) tt)))
    (l1 : I < B) (l2 : AllLt I ((Fst.led w S ld ls li lt c))) (l3 : AllLt B (Fst.led w S ld ls li lt c)) :
    FInv w S l frs₀ ld ls li lt ⟨⟨k, t, B, I, nd, 0⟩ :: c.fs, c.fin, od, os, n, c.pv ++ [(k, Value.int ((fks c.fs).reverse.length : Nat) tt)], c.vi + 1, c.vt + 1, c.frs⟩ none := by
  have hfpk : (fpk c.fs).map (·.1) = fks c.fs := by unfold fpk fks; rw [List.map_map]; rfl
  refine ⟨?_, ?_, ?_, ?_, ?_, ?_, ?_, ?_, V.up, V.frsOk⟩
  · have hn0 := V.nodup
    have hp : List.Perm ((Fst.led w S ld ls li lt ⟨⟨k, t, B, I, nd, 0⟩ :: c.fs, c.fin, od, os, n, c.pv ++ [(k, Value.int ((fks c.fs).reverse.length : Nat) tt)], c.vi + 1, c.vt + 1, c.frs⟩).map (·.1)) (B :: I :: (Fst.led w S ld ls li lt c).map (·.1)) := by
      show List.Perm (ld :: ls :: li :: lt :: B :: I :: (fmObjs c.fs ++ (S.objs w ++ c.frs)).map (·.1)) (B :: I :: ld :: ls :: li :: lt :: (fmObjs c.fs ++ (S.objs w ++ c.frs)).map (·.1))
      have e1 := List.perm_middle (a := B) (l₁ := [ld, ls, li, lt]) (l₂ := I :: (fmObjs c.fs ++ (S.objs w ++ c.frs)).map (·.1))
      have e2 := List.perm_middle (a := I) (l₁ := [ld, ls, li, lt]) (l₂ := (fmObjs c.fs ++ (S.objs w ++ c.frs)).map (·.1))
      exact e1.trans (List.Perm.cons B e2)
    rw [hp.nodup_iff]
    refine List.nodup_cons.mpr ⟨fun q => ?_, List.nodup_cons.mpr ⟨fun q => ?_, hn0⟩⟩
    · rcases List.mem_cons.mp q with q | q
      · exact absurd l1 (q ▸ Nat.lt_irrefl _)
      · obtain ⟨p, hp, e⟩ := List.mem_map.mp q
        exact ne_of_allLt l3 p hp e
    · obtain ⟨p, hp, e⟩ := List.mem_map.mp q
      exact ne_of_allLt l2 p hp e
  · show od.IsDictOf _ (c.pv ++ [_])
    have : stored c.pv k (Value.int ((fks c.fs).reverse.length : Nat) tt) = c.pv ++ [(k, Value.int ((fks c.fs).reverse.length : Nat) tt)] := by
      unfold stored
      rw [if_neg]
      have hv := V.pvOut hA
      unfold valueAt at hv
      rw [Option.map_eq_none_iff, List.find?_eq_none] at hv
      simp only [List.any_eq_true, not_exists, not_and]
      exact fun kv hkv => hv kv hkv
    rw [this] at hd
    exact hd
  · show os.SetObjOf _ (fun x => decide (x ∈ fks (⟨k, t, B, I, nd, 0⟩ :: c.fs) ++ c.fin)) n
    have e : (fun x : Int => decide (x ∈ fks (⟨k, t, B, I, nd, 0⟩ :: c.fs) ++ c.fin)) = fun k' => decide (k' ∈ fks c.fs ++ c.fin) || decide (k' = k) := by
      funext x
      have : (x ∈ fks (⟨k, t, B, I, nd, 0⟩ :: c.fs) ++ c.fin) ↔ (x ∈ fks c.fs ++ c.fin ∨ x = k) := by
        simp only [fks, List.map_cons, List.cons_append, List.mem_cons]
        exact Or.comm
      rw [Bool.eq_iff_iff]
      simp only [decide_eq_true_eq, Bool.or_eq_true]
      exact this
    rw [e]; exact hs
  · show n = (⟨k, t, B, I, nd, 0⟩ :: c.fs).length + c.fin.length
    rw [hn, V.count, List.length_cons]; omega
  · show (c.pv ++ [_]).length = (⟨k, t, B, I, nd, 0⟩ :: c.fs).length
    rw [List.length_append, V.pvLen]; rfl
  · intro i k' hi
    have e : (fks (⟨k, t, B, I, nd, 0⟩ :: c.fs)).reverse = (fks c.fs).reverse ++ [k] := by simp [fks]
    have hi' : ((fks c.fs).reverse ++ [k])[i]? = some k' := by rw [← e]; exact hi
    have hle : (fks c.fs).reverse.length = c.pv.length := by rw [V.pvLen]; simp [fks]
    by_cases hlt : i < (fks c.fs).reverse.length
    · rw [List.getElem?_append_left hlt] at hi'
      obtain ⟨t', ht'⟩ := V.pvAt i k' hi'
      exact ⟨t', by show (c.pv ++ [_])[i]? = _; rw [List.getElem?_append_left (by omega)]; exact ht'⟩
    · rw [List.getElem?_append_right (by omega)] at hi'
      have h0 : i - (fks c.fs).reverse.length = 0 := by
        cases q : i - (fks c.fs).reverse.length with
        | zero => rfl
        | succ m => rw [q] at hi'; simp at hi'
      rw [h0] at hi'
      have hk' : k = k' := by simpa using hi'
      have hi0 : i = (fks c.fs).reverse.length := by omega
      refine ⟨tt, ?_⟩
      show (c.pv ++ [(k, Value.int ((fks c.fs).reverse.length : Nat) tt)])[i]? = _
      rw [List.getElem?_append_right (by omega), hi0, hle, Nat.sub_self, ← hk']; rfl
  · intro f hf
    rcases List.mem_cons.mp hf with rfl | hf
    · exact ⟨hnd, hnk⟩
    · exact V.nds f hf
  · exact V.dfs.push (by rw [hfpk]; exact hA) hB hk
theorem sum_filter {f : Nd → Nat} {k : Int} {A : List Int} (hk : k ∉ A) : ∀ {ns : List Nd} {nd : Nd}, (ns.map (·.key)).Nodup → nd ∈ ns → nd.key = k →
    ((ns.filter fun n => decide (n.key ∉ A)).map f).sum = ((ns.filter fun n => decide (n.key ∉ k :: A)).map f).sum + f nd
  | [], _, _, h, _ => nomatch h
  | n :: ns, nd, hn, hm, he => by
    have hn' := List.nodup_cons.mp hn
    rcases List.mem_cons.mp hm with rfl | hm
    · have h1 : ns.filter (fun n => decide (n.key ∉ k :: A)) = ns.filter fun n => decide (n.key ∉ A) := by
        refine List.filter_congr fun x hx => ?_
        have : x.key ≠ k := fun q => hn'.1 (by
          have h2 : nd.key ∈ ns.map (·.key) := List.mem_map.mpr ⟨x, hx, q.trans he.symm⟩
          exact h2)
        simp [this]
      rw [List.filter_cons_of_pos (by rw [he]; simpa using hk), List.filter_cons_of_neg (by simp [he]), h1, List.map_cons, List.sum_cons]
      omega
    · have hne : n.key ≠ k := fun q => hn'.1 (by
        have h2 : n.key ∈ ns.map (·.key) := List.mem_map.mpr ⟨nd, hm, he.trans q.symm⟩
        exact h2)
      have ih := sum_filter (f := f) hk hn'.2 hm he
      by_cases hA : n.key ∈ A
      · rw [List.filter_cons_of_neg (by simpa using hA), List.filter_cons_of_neg (by simp [hA])]
        exact ih
      · rw [List.filter_cons_of_pos (by simpa using hA), List.filter_cons_of_pos (by simp [hA, hne]), List.map_cons, List.map_cons, List.sum_cons, List.sum_cons]
        omega
theorem mu_push {w : World} {S : So} (O : S.Ok w) {c c' : Fst} {k : Int} {nd : Nd} (hA : k ∉ fks c.fs) (hB : k ∉ c.fin) (hnd : nd ∈ S.nodes) (hnk : nd.key = k) (hfs : ∃ t B I, c'.fs = ⟨k, t, B, I, nd, 0⟩ :: c.fs) (hfin : c'.fin = c.fin) : fmu S c' + 1 = fmu S c := by
  obtain ⟨t, B, I, hfs⟩ := hfs
  unfold fmu
  rw [hfs, hfin]
  have h1 := sum_filter (f := fun n => n.succ.length + 1) (k := k) (A := fks c.fs ++ c.fin) (fun q => (List.mem_append.mp q).elim hA hB) O.keys hnd hnk
  have e : fks (⟨k, t, B, I, nd, 0⟩ :: c.fs) ++ c.fin = k :: (fks c.fs ++ c.fin) := rfl
  rw [e, List.map_cons, List.sum_cons]
  simp only [Nat.sub_zero]
  omega
theorem mu_take {S : So} {c c' : Fst} {f : Fm} {rest : List Fm} (h1 : c.fs = f :: rest) (h2 : c'.fs = { f with j := f.j + 1 } :: rest) (hfin : c'.fin = c.fin) (hj : f.j < f.nd.succ.length) : fmu S c' + 1 = fmu S c := by
  unfold fmu
  rw [h1, h2, hfin]
  have e : fks ({ f with j := f.j + 1 } :: rest) = fks (f :: rest) := rfl
  rw [e, List.map_cons, List.map_cons, List.sum_cons, List.sum_cons]
  show _ + (f.nd.succ.length - (f.j + 1) + _) + 1 = _
  omega
theorem mu_pop {S : So} {c c' : Fst} {f : Fm} {rest : List Fm} (h1 : c.fs = f :: rest) (h2 : c'.fs = rest) (hfin : c'.fin = f.key :: c.fin) : fmu S c' ≤ fmu S c := by
  unfold fmu
  rw [h1, h2, hfin]
  have e : (S.nodes.filter fun n => decide (n.key ∉ fks rest ++ f.key :: c.fin)) = S.nodes.filter fun n => decide (n.key ∉ fks (f :: rest) ++ c.fin) := by
    refine List.filter_congr fun x _ => ?_
    have : x.key ∈ fks rest ++ f.key :: c.fin ↔ x.key ∈ fks (f :: rest) ++ c.fin := by
      simp only [fks, List.map_cons, List.cons_append, List.mem_append, List.mem_cons]
      constructor
      · rintro (h | h | h)
        · exact .inr (.inl h)
        · exact .inl h
        · exact .inr (.inr h)
      · rintro (h | h | h)
        · exact .inr (.inl h)
        · exact .inl h
        · exact .inr (.inr h)
    simp only [this]
  rw [e, List.map_cons, List.sum_cons]
  omega
theorem truthy_R {prog : Program} {w : World} {A : Around} {E : Value → Shared → Prop} {s : Shared} {h₀ : Heap} {L D : Addr} {news : List (Addr × Obj)} {n : Nat} {p : List Value} {y : Value} {Q : Bool → Shared → Prop} (N : News h₀ L s.heap news) (hm : (D, listOf (p ++ [y]).toArray n) ∈ news) (hz : p.length ≤ 1000) (h : Q true { s with toks := s.toks + 1 + 1 }) :
    wpAny (model prog w) A (truthy (.ref D)) Q E s :=
  wpAny_truthy_list (isL N hm) (by simp; omega) (by have e : (!((p ++ [y]).toArray).isEmpty) = true := by simp
                                                    rw [e]; exact h)
theorem keeps_bm {M : Model} {bm it : Addr} (h : Heap) (X : h.get? bm = some (bmOf it)) : ∃ k, (k = Keeper.frame ∨ k = Keeper.machine ∨ k = Keeper.boundFrame) ∧ Looks M h (keeperOf (.ref bm)) k :=
  ⟨.machine, .inr (.inl rfl), (Looks.ld (part := none) X).andThen .now⟩
theorem callWith_bm {M : Model} {A : Around} {E : Value → Shared → Prop} {s : Shared} {env : Env} {pos : Pos} {h₀ : Heap} {L bm it : Addr} {news : List (Addr × Obj)} {Q : Value → Shared → Prop} (N : News h₀ L s.heap news) (hm : (bm, bmOf it) ∈ news) (h : wpAny M A (call (.ref bm) []) Q E s) :
    wpAny M A (callWith pos (.ref bm) [] (backTo pos (starEach [] env)) []) Q E s :=
  callWith_of (first := []) rfl (fun h X => keeps_bm (it := it) h X) (evalArgs_nil3 ⟨(N _ hm).1, h⟩)
end Part_M14a
section Part_M14b
theorem anew_M14b : True := by k_with_none; w_top off; trivial
theorem ints_ne {ci : List Value} {a : List Int} {k : Int} (h : IntsAre ci (a ++ [k])) : ci ≠ [] := by
  intro q
  have e := h.length
  rw [q] at e
  simp at e
theorem without_last : ∀ (ks : List Int) (pv : List (Int × Value)) (k : Int), pv.map (·.1) = ks ++ [k] → k ∉ ks → without pv k = pv.take ks.length
  | [], pv, k, h, _ => by
    cases pv with
    | nil => cases h
    | cons p pv =>
      rw [List.map_cons, List.nil_append] at h
      have h1 := (List.cons.inj h).1
      have h2 : pv = [] := List.map_eq_nil_iff.mp (List.cons.inj h).2
      subst h2
      unfold without
      rw [List.filter_cons_of_neg (by simpa using h1)]; rfl
  | a :: ks, pv, k, h, hk => by
    cases pv with
    | nil => cases h
    | cons p pv =>
      rw [List.map_cons, List.cons_append] at h
      have h1 := (List.cons.inj h).1
      have hk' : a ≠ k ∧ k ∉ ks := by
        rw [List.mem_cons, not_or] at hk
        exact ⟨Ne.symm hk.1, hk.2⟩
      have ih := without_last ks pv k (List.cons.inj h).2 hk'.2
      unfold without at ih ⊢
      rw [List.filter_cons_of_pos (by simpa [h1] using hk'.1), ih]; rfl
theorem FInv.pvKeys {w : World} {S : So} {l : List Env} {frs₀ : List (Addr × Obj)} {ld ls li lt : Addr} {c : Fst} {e : Option Int} (I : FInv w S l frs₀ ld ls li lt c e) : c.pv.map (·.1) = (fks c.fs).reverse := by
  refine List.ext_getElem? fun i => ?_
  by_cases hi : i < (fks c.fs).reverse.length
  · obtain ⟨t, ht⟩ := I.pvAt i _ (List.getElem?_eq_getElem hi)
    rw [List.getElem?_map, ht, List.getElem?_eq_getElem hi]; rfl
  · have h1 : (fks c.fs).reverse.length = c.fs.length := by rw [List.length_reverse]; unfold fks; rw [List.length_map]
    rw [List.getElem?_eq_none (by rw [List.length_map, I.pvLen]; omega), List.getElem?_eq_none (by omega)]
theorem FInv.popped {w : World} {S : So} {l : List Env} {frs₀ frs' : List (Addr × Obj)} {ld ls li lt : Addr} {od : Obj} {c : Fst} {f : Fm} {rest : List Fm} (vi vt : Nat) (V : FInv w S l frs₀ ld ls li lt c none) (hf : c.fs = f :: rest)
    (hd : od.IsDictOf (intKind PySem.Challenge.rw_oh0070_01.row.prog w) (without c.pv f.key)) (hj : (succAt S.view f.key).length ≤ f.j) (SU : TI.SameUp c.frs frs') (Fs : TI.Frs l frs') :
    FInv w S l frs₀ ld ls li lt ⟨rest, f.key :: c.fin, od, c.os, c.sn, without c.pv f.key, vi, vt, frs'⟩ none := by
  have hrev : (fks c.fs).reverse = (fks rest).reverse ++ [f.key] := by rw [hf]; simp [fks]
  have hkeys := V.pvKeys
  rw [hrev] at hkeys
  have hdn : ((fks (f :: rest)) ++ c.fin).Nodup := by
    have := V.dfs.nodup
    rw [hf] at this
    have e : (fpk (f :: rest)).map (·.1) = fks (f :: rest) := by unfold fpk fks; rw [List.map_map]; rfl
    rw [e] at this
    exact this
  have hk0 : f.key ∉ fks rest := fun q => (List.nodup_cons.mp hdn).1 (List.mem_append_left _ q)
  have hw := without_last (fks rest).reverse c.pv f.key hkeys (fun q => hk0 (List.mem_reverse.mp q))
  have hl0 : (fks rest).reverse.length = rest.length := by rw [List.length_reverse]; unfold fks; rw [List.length_map]
  have hpl : c.pv.length = rest.length + 1 := by rw [V.pvLen, hf]; rfl
  refine ⟨?_, hd, ?_, ?_, ?_, ?_, ?_, ?_, TI.SameUp.trans V.up SU, Fs⟩
  · have hn0 := V.nodup
    have e1 : (Fst.led w S ld ls li lt ⟨rest, f.key :: c.fin, od, c.os, c.sn, without c.pv f.key, vi, vt, frs'⟩).map (·.1) = ld :: ls :: li :: lt :: ((fmObjs rest).map (·.1) ++ ((S.objs w).map (·.1) ++ c.frs.map (·.1))) := by
      rw [← sameUp_fst SU, ← List.map_append, ← List.map_append]; rfl
    have e2 : (Fst.led w S ld ls li lt c).map (·.1) = ld :: ls :: li :: lt :: f.bm :: f.it :: ((fmObjs rest).map (·.1) ++ ((S.objs w).map (·.1) ++ c.frs.map (·.1))) := by
      rw [← List.map_append, ← List.map_append]
      dsimp only [Fst.led]
      rw [hf]; rfl
    rw [e1]
    rw [e2] at hn0
    exact List.Nodup.sublist (((((((List.Sublist.refl _).cons _).cons _).cons_cons _).cons_cons _).cons_cons _).cons_cons _) hn0
  · show c.os.SetObjOf _ (fun x => decide (x ∈ fks rest ++ f.key :: c.fin)) c.sn
    have e : (fun x : Int => decide (x ∈ fks rest ++ f.key :: c.fin)) = fun x => decide (x ∈ fks c.fs ++ c.fin) := by
      funext x
      rw [hf]
      have : (x ∈ fks rest ++ f.key :: c.fin) ↔ (x ∈ fks (f :: rest) ++ c.fin) := by
        simp only [fks, List.map_cons, List.cons_append, List.mem_append, List.mem_cons]
        constructor
        · rintro (h | h | h)
          · exact .inr (.inl h)
          · exact .inl h
          · exact .inr (.inr h)
        · rintro (h | h | h)
          · exact .inr (.inl h)
          · exact .inl h
          · exact .inr (.inr h)
      simp only [this]
    rw [e]; exact V.sset
  · show c.sn = rest.length + (f.key :: c.fin).length
    rw [V.count, hf, List.length_cons, List.length_cons]; omega
  · show (without c.pv f.key).length = rest.length
    rw [hw, List.length_take, hl0, hpl]; omega
  · intro i k' hi
    have hi' : (fks rest).reverse[i]? = some k' := hi
    have hlt := (List.getElem?_eq_some_iff.mp hi').1
    obtain ⟨t, ht⟩ := V.pvAt i k' (by rw [hrev, List.getElem?_append_left hlt]; exact hi')
    refine ⟨t, ?_⟩
    show (without c.pv f.key)[i]? = _
    rw [hw, List.getElem?_take_of_lt hlt]; exact ht
  · intro g hg
    exact V.nds g (by rw [hf]; exact .tail _ hg)
  · have := V.dfs
    rw [hf] at this
    exact Dfs.pop (k := f.key) (j := f.j) this hj
end Part_M14b
section Part_M14
theorem rules_M14 : True := by
  k_with_none
  w_top off
  k_with "exec For Name Name cons nil" => refine parkAt (n := 0) (by with_reducible assumption) ?_
  k_with "m pyIter ref" => refine parkAt (n := 1) (by with_reducible assumption) ?_
  k_with "exec While Constant cons nil" => refine parkAt (n := 2) (by with_reducible assumption) ?_
  k_with "execs cons" => refine parkAt (n := 3) (by with_reducible assumption) ?_
  k_with "noteFrame ref" => refine parkAt (n := 4) (by with_reducible assumption) ?_
  k_with "m mine list" => first | exact isL (by k_asm) (by k_mem) | exact isB (by k_asm) (by assumption)
  k_with "m call builtin:len" => (k_here; (try dsimp only); (with_reducible show wpAny _ _ (call (Value.builtin "len") [Value.ref _]) _ _ _); k_dflt (refine' len_L ?zqk1 ?zqk3 ?zqk4 ?_; (case zqk1 => walk_at "mine list"); (case zqk3 => assumption); (case zqk4 => omega)))
  k_with "m subscriptTail" => (k_here; (try dsimp only); (with_reducible show wpAny _ _ (subscriptTail _ _ (Value.ref _) (Value.int _ _)) _ _ _); k_dflt (first | (refine' item_L ?zqk1 ?zqk3 ?zqk4 ?zqk5 ?zqk6 ?_ ?zqk8; (case zqk1 => walk_at "mine list"); (case zqk3 => assumption); (case zqk5 => with_reducible assumption); (case zqk4 => omega); (case zqk6 => omega); (case zqk8 => with_unfolding_all rfl); k_whole; intro t9) | (refine' out_L ?zqk0 ?zqk1 ?zqk3 ?zqk4 ?zqk5 ?_ ?zqk8; (case zqk0 => first | rfl | assumption); (case zqk1 => walk_at "mine list"); (case zqk3 => assumption); (case zqk4 => omega); (case zqk5 => omega); (case zqk8 => with_unfolding_all rfl); k_whole; intro h9 tk9 e9 x9)))
  k_with "m subscriptTail Name Name ref int" => (k_here; (try dsimp only); (with_reducible show wpAny _ _ (subscriptTail _ _ (Value.ref _) (Value.int _ _)) _ _ _); k_dflt (first | (refine' item_L ?zqk1 ?zqk3 ?zqk4 ?zqk5 ?zqk6 ?_ ?zqk8; (case zqk1 => walk_at "mine list"); (case zqk3 => assumption); (case zqk5 => with_reducible assumption); (case zqk4 => omega); (case zqk6 => omega); (case zqk8 => with_unfolding_all rfl); k_whole; intro t9) | (refine' out_L ?zqk0 ?zqk1 ?zqk3 ?zqk4 ?zqk5 ?_ ?zqk8; (case zqk0 => first | rfl | assumption); (case zqk1 => walk_at "mine list"); (case zqk3 => assumption); (case zqk4 => omega); (case zqk5 => omega); (case zqk8 => with_unfolding_all rfl); k_whole; intro h9 tk9 e9 x9) | (refine' out_over ?zqk0 ?zqkN ?zqkm ?zqkb ?zqk1 ?zqk3 ?zqk4 ?zqk5 ?_ ?zqk8; (case zqk0 => rfl); (case zqkN => k_asm); (case zqkm => k_mem); (case zqkb => assumption); (case zqk1 => walk_at "mine list"); (case zqk3 => assumption); (case zqk4 => omega); (case zqk5 => omega); (case zqk8 => with_unfolding_all rfl); k_whole; intro h9 tk9 e9 x9)))
  k_with "m subscriptTail Name Slice ref ref" => (k_here; k_dflt (refine' kmk_slice_ints ?zqF ?zqN ?zql ?zqpl ?zqpu ?zqhi ?zqhm rfl ?_ ?zqhs ?zqht ?zqhz; (case zqF => k_asm); (case zqN => k_asm); (case zql => walk_at "mine list"); (case zqpl => kmk_part); (case zqpu => kmk_part); (case zqhi => assumption); (case zqhm => first | (with_reducible refine kmk_from (by assumption) ?_; omega) | (with_reducible refine kmk_upto (by assumption) ?_; omega) | with_reducible exact kmk_all (by assumption)); (case zqhs => with_unfolding_all rfl); (case zqht => kmk_pure); (case zqhz => exact kmk_sz (by assumption) (by simp only [sizeLine_eq]; omega)); k_whole; intro D9 ws9 h9 F9 N9 l9 I9 e9 e9'; (try k_lt l9)))
  k_with "m call builtin:list.extend" => (k_here; k_dflt (refine' extend_L ?zqF ?zqN ?zqm ?zqU ?zqi1 ?zqi2 ?zqz ?_; (case zqF => k_asm); (case zqN => k_asm); (case zqU => k_upd); (case zqm => k_mem); (case zqi1 => walk_at "mine ints"); (case zqi2 => walk_at "mine ints"); (case zqz => walk_at "mine len"); k_whole; intro h9 F9 N9 I9))
  k_with "m mine len" => first | omega | (simp only [List.length_append, List.length_drop, List.length_take, List.length_nil, List.length_cons] at *; omega)
  k_with "m mine ints" => first | exact IntsAre.nil | assumption
  k_with "m compareOp In int ref" => (k_here; (try dsimp only); k_dflt (refine' in_L ?zqm ?zqi ?_; (case zqm => walk_at "mine list"); (case zqi => assumption)))
  k_with "m compareOp In int ref" => (k_here; (try dsimp only); k_dflt (first | (refine' in_Sb ?zqN ?zqm ?zqh ?zqb ?zqv ?_; (case zqN => k_asm); (case zqm => k_mem); (case zqh => assumption); (case zqb => omega); (case zqv => assumption)) | (refine' in_I ?zqN ?zqm ?zqh ?zql ?zqv ?_; (case zqN => k_asm); (case zqm => k_mem); (case zqh => assumption); (case zql => assumption); (case zqv => assumption))))
  k_with "m call builtin:set.add" => (k_here; (try dsimp only); (with_reducible show wpAny _ _ (call (Value.builtin "set.add") [Value.ref _, Value.int _ _]) _ _ _); k_dflt (refine' add_S ?zqF ?zqN ?zqU ?zqh ?zqb ?_; (case zqF => k_asm); (case zqN => k_asm); (case zqU => k_updF); (case zqh => assumption); (case zqb => omega); k_whole; intro h9 so9 F9 N9 S9))
  k_with "m call builtin:iter" => (k_here; (try dsimp only); (with_reducible show wpAny _ _ (call (Value.builtin "iter") [Value.ref _]) _ _ _); k_dflt (refine' iter_L ?zqF ?zqN ?zqm ?_; (case zqF => k_asm); (case zqN => k_asm); (case zqm => k_mem); k_whole; intro I9 h9 F9 N9 l9; (try k_lt l9)))
  k_with "m getAttr ref" => (k_here; (try dsimp only); (with_reducible show wpAny _ _ (getAttr (Value.ref _) (PySem.Str.ofString "__next__") _) _ _ _); k_dflt (refine' attr_next ?zqF ?zqN ?zqm ?_; (case zqF => k_asm); (case zqN => k_asm); (case zqm => k_mem); k_whole; intro B9 h9 tk9 F9 N9 l9; (try k_lt l9)))
  k_with "m subscriptTail Name Name ref int" => (k_here; (try dsimp only); (with_reducible show wpAny _ _ (subscriptTail _ _ (Value.ref _) (Value.int _ _)) _ _ _); k_dflt (refine' item_I ?zqN ?zqm ?zqh ?zqv ?_ ?zqa ?zqb; (case zqN => k_asm); (case zqm => k_mem); (case zqh => assumption); (case zqv => assumption); (case zqa => with_unfolding_all rfl); (case zqb => (intro _; with_unfolding_all rfl)); k_whole))
  k_with "m subscriptTail Name UnaryOp ref int" => (k_here; (try dsimp only); (with_reducible show wpAny _ _ (subscriptTail _ _ (Value.ref _) (Value.int _ _)) _ _ _); k_dflt (refine' last_R ?zqN ?zqm ?zqz ?_ ?zqa; (case zqN => k_asm); (case zqm => k_mem); (case zqz => assumption); (case zqa => with_unfolding_all rfl); k_whole))
  k_with "m truthy ref" => (k_here; (try dsimp only); (with_reducible show wpAny _ _ (truthy (Value.ref _)) _ _ _); k_dflt (refine' truthy_R ?zqN ?zqm ?zqz ?_; (case zqN => k_asm); (case zqm => k_mem); (case zqz => assumption); k_whole))
  k_with "m callWith ref" => (k_here; (try dsimp only); (with_reducible show wpAny _ _ (callWith _ (Value.ref _) [] (backTo _ (starEach [] _)) []) _ _ _); k_dflt (refine' callWith_bm ?zqN ?zqm ?_; (case zqN => k_asm); (case zqm => k_mem); k_whole))
  k_with "m callWith ref nil nil" => (k_here; (try dsimp only); (with_reducible show wpAny _ _ (callWith _ (Value.ref _) [] (backTo _ (starEach [] _)) []) _ _ _); k_dflt (refine' callWith_bm ?zqN ?zqm ?_; (case zqN => k_asm); (case zqm => k_mem); k_whole))
  k_with "m call ref" => (k_here; (try dsimp only); (with_reducible show wpAny _ _ (call (Value.ref _) []) _ _ _); k_dflt (refine' next_N ?zqF ?zqN ?zqb ?zql ?zqU ?zqx ?_; (case zqF => k_asm); (case zqN => k_asm); (case zqb => k_mem); (case zqU => k_upd); (case zql => k_mem); (case zqx => assumption); k_whole; intro h9 F9 N9))
  k_with "m setItem ref int" => (k_here; (try dsimp only); (with_reducible show wpAny _ _ (setItem (Value.ref _) (Value.int _ _) _) _ _ _); k_dflt (refine' set_I ?zqF ?zqN ?zqU ?zqh ?zqz ?_; (case zqF => k_asm); (case zqN => k_asm); (case zqU => first | assumption | k_updF); (case zqh => assumption); (case zqz => omega); k_whole; intro h9 o9 F9 N9 D9))
  k_with "m call builtin:list.pop" => (k_here; (try dsimp only); (with_reducible show wpAny _ _ (call (Value.builtin "list.pop") [Value.ref _]) _ _ _); k_dflt (refine' pop_R ?zqF ?zqN ?zqU ?zqz ?_; (case zqF => k_asm); (case zqN => k_asm); (case zqU => k_upd); (case zqz => assumption); k_whole; intro h9 F9 N9))
  trivial
theorem fillM14 (w : World) (h : Heap) : PySem.Challenge.rw_oh0070_01.foot = 5 → (hd.heap_1 w.params).In h → True := by
  k_fill
  intro _ _
  trivial
noncomputable abbrev find_cP := (World) × (ExcName → Option Value) × (Str → Option Value) × (Str → Option Value) × (Around) × (Heap) × (Shared) × (Value → Shared → Prop) × (Value → Shared → Prop) × (So) × (List Env) × (List (Addr × Obj))
noncomputable def find_cS : find_cP → Prop := fun p => (fun (w : World) (mean : ExcName → Option Value) (mg : Str → Option Value) (mb : Str → Option Value) (A : Around) (hb : Heap) (s : Shared) (Q : Value → Shared → Prop) (E : Value → Shared → Prop) (S : So) (l : List Env) (frs : List (Addr × Obj)) => ∀ (X : (hd.heap_1 w.params).In hb)
   (T : Top hd.view_1 (looseW hd.view_1 [Str.ofString "_NodeInfo"]) mean mg mb hb)
   (St : hb.StaysIn s.heap)
   (hfr : A.frames = some l)
   (Fs : TI.Frs l frs)
   (C : Pre hb s.heap (S.objs w ++ frs))
   (O : S.Ok w)
   (hh : A.handled = none)
   (hn50 : S.nodes.length ≤ 50)
   (hb1 : ∀ nd ∈ S.nodes, nd.its.length ≤ 10000)
   (hsucc : ∀ u ∈ S.nodes.map (·.key), ∀ v ∈ succAt S.view u, v ∈ S.nodes.map (·.key))
   (hd : A.depth + 5 < recursionLimit)
   (hret0 : ∀ frs' h' tk' (rk : Int → Nat), (∀ u ∈ S.nodes.map (·.key), ∀ v ∈ succAt S.view u, rk v < rk u) → TI.SameUp frs frs' → Post s.heap h' (S.objs w ++ frs) (S.objs w ++ frs') → Q .none { s with heap := h', toks := tk' })
   (hret1 : ∀ cl ci frs' h' tk' x, Way (S.nodes.map (·.key)) (succAt S.view) x x → ci ≠ [] → ci.length ≤ 1000 → TI.SameUp frs frs' → Post s.heap h' (S.objs w ++ frs) ((cl, listOf ci.toArray 0) :: (S.objs w ++ frs')) → Q (.ref cl) { s with heap := h', toks := tk' }),
    wpAny (model PySem.Challenge.rw_oh0070_01.row.prog w) A (call (.ref 155) [.ref S.x]) Q E s) p.1 p.2.1 p.2.2.1 p.2.2.2.1 p.2.2.2.2.1 p.2.2.2.2.2.1 p.2.2.2.2.2.2.1 p.2.2.2.2.2.2.2.1 p.2.2.2.2.2.2.2.2.1 p.2.2.2.2.2.2.2.2.2.1 p.2.2.2.2.2.2.2.2.2.2.1 p.2.2.2.2.2.2.2.2.2.2.2
noncomputable def find_cX : find_cP := @Classical.epsilon find_cP ⟨⟨⟨fun _ _ => 0, { strHash := fun _ => 0, shareClass := fun _ => 0, mergeTok := fun t => t, idOf := fun _ => 0, idOfShared := fun _ _ => 0, followText := fun _ => false, idOfImm := fun _ => 0 }⟩, fun _ => none, fun _ => none, fun _ => none, callerA, {}, {}, fun _ _ => True, fun _ _ => True, ⟨0, 0, 0, 0, 0, 0, 0, 0, { cls := .none, data := .plain }, .none, 0, 0, 0, 0, [], []⟩, [], []⟩⟩ fun x => ¬ find_cS x
namespace find_cC
noncomputable def w : World := find_cX.1
noncomputable def mean : ExcName → Option Value := find_cX.2.1
noncomputable def mg : Str → Option Value := find_cX.2.2.1
noncomputable def mb : Str → Option Value := find_cX.2.2.2.1
noncomputable def A : Around := find_cX.2.2.2.2.1
noncomputable def hb : Heap := find_cX.2.2.2.2.2.1
noncomputable def s : Shared := find_cX.2.2.2.2.2.2.1
noncomputable def Q : Value → Shared → Prop := find_cX.2.2.2.2.2.2.2.1
noncomputable def E : Value → Shared → Prop := find_cX.2.2.2.2.2.2.2.2.1
noncomputable def S : So := find_cX.2.2.2.2.2.2.2.2.2.1
noncomputable def l : List Env := find_cX.2.2.2.2.2.2.2.2.2.2.1
noncomputable def frs : List (Addr × Obj) := find_cX.2.2.2.2.2.2.2.2.2.2.2
noncomputable def base : Heap := hideAll s.heap ((S.objs w ++ frs).map (·.1))
theorem key : ∀ (X : (hd.heap_1 w.params).In hb)
   (T : Top hd.view_1 (looseW hd.view_1 [Str.ofString "_NodeInfo"]) mean mg mb hb)
   (St : hb.StaysIn s.heap)
   (hfr : A.frames = some l)
   (Fs : TI.Frs l frs)
   (C : Pre hb s.heap (S.objs w ++ frs))
   (O : S.Ok w)
   (hh : A.handled = none)
   (hn50 : S.nodes.length ≤ 50)
   (hb1 : ∀ nd ∈ S.nodes, nd.its.length ≤ 10000)
   (hsucc : ∀ u ∈ S.nodes.map (·.key), ∀ v ∈ succAt S.view u, v ∈ S.nodes.map (·.key))
   (hd : A.depth + 5 < recursionLimit)
   (hret0 : ∀ frs' h' tk' (rk : Int → Nat), (∀ u ∈ S.nodes.map (·.key), ∀ v ∈ succAt S.view u, rk v < rk u) → TI.SameUp frs frs' → Post s.heap h' (S.objs w ++ frs) (S.objs w ++ frs') → Q .none { s with heap := h', toks := tk' })
   (hret1 : ∀ cl ci frs' h' tk' x, Way (S.nodes.map (·.key)) (succAt S.view) x x → ci ≠ [] → ci.length ≤ 1000 → TI.SameUp frs frs' → Post s.heap h' (S.objs w ++ frs) ((cl, listOf ci.toArray 0) :: (S.objs w ++ frs')) → Q (.ref cl) { s with heap := h', toks := tk' }),
    wpAny (model PySem.Challenge.rw_oh0070_01.row.prog w) A (call (.ref 155) [.ref S.x]) Q E s := by
  intro X T St hfr Fs C O hh hn50 hb1 hsucc hd hret0 hret1
  refine wpAny_call ?_
  have hH : ∀ a ∈ (S.objs w ++ frs).map (·.1), hb.get? a = none := chg_off C.found
  k_dflt (refine' enter_def (H := (S.objs w ++ frs).map (·.1)) (binds := [(Str.ofString "self", .ref S.x)]) ?k1 ?k2 ?k3 ?k4 ?k6 ?k7 ?k8 ?k9 ?kB ?_ ?c2 ?c3 ?c4 ?c5; (case k1 => k_asm); (case k2 => k_asm); (case k3 => k_asm); (case k4 => first | assumption | (intro a ha; cases ha)); (case k6 => k_is); (case k7 => k_is); (case k8 => k_room); (case k9 => first | exact BindsTo.of_eq rfl | exact binds_K (X.keeps St) rfl (by k_is) rfl rfl rfl); (case c5 => decide); (case kB => exact locs rfl); (case c2 => exact rfl); (case c3 => exact rfl); (case c4 => exact rfl); k_whole; intro g L' h' hg hL' F' K' X' T' S'; (try dsimp only); (try k_fold))
  subst hg hL'
  have N' := chg_news C.found K'
  generalize hbase : hideAll s.heap ((S.objs w ++ frs).map (·.1)) = base at *
  obtain rfl : base = find_cC.base := hbase.symm
  have N2 := N'
  dsimp only [So.objs, So.attrs, So.ready, List.cons_append, List.nil_append] at N2
  clear N'
  have hlo := O.lo
  have hdict := O.dict
  ((try clear pk); (try clear pk))
  have pk : PkAt 0 := trivial
  k_steps
  refine unpark ?_
  refine For_invV base (by rfl) (by rfl) ?_
  ((try clear pk); (try clear pk))
  have pk : PkAt 1 := trivial
  k_steps
  refine unpark ?_
  rename News _ _ _ _ => N5
  rename Fr _ _ _ _ => F5
  obtain ⟨ld, hld⟩ := News.lead N5
  subst hld
  obtain ⟨ls, hls⟩ := News.lead (fun p hp => N5 p (.tail _ hp))
  subst hls
  obtain ⟨li, hli⟩ := News.lead (fun p hp => N5 p (.tail _ (.tail _ hp)))
  subst hli
  obtain ⟨lt, hlt⟩ := News.lead (fun p hp => N5 p (.tail _ (.tail _ (.tail _ hp))))
  subst hlt
  rename (_ ∧ _ ∧ _ ∧ _ ∧ _ ∧ _ ∧ AllLt ld _) => q1
  rename (_ ∧ _ ∧ _ ∧ _ ∧ _ ∧ AllLt ls _) => q2
  rename (_ ∧ _ ∧ _ ∧ _ ∧ AllLt li _) => q3
  rename (_ ∧ _ ∧ _ ∧ AllLt lt _) => q4
  rename ((ld == sysModules) = false) => hldlo
  rename Obj.IsDictOf (intKind _ _) _ [] => hd0
  rename Obj.SetObjOf (intKind _ _) _ _ 0 => hs0
  obtain ⟨os0, N5, hs0⟩ := leadS N5 hs0
  obtain ⟨od0, N5, hd0⟩ := leadD N5 hd0
  have N6 : News base s.heap.objs.size _ ((⟨[], [], od0, os0, 0, [], 0, 0, frs⟩ : Fst).led w S ld ls li lt) := N5
  have hnd5 : (((⟨[], [], od0, os0, 0, [], 0, 0, frs⟩ : Fst).led w S ld ls li lt).map (·.1)).Nodup :=
    nodup_top (L := (ls, os0) :: (li, listOf #[] 0) :: (lt, listOf #[] 0) :: (S.objs w ++ frs)) q1 (nodup_top (L := (li, listOf #[] 0) :: (lt, listOf #[] 0) :: (S.objs w ++ frs)) q2 (nodup_top (L := (lt, listOf #[] 0) :: (S.objs w ++ frs)) q3 (nodup_top (L := S.objs w ++ frs) q4 C.nodup)))
  have I0 : FInv w S l frs ld ls li lt ⟨[], [], od0, os0, 0, [], 0, 0, frs⟩ none := ⟨hnd5, hd0, by
    show os0.SetObjOf _ (fun x => decide (x ∈ fks ([] : List Fm) ++ ([] : List Int))) 0
    have e : (fun x : Int => decide (x ∈ fks ([] : List Fm) ++ ([] : List Int))) = fun _ => false := by funext x; simp [fks]
    rw [e]; exact hs0, rfl, rfl, fun i k h => by simp [fks] at h, fun f h => (nomatch h), ⟨trivial, trivial, List.nodup_nil, fun x h => (nomatch h)⟩, TI.SameUp.refl _, Fs⟩
  clear N5 q1 q2 q3 q4 hnd5 hd0 hs0
  have hdo : ∀ c : Fst, (S.d, S.o) ∈ c.led w S ld ls li lt := fun c => .tail _ (.tail _ (.tail _ (.tail _ (List.mem_append_right _ (List.mem_append_left _ (.tail _ (.tail _ (.head _))))))))
  refine loop_keysP (σ := Fst) (fun c => c.led w S ld ls li lt) (fun _ => [(Str.ofString "n2i", .ref S.d), (Str.ofString "stack", .ref lt), (Str.ofString "itstack", .ref li), (Str.ofString "seen", .ref ls), (Str.ofString "node2stacki", .ref ld)])
    (fun i c => FInv w S l frs ld ls li lt c none ∧ c.fs = [] ∧ ∀ n ∈ S.nodes.take i, n.key ∈ c.fin) ⟨[], [], od0, os0, 0, [], 0, 0, frs⟩ hh hdo O.dict O.lo F5 N6 ?hk ⟨I0, rfl, (fun n h => by simp at h)⟩ ?_ ?_
  case hk =>
    (intro p hp; rcases List.mem_cons.mp hp with rfl | hp; exact rfl; rcases List.mem_cons.mp hp with rfl | hp; exact rfl; rcases List.mem_cons.mp hp with rfl | hp; exact rfl; rcases List.mem_cons.mp hp with rfl | hp; exact rfl; cases List.mem_singleton.mp hp; exact rfl)
  · intro i c u k y t h tk I oI hky hJ hoI hI0 F7 N7
    obtain ⟨I1, hfs, hfin⟩ := hJ
    have hne := I1.nodup
    simp only [List.map_cons, List.nodup_cons, List.mem_cons, not_or] at hne
    obtain ⟨⟨n1, n2, n3, n4⟩, ⟨n5, n6, n7⟩, ⟨n8, n9⟩, n10, _⟩ := hne
    have hset := I1.sset
    have hsn := (I1.small hn50).1
    have hkk : (kvsOf S.nodes)[i]? = some (k, y) := hky
    obtain ⟨nk, hnk, hnkk⟩ : ∃ n, S.nodes[i]? = some n ∧ n.key = k := by
      unfold kvsOf at hkk
      rw [List.getElem?_map] at hkk
      cases q : S.nodes[i]? with
      | none => rw [q] at hkk; cases hkk
      | some n => rw [q] at hkk; exact ⟨n, rfl, (Prod.mk.inj (Option.some.inj hkk)).1⟩
    have hkin : k ∈ S.nodes.map (·.key) := List.mem_map.mpr ⟨nk, List.mem_of_getElem? hnk, hnkk⟩
    have hfin' : k ∈ c.fin → ∀ n ∈ S.nodes.take (i + 1), n.key ∈ c.fin := fun q n hn => by
      rw [List.take_add_one, hnk] at hn
      rcases List.mem_append.mp hn with hn | hn
      · exact hfin n hn
      · have : n = nk := by simpa using hn
        rw [this, hnkk]; exact q
    by_cases hin : k ∈ fks c.fs ++ c.fin
    · have hb : decide (k ∈ fks c.fs ++ c.fin) = true := decide_eq_true hin
      ((try clear pk); (try clear pk))
      k_steps
      refine turn_end c (by assumption) (by assumption) (.head _) (fun p hp => .tail _ hp) hoI ⟨?_, I1, hfs, hfin' ?_⟩
      · (intro p hp; rcases List.mem_cons.mp hp with rfl | hp; exact rfl; rcases List.mem_cons.mp hp with rfl | hp; exact rfl; rcases List.mem_cons.mp hp with rfl | hp; exact rfl; rcases List.mem_cons.mp hp with rfl | hp; exact rfl; cases List.mem_singleton.mp hp; exact rfl)
      · rw [hfs] at hin
        simpa [fks] using hin
    · have hb : decide (k ∈ fks c.fs ++ c.fin) = false := decide_eq_false hin
      ((try clear pk); (try clear pk))
      have pk : PkAt 2 := trivial
      k_steps
      refine unpark ?_
      rename News _ _ _ _ => N8
      rename Fr _ _ _ _ => F8
      have I2 : FInv w S l frs ld ls li lt c (some k) := ⟨I1.nodup, I1.dict, I1.sset, I1.count, I1.pvLen, I1.pvAt, I1.nds, by rw [hfs]; exact Dfs.start hkin I1.dfs.finOk (by have := I1.dfs.nodup; rw [hfs] at this; simpa [fpk] using this) (fun x hx => I1.dfs.sub x (List.mem_append_right _ hx)), I1.up, I1.frsOk⟩
      refine while_inv (σ := Int × Tok × Fst) (fun c => (I, oI) :: c.2.2.led w S ld ls li lt) (fun c => [(Str.ofString "n2i", .ref S.d), (Str.ofString "stack", .ref lt), (Str.ofString "itstack", .ref li), (Str.ofString "seen", .ref ls), (Str.ofString "node2stacki", .ref ld), (Str.ofString "node", .int c.1 c.2.1)])
        (fun c' => FInv w S l frs ld ls li lt c'.2.2 (some c'.1) ∧ c'.1 ∈ S.nodes.map (·.key) ∧ (∀ p ∈ c'.2.2.led w S ld ls li lt, p.1 ≠ I) ∧ (∀ x ∈ c.fin, x ∈ c'.2.2.fin) ∧ k ∈ fks c'.2.2.fs ++ c'.1 :: c'.2.2.fin) (fun c => fmu S c.2.2) (k, t, c) F8 N8 ?hk ⟨I2, hkin, hoI, fun _ h => h, List.mem_append_right _ (.head _)⟩ ?_
      case hk => (intro p hp; rcases List.mem_cons.mp hp with rfl | hp; exact rfl; rcases List.mem_cons.mp hp with rfl | hp; exact rfl; rcases List.mem_cons.mp hp with rfl | hp; exact rfl; rcases List.mem_cons.mp hp with rfl | hp; exact rfl; rcases List.mem_cons.mp hp with rfl | hp; exact rfl; cases List.mem_singleton.mp hp; exact rfl)
      clear N8 F8 I2
      intro c' u2 h2 tk2 hP F9 N9
      obtain ⟨k2, t2, c2⟩ := c'
      dsimp only at hP F9 N9
      obtain ⟨I3, hk2, hoI2, hfin2, hkk2⟩ := hP
      have hne2 := I3.nodup
      simp only [List.map_cons, List.nodup_cons, List.mem_cons, not_or] at hne2
      obtain ⟨⟨p1, p2, p3, p4⟩, ⟨p5, p6, p7⟩, ⟨p8, p9⟩, p10, p11⟩ := hne2
      have r1 : ∀ p ∈ fmObjs c2.fs ++ (S.objs w ++ c2.frs), p.1 ≠ ld := fun p hp q => p4 (q ▸ fst_mem hp)
      have r2 : ∀ p ∈ fmObjs c2.fs ++ (S.objs w ++ c2.frs), p.1 ≠ ls := fun p hp q => p7 (q ▸ fst_mem hp)
      have r3 : ∀ p ∈ fmObjs c2.fs ++ (S.objs w ++ c2.frs), p.1 ≠ li := fun p hp q => p9 (q ▸ fst_mem hp)
      have r4 : ∀ p ∈ fmObjs c2.fs ++ (S.objs w ++ c2.frs), p.1 ≠ lt := fun p hp q => p10 (q ▸ fst_mem hp)
      have hI1 : I ≠ ld := Ne.symm (hoI2 _ (.head _))
      have hI2 : I ≠ ls := Ne.symm (hoI2 _ (.tail _ (.head _)))
      have hI3 : I ≠ li := Ne.symm (hoI2 _ (.tail _ (.tail _ (.head _))))
      have hI4 : I ≠ lt := Ne.symm (hoI2 _ (.tail _ (.tail _ (.tail _ (.head _)))))
      clear p4 p7 p9 p10 p11 hset hsn
      have hset2 := I3.sset
      have hsm := I3.small hn50
      have hsn2 := hsm.1
      have hdict2 := I3.dict
      have hstk := stk_ints c2.fs
      have hstl : (fks c2.fs).reverse.length ≤ 50 := by rw [List.length_reverse]; unfold fks; rw [List.length_map]; exact hsm.2
      have hoAll : ∀ p ∈ (I, oI) :: c2.led w S ld ls li lt, p ∈ (I, oI) :: c2.led w S ld ls li lt := fun _ h => h
      ((try clear pk); (try clear pk))
      have pk : PkAt 3 := trivial
      k_steps
      refine unpark ?_
      refine execs_cut (FMid w S l frs ld ls li lt I oI base s.heap.objs.size s (fmu S c2) c.fin k) ?_ ?_
      · by_cases hA : k2 ∈ fks c2.fs
        · have hb2 : decide (k2 ∈ fks c2.fs ++ c2.fin) = true := decide_eq_true (List.mem_append_left _ hA)
          obtain ⟨pi, pt, hpi, hpv⟩ := I3.pvIn hA
          have hpv2 : (valueAt c2.pv k2).isSome = true := by rw [hpv]; rfl
          have hpi2 : pi ≤ (fks c2.fs).reverse.length := by rw [List.length_reverse]; unfold fks; rw [List.length_map]; omega
          ((try clear pk); (try clear pk))
          iterate 37 (focus (first | (k_unfold; (try dsimp only)) | (k_end; wrow_close) | walk1 | (dsimp only; walk1) | (leave1; try dsimp only)))
          rename News _ _ _ _ => nE
          rename Fr _ _ _ _ => fE
          rename IntsAre _ (_ ++ [k2]) => hIE
          rename (_ ∧ _ ∧ _ ∧ _ ∧ _ ∧ _ ∧ _ ∧ AllLt _ _) => lE
          have hway := I3.dfs.cycle (by
            have e : (fpk c2.fs).map (·.1) = fks c2.fs := by unfold fpk fks; rw [List.map_map]; rfl
            rw [e]; exact hA)
          have hndE : ((S.objs w ++ c2.frs).map (·.1)).Nodup := List.Nodup.sublist (List.Sublist.map _ (((((List.sublist_append_right (fmObjs c2.fs) (S.objs w ++ c2.frs)).cons _).cons _).cons _).cons _)) I3.nodup
          (try subst hbase)
          refine hret1 _ _ c2.frs _ _ k2 hway (ints_ne hIE) (by have q := hIE.length; simp only [List.length_append, List.length_drop, List.length_singleton] at q; omega) I3.up (post_of fE nE ?_ ?_)
          · intro p hp
            rcases List.mem_cons.mp hp with rfl | hp
            · exact .head _
            · exact .tail _ (.tail _ (.tail _ (.tail _ (.tail _ (.tail _ (.tail _ (.tail _ (List.mem_append_right _ hp))))))))
          · refine List.nodup_cons.mpr ⟨fun q => ?_, hndE⟩
            obtain ⟨p, hp, e⟩ := List.mem_map.mp q
            exact ne_of_allLt lE.2.2.2.2.2.2.2 p (List.mem_append_right _ hp) e
        · have hpv : (valueAt c2.pv k2).isSome = false := by rw [I3.pvOut hA]; rfl
          by_cases hB : k2 ∈ c2.fin
          · have hb2 : decide (k2 ∈ fks c2.fs ++ c2.fin) = true := decide_eq_true (List.mem_append_right _ hB)
            ((try clear pk); (try clear pk))
            k_steps
            rename News _ _ _ _ => nE
            rename Fr _ _ _ _ => fE
            have I4 : FInv w S l frs ld ls li lt c2 none := ⟨I3.nodup, I3.dict, I3.sset, I3.count, I3.pvLen, I3.pvAt, I3.nds, I3.dfs.seen hB, I3.up, I3.frsOk⟩
            refine ⟨c2, _, _, _, rfl, fE, ?_, nE, I4, hoI2, Nat.le_refl _, hfin2, ?_⟩
            · (intro p hp; rcases List.mem_cons.mp hp with rfl | hp; exact rfl; rcases List.mem_cons.mp hp with rfl | hp; exact rfl; rcases List.mem_cons.mp hp with rfl | hp; exact rfl; rcases List.mem_cons.mp hp with rfl | hp; exact rfl; cases List.mem_singleton.mp hp; exact rfl)
            · rcases List.mem_append.mp hkk2 with q | q
              · exact List.mem_append_left _ q
              · rcases List.mem_cons.mp q with q | q
                · rw [q]; exact List.mem_append_right _ hB
                · exact List.mem_append_right _ q
          · have hb2 : decide (k2 ∈ fks c2.fs ++ c2.fin) = false := decide_eq_false fun q => (List.mem_append.mp q).elim hA hB
            obtain ⟨nd2, hnd2, hnk2⟩ := List.mem_map.mp hk2
            have hvA2 : valueAt (kvsOf S.nodes) k2 = some (.ref nd2.a) := valueAt_some O.keys hnd2 hnk2
            obtain ⟨pre2, post2, hS2⟩ := List.append_of_mem hnd2
            have hpm := focus_perm (w := w) hS2
            have hmd : (S.d, S.o) ∈ fmObjs c2.fs ++ (S.objs w ++ c2.frs) := List.mem_append_right _ (List.mem_append_left _ (.tail _ (.tail _ (.head _))))
            have hma : (nd2.a, nodeOf nd2) ∈ fmObjs c2.fs ++ (S.objs w ++ c2.frs) := List.mem_append_right _ (List.mem_append_left _ (hpm.mem_iff.mpr (.head _)))
            have hmx : (nd2.d, dictOf [] 0) ∈ fmObjs c2.fs ++ (S.objs w ++ c2.frs) := List.mem_append_right _ (List.mem_append_left _ (hpm.mem_iff.mpr (.tail _ (.head _))))
            have hml : (nd2.l, listOf nd2.its.toArray nd2.n) ∈ fmObjs c2.fs ++ (S.objs w ++ c2.frs) := List.mem_append_right _ (List.mem_append_left _ (hpm.mem_iff.mpr (.tail _ (.tail _ (.head _)))))
            have hitl : (itk c2.fs).length ≤ 50 := by unfold itk; rw [List.length_map, List.length_reverse]; exact hsm.2
            have hpvl : c2.pv.length ≤ 50 := by rw [I3.pvLen]; exact hsm.2
            clear hpm
            rename News _ _ _ _ => N10
            dsimp only [Fst.led] at N10
            generalize hT : fmObjs c2.fs ++ (S.objs w ++ c2.frs) = Tl at N10 r1 r2 r3 r4 hmd hma hmx hml
            ((try clear pk); (try clear pk))
            k_steps
            rename News _ _ _ _ => nE
            rename Fr _ _ _ _ => fE
            rename Obj.SetObjOf _ _ _ _ => hS9
            rename Obj.IsDictOf _ _ (stored _ _ _) => hD9
            rename (_ ∧ _ ∧ _ ∧ _ ∧ _ ∧ AllLt _ Tl) => q9
            rename (_ < _ ∧ _ ∧ _ ∧ _ ∧ _ ∧ _ ∧ AllLt _ Tl) => q8
            subst hT
            simp only [List.push_toArray] at nE
            rw [if_neg (by rw [hb2]; exact Bool.false_ne_true)] at hS9
            have l2 : AllLt _ (Fst.led w S ld ls li lt c2) := q9.2
            have l3 : AllLt _ (Fst.led w S ld ls li lt c2) := q8.2.2
            have I4 := I3.pushed (t := t2) hA hB hk2 hnd2 hnk2 hS9 rfl hD9 q8.1 l2 l3
            refine ⟨_, _, _, _, rfl, fE, ?_, fun p hp => nE p ?_, I4, ?_, ?_, hfin2, ?_⟩
            · (intro p hp; rcases List.mem_cons.mp hp with rfl | hp; exact rfl; rcases List.mem_cons.mp hp with rfl | hp; exact rfl; rcases List.mem_cons.mp hp with rfl | hp; exact rfl; rcases List.mem_cons.mp hp with rfl | hp; exact rfl; cases List.mem_singleton.mp hp; exact rfl)
            · dsimp only [Fst.led] at hp
              rw [itk_cons, stk_cons] at hp
              rcases List.mem_cons.mp hp with rfl | hp
              · exact .tail _ (.tail _ (.head _))
              · rcases List.mem_cons.mp hp with rfl | hp
                · exact .tail _ (.tail _ (.tail _ (.head _)))
                · rcases List.mem_cons.mp hp with rfl | hp
                  · exact .tail _ (.tail _ (.tail _ (.tail _ (.head _))))
                  · rcases List.mem_cons.mp hp with rfl | hp
                    · exact .tail _ (.tail _ (.tail _ (.tail _ (.tail _ (.head _)))))
                    · rcases List.mem_cons.mp hp with rfl | hp
                      · exact .tail _ (.tail _ (.tail _ (.tail _ (.tail _ (.tail _ (.head _))))))
                      · rcases List.mem_cons.mp hp with rfl | hp
                        · exact .head _
                        · rcases List.mem_cons.mp hp with rfl | hp
                          · exact .tail _ (.head _)
                          · exact .tail _ (.tail _ (.tail _ (.tail _ (.tail _ (.tail _ (.tail _ hp))))))
            · intro p hp q
              rcases List.mem_cons.mp hp with rfl | hp
              · exact hI1 q.symm
              · rcases List.mem_cons.mp hp with rfl | hp
                · exact hI2 q.symm
                · rcases List.mem_cons.mp hp with rfl | hp
                  · exact hI3 q.symm
                  · rcases List.mem_cons.mp hp with rfl | hp
                    · exact hI4 q.symm
                    · rcases List.mem_cons.mp hp with rfl | hp
                      · exact absurd q8.2.1 (by rw [show I = _ from q.symm]; exact Nat.lt_irrefl _)
                      · rcases List.mem_cons.mp hp with rfl | hp
                        · exact absurd q9.1 (by rw [show I = _ from q.symm]; exact Nat.lt_irrefl _)
                        · exact hoI2 p (.tail _ (.tail _ (.tail _ (.tail _ hp)))) q
            · exact Nat.le_of_succ_le (Nat.le_of_eq (mu_push O hA hB hnd2 hnk2 ⟨_, _, _, rfl⟩ rfl))
            · rcases List.mem_append.mp hkk2 with q | q
              · exact List.mem_append_left _ (.tail _ q)
              · rcases List.mem_cons.mp q with q | q
                · rw [q]; exact List.mem_append_left _ (.head _)
                · exact List.mem_append_right _ q
      · rintro s3 ⟨c3, h3, tk3, m3, rfl, F3, hm3, N3, I4, ho4, hmu4, hfin4, hk4⟩
        refine wpAny_execs_cons ?_
        refine while_inv (s := { s with heap := h3, toks := tk3 }) (σ := Fst) (fun c => (I, oI) :: c.led w S ld ls li lt) (fun c => [(Str.ofString "n2i", .ref S.d), (Str.ofString "stack", .ref lt), (Str.ofString "itstack", .ref li), (Str.ofString "seen", .ref ls), (Str.ofString "node2stacki", .ref ld)])
          (fun c4 => FInv w S l frs ld ls li lt c4 none ∧ (∀ p ∈ c4.led w S ld ls li lt, p.1 ≠ I) ∧ fmu S c4 ≤ fmu S c2 ∧ (∀ x ∈ c.fin, x ∈ c4.fin) ∧ k ∈ fks c4.fs ++ c4.fin) (fun c => c.fs.length) c3 F3 N3 hm3 ⟨I4, ho4, hmu4, hfin4, hk4⟩ ?_
        clear F3 N3 hm3 I4 ho4 hmu4 hfin4 hk4 N9 F9
        intro c4 u4 h4 tk4 hP4 F4 N4
        obtain ⟨I4, ho4, hmu4, hfin4, hk4⟩ := hP4
        have hsm4 := I4.small hn50
        have hstk4 := stk_ints c4.fs
        cases hf4 : c4.fs with
        | nil =>
          rw [hf4] at hstk4
          dsimp only [Fst.led] at N4
          rw [hf4] at N4
          ((try clear pk); (try clear pk))
          k_steps
          dsimp only [WPost]
          k_steps
          rename News _ _ _ _ => nE
          refine turn_end c4 (by assumption) (fun p hp => nE p hp) (.head _) (fun p hp => .tail _ (by dsimp only [Fst.led] at hp; rw [hf4] at hp; exact hp)) ho4 ⟨?_, I4, hf4, ?_⟩
          · (intro p hp; rcases List.mem_cons.mp hp with rfl | hp; exact rfl; rcases List.mem_cons.mp hp with rfl | hp; exact rfl; rcases List.mem_cons.mp hp with rfl | hp; exact rfl; rcases List.mem_cons.mp hp with rfl | hp; exact rfl; cases List.mem_singleton.mp hp; exact rfl)
          · intro n hn
            rw [List.take_add_one, hnk] at hn
            rcases List.mem_append.mp hn with hn | hn
            · exact hfin4 _ (hfin n hn)
            · have : n = nk := by simpa using hn
              rw [this, hnkk]
              rw [hf4] at hk4
              simpa [fks] using hk4
        | cons f rest =>
          have hsm5 : rest.length ≤ 49 := by
            have := hsm4.2
            rw [hf4, List.length_cons] at this
            omega
          have hne4 := I4.nodup
          dsimp only [Fst.led] at N4 hne4
          rw [hf4] at hne4 N4 hstk4
          rw [itk_cons, stk_cons] at N4
          have hff := I4.nds f (by rw [hf4]; exact .head _)
          have hitl : (itk rest).length ≤ 1000 := by unfold itk; rw [List.length_map, List.length_reverse]; omega
          have hstl4 : (stk rest).length ≤ 1000 := by unfold stk; rw [List.length_map, List.length_reverse]; omega
          obtain ⟨pre5, post5, hS5⟩ := List.append_of_mem hff.1
          have hml5 : (f.nd.l, listOf f.nd.its.toArray f.nd.n) ∈ fmObjs rest ++ (S.objs w ++ c4.frs) := List.mem_append_right _ (List.mem_append_left _ ((focus_perm (w := w) hS5).mem_iff.mpr (.tail _ (.tail _ (.head _)))))
          have hI5 := O.areInts f.nd hff.1
          have hl5 := hI5.length
          have hsA : succAt S.view f.key = f.nd.succ := succAt_node hS5 O.keys hff.2
          have N4' : News base s.heap.objs.size h4 ((I, oI) :: (ld, c4.od) :: (ls, c4.os) :: (li, W.listOf (itk rest ++ [Value.ref f.bm]).toArray c4.vi) :: (lt, W.listOf (stk rest ++ [Value.int f.key f.kt]).toArray c4.vt) :: (f.bm, bmOf f.it) :: (f.it, itOf f.nd.l f.j) :: (fmObjs rest ++ (S.objs w ++ c4.frs))) := N4
          clear N4
          have N4 := N4'
          clear N4'
          dsimp only [fmObjs, List.cons_append] at hne4
          simp only [List.map_cons, List.nodup_cons, List.mem_cons, not_or] at hne4
          obtain ⟨⟨a1, a2, a3, a4, a5, a6⟩, ⟨b2, b3, b4, b5, b6⟩, ⟨c3', c4', c5', c6'⟩, ⟨d4, d5, d6⟩, ⟨e5, e6⟩, f6, _⟩ := hne4
          have s1 : ∀ p ∈ fmObjs rest ++ (S.objs w ++ c4.frs), p.1 ≠ ld := fun p hp q => a6 (q ▸ fst_mem hp)
          have s2 : ∀ p ∈ fmObjs rest ++ (S.objs w ++ c4.frs), p.1 ≠ ls := fun p hp q => b6 (q ▸ fst_mem hp)
          have s3 : ∀ p ∈ fmObjs rest ++ (S.objs w ++ c4.frs), p.1 ≠ li := fun p hp q => c6' (q ▸ fst_mem hp)
          have s4 : ∀ p ∈ fmObjs rest ++ (S.objs w ++ c4.frs), p.1 ≠ lt := fun p hp q => d6 (q ▸ fst_mem hp)
          have s5 : ∀ p ∈ fmObjs rest ++ (S.objs w ++ c4.frs), p.1 ≠ f.bm := fun p hp q => e6 (q ▸ fst_mem hp)
          have s6 : ∀ p ∈ fmObjs rest ++ (S.objs w ++ c4.frs), p.1 ≠ f.it := fun p hp q => f6 (q ▸ fst_mem hp)
          have hIi : f.it ≠ I := ho4 (f.it, itOf f.nd.l f.j) (by dsimp only [Fst.led]; rw [hf4]; exact .tail _ (.tail _ (.tail _ (.tail _ (.tail _ (.head _))))))
          have hIb : f.bm ≠ I := ho4 (f.bm, bmOf f.it) (by dsimp only [Fst.led]; rw [hf4]; exact .tail _ (.tail _ (.tail _ (.tail _ (.head _)))))
          have D4 : Dfs (S.nodes.map (·.key)) (succAt S.view) ((f.key, f.j) :: fpk rest) c4.fin none := by
            have := I4.dfs
            rw [hf4] at this
            exact this
          by_cases hj : f.j < f.nd.its.length
          · skip
            obtain ⟨y5, hy5⟩ : ∃ y, f.nd.succ[f.j]? = some y := ⟨f.nd.succ[f.j]'(by omega), by simp [← hl5, hj]⟩
            obtain ⟨yt5, hyt5⟩ := hI5.get f.j y5 hy5
            generalize hT : fmObjs rest ++ (S.objs w ++ c4.frs) = Tl at N4 s1 s2 s3 s4 s5 s6 hml5
            ((try clear pk); (try clear pk))
            iterate 17 (focus (first | (k_unfold; (try dsimp only)) | (k_end; wrow_close) | walk1 | (dsimp only; walk1) | (leave1; try dsimp only)))
            rename News _ _ _ _ => N5
            rename Fr _ _ _ _ => F5
            refine' next_N F5 N5 (it := f.it) (l := f.nd.l) (n := f.nd.n) (news' := (I, oI) :: (ld, c4.od) :: (ls, c4.os) :: (li, W.listOf (itk rest ++ [Value.ref f.bm]).toArray c4.vi) :: (lt, W.listOf (stk rest ++ [Value.int f.key f.kt]).toArray c4.vt) :: (f.bm, bmOf f.it) :: (f.it, itOf f.nd.l (f.j + 1)) :: Tl) ?b ?l ?U hyt5 ?_
            case b => k_mem
            case U => k_upd
            case l => k_mem
            intro h5 F6 N6
            k_steps
            dsimp only [WPost]
            k_steps
            rename News _ _ _ _ => nE
            rename Fr _ _ _ _ => fE
            have e5 : (Fst.led w S ld ls li lt { c4 with fs := { f with j := f.j + 1 } :: rest }).map (·.1) = (Fst.led w S ld ls li lt c4).map (·.1) := by
              dsimp only [Fst.led]
              rw [hf4]
              rfl
            have I5 : FInv w S l frs ld ls li lt { c4 with fs := { f with j := f.j + 1 } :: rest } (some y5) := by
              refine ⟨by rw [e5]; exact I4.nodup, I4.dict, ?_, ?_, ?_, ?_, fun g hg => ?_, ?_, I4.up, I4.frsOk⟩
              · have h := I4.sset
                rw [hf4] at h
                exact h
              · have h := I4.count
                rw [hf4] at h
                exact h
              · have h := I4.pvLen
                rw [hf4] at h
                exact h
              · have h := I4.pvAt
                rw [hf4] at h
                exact h
              · rcases List.mem_cons.mp hg with rfl | hg
                · exact hff
                · exact I4.nds g (by rw [hf4]; exact .tail _ hg)
              · exact D4.take (by rw [hsA]; exact hy5)
            refine while_end (y5, yt5, { c4 with fs := { f with j := f.j + 1 } :: rest }) fE nE ?_ ?_ ⟨I5, ?_, ?_, hfin4, ?_⟩ ?_
            · intro p hp
              dsimp only [Fst.led] at hp
              rw [itk_cons, stk_cons] at hp
              subst hT
              exact hp
            · (intro p hp; rcases List.mem_cons.mp hp with rfl | hp; exact rfl; rcases List.mem_cons.mp hp with rfl | hp; exact rfl; rcases List.mem_cons.mp hp with rfl | hp; exact rfl; rcases List.mem_cons.mp hp with rfl | hp; exact rfl; rcases List.mem_cons.mp hp with rfl | hp; exact rfl; cases List.mem_singleton.mp hp; exact rfl)
            · exact hsucc f.key (List.mem_map.mpr ⟨f.nd, hff.1, hff.2⟩) y5 (by rw [hsA]; exact List.mem_of_getElem? hy5)
            · intro p hp z
              have hm : p.1 ∈ (Fst.led w S ld ls li lt c4).map (·.1) := by rw [← e5]; exact fst_mem hp
              obtain ⟨q, hq, he⟩ := List.mem_map.mp hm
              exact ho4 q hq (he.trans z)
            · rw [hf4] at hk4
              rcases List.mem_append.mp hk4 with q | q
              · exact List.mem_append_left _ q
              · exact List.mem_append_right _ (.tail _ q)
            · have h6 := mu_take (S := S) (c := c4) (c' := { c4 with fs := { f with j := f.j + 1 } :: rest }) hf4 rfl rfl (by omega)
              exact Nat.lt_of_succ_le (Nat.le_trans (Nat.le_of_eq h6) hmu4)
          · have hj' : f.nd.its.length ≤ f.j := Nat.le_of_not_lt hj
            have hmI := ho4
            ((try clear pk); (try clear pk))
            iterate 17 (focus (first | (k_unfold; (try dsimp only)) | (k_end; wrow_close) | walk1 | (dsimp only; walk1) | (leave1; try dsimp only)))
            rename News _ _ _ _ => N5
            rename Fr _ _ _ _ => F5
            refine' next_E hh F5 N5 (it := f.it) (l := f.nd.l) (n := f.nd.n) ?b ?l ?m hj' ?_
            case b => k_mem
            case l => exact .tail _ (.tail _ (.tail _ (.tail _ (.tail _ (.tail _ (.tail _ hml5))))))
            case m => k_mem
            intro h5 h6 e6 F6 N6 x6
            have pk : PkAt 4 := trivial
            k_steps
            refine unpark ?_
            have hndA : (((I, oI) :: c4.led w S ld ls li lt).map (·.1)).Nodup := List.nodup_cons.mpr ⟨fun q => by
              obtain ⟨p, hp, e⟩ := List.mem_map.mp q
              exact ho4 p hp e, I4.nodup⟩
            have hndB : ((((I, oI) :: (ld, c4.od) :: (ls, c4.os) :: (li, W.listOf (itk rest ++ [Value.ref f.bm]).toArray c4.vi) :: (lt, W.listOf (stk rest ++ [Value.int f.key f.kt]).toArray c4.vt) :: (f.bm, bmOf f.it) :: (f.it, itOf f.nd.l f.j) :: (fmObjs rest ++ S.objs w)) ++ c4.frs).map (·.1)).Nodup := by
              have e : (((I, oI) :: (ld, c4.od) :: (ls, c4.os) :: (li, W.listOf (itk rest ++ [Value.ref f.bm]).toArray c4.vi) :: (lt, W.listOf (stk rest ++ [Value.int f.key f.kt]).toArray c4.vt) :: (f.bm, bmOf f.it) :: (f.it, itOf f.nd.l f.j) :: (fmObjs rest ++ S.objs w)) ++ c4.frs).map (·.1) = ((I, oI) :: c4.led w S ld ls li lt).map (·.1) := by
                dsimp only [Fst.led]
                rw [hf4]
                simp only [List.cons_append, List.append_assoc, fmObjs]
                rfl
              rw [e]; exact hndA
            rw [List.map_append] at hndB
            have hdis := (List.nodup_append.mp hndB).2.2
            have N7 : News base s.heap.objs.size h5 (((I, oI) :: (ld, c4.od) :: (ls, c4.os) :: (li, W.listOf (itk rest ++ [Value.ref f.bm]).toArray c4.vi) :: (lt, W.listOf (stk rest ++ [Value.int f.key f.kt]).toArray c4.vt) :: (f.bm, bmOf f.it) :: (fmObjs rest ++ S.objs w)) ++ c4.frs) := fun p hp => N6 p (List.mem_filter.mpr ⟨by
              rcases List.mem_append.mp hp with hp | hp
              · rcases List.mem_cons.mp hp with rfl | hp
                · exact .head _
                rcases List.mem_cons.mp hp with rfl | hp
                · exact .tail _ (.head _)
                rcases List.mem_cons.mp hp with rfl | hp
                · exact .tail _ (.tail _ (.head _))
                rcases List.mem_cons.mp hp with rfl | hp
                · exact .tail _ (.tail _ (.tail _ (.head _)))
                rcases List.mem_cons.mp hp with rfl | hp
                · exact .tail _ (.tail _ (.tail _ (.tail _ (.head _))))
                rcases List.mem_cons.mp hp with rfl | hp
                · exact .tail _ (.tail _ (.tail _ (.tail _ (.tail _ (.head _)))))
                refine .tail _ (.tail _ (.tail _ (.tail _ (.tail _ (.tail _ (.tail _ ?_))))))
                rw [← List.append_assoc]
                exact List.mem_append_left _ hp
              · refine .tail _ (.tail _ (.tail _ (.tail _ (.tail _ (.tail _ (.tail _ ?_))))))
                exact List.mem_append_right _ (List.mem_append_right _ hp), by
              have hne : p.1 ≠ f.it := by
                rcases List.mem_append.mp hp with hp | hp
                · rcases List.mem_cons.mp hp with rfl | hp
                  · exact Ne.symm hIi
                  rcases List.mem_cons.mp hp with rfl | hp
                  · exact a5
                  rcases List.mem_cons.mp hp with rfl | hp
                  · exact b5
                  rcases List.mem_cons.mp hp with rfl | hp
                  · exact c5'
                  rcases List.mem_cons.mp hp with rfl | hp
                  · exact d5
                  rcases List.mem_cons.mp hp with rfl | hp
                  · exact e5
                  · exact s6 p (by rw [← List.append_assoc]; exact List.mem_append_left _ hp)
                · exact s6 p (List.mem_append_right _ (List.mem_append_right _ hp))
              simpa using hne⟩)
            refine catch_StopIteration (new := (I, oI) :: (ld, c4.od) :: (ls, c4.os) :: (li, W.listOf (itk rest ++ [Value.ref f.bm]).toArray c4.vi) :: (lt, W.listOf (stk rest ++ [Value.int f.key f.kt]).toArray c4.vt) :: (f.bm, bmOf f.it) :: (fmObjs rest ++ S.objs w)) hfr I4.frsOk (NewExcG.of x6) F6 N7 ?hap T' ?_ rfl rfl
            case hap =>
              intro p hp q
              rcases List.mem_cons.mp q with q | q
              · exact (N7 p (List.mem_append_left _ hp)).2.1 q
              · refine hdis p.1 (List.mem_map_of_mem ?_) p.1 q rfl
                rcases List.mem_cons.mp hp with rfl | hp
                · exact .head _
                rcases List.mem_cons.mp hp with rfl | hp
                · exact .tail _ (.head _)
                rcases List.mem_cons.mp hp with rfl | hp
                · exact .tail _ (.tail _ (.head _))
                rcases List.mem_cons.mp hp with rfl | hp
                · exact .tail _ (.tail _ (.tail _ (.head _)))
                rcases List.mem_cons.mp hp with rfl | hp
                · exact .tail _ (.tail _ (.tail _ (.tail _ (.head _))))
                rcases List.mem_cons.mp hp with rfl | hp
                · exact .tail _ (.tail _ (.tail _ (.tail _ (.tail _ (.head _)))))
                exact .tail _ (.tail _ (.tail _ (.tail _ (.tail _ (.tail _ (.tail _ hp))))))
            clear N7 N6 F6 x6 hdis
            intro h7 frs7 SU7 Fs7 F7 N7'
            have N8 : News base s.heap.objs.size h7 ((I, oI) :: (ld, c4.od) :: (ls, c4.os) :: (li, W.listOf (itk rest ++ [Value.ref f.bm]).toArray c4.vi) :: (lt, W.listOf (stk rest ++ [Value.int f.key f.kt]).toArray c4.vt) :: (f.bm, bmOf f.it) :: (fmObjs rest ++ (S.objs w ++ frs7))) := by
              rw [← List.append_assoc]; exact N7'
            clear N7'
            have up : ∀ d : Addr, (∀ p ∈ fmObjs rest ++ (S.objs w ++ c4.frs), p.1 ≠ d) → ∀ p ∈ fmObjs rest ++ (S.objs w ++ frs7), p.1 ≠ d := fun d hd p hp => by
              rcases List.mem_append.mp hp with hp | hp
              · exact hd p (List.mem_append_left _ hp)
              · rcases List.mem_append.mp hp with hp | hp
                · exact hd p (List.mem_append_right _ (List.mem_append_left _ hp))
                · exact sameUp_ne SU7 (fun q hq => hd q (List.mem_append_right _ (List.mem_append_right _ hq))) p hp
            replace s1 := up _ s1
            replace s2 := up _ s2
            replace s3 := up _ s3
            replace s4 := up _ s4
            replace s5 := up _ s5
            have hdict4 := I4.dict
            obtain ⟨pi4, pt4, _, hpv4⟩ := I4.pvIn (k := f.key) (by rw [hf4]; exact .head _)
            have hpvs : (valueAt c4.pv f.key).isSome = true := by rw [hpv4]; rfl
            have hpvl4 : c4.pv.length ≤ 50 := by rw [I4.pvLen]; exact hsm4.2
            have hld : I ≠ ld := Ne.symm (ho4 _ (.head _))
            have hls : I ≠ ls := Ne.symm (ho4 _ (.tail _ (.head _)))
            have hli : I ≠ li := Ne.symm (ho4 _ (.tail _ (.tail _ (.head _))))
            have hlt : I ≠ lt := Ne.symm (ho4 _ (.tail _ (.tail _ (.tail _ (.head _)))))
            generalize hT : fmObjs rest ++ (S.objs w ++ frs7) = Tl at N8 s1 s2 s3 s4 s5
            clear s6 hml5 up
            ((try clear pk); (try clear pk))
            k_steps
            rename News _ _ _ _ => nA
            rename Fr _ _ _ _ => fA
            refine' kob_del (knd := intKind PySem.Challenge.rw_oh0070_01.row.prog w) fA nA ?U hdict4 (isInt_self f.key f.kt) hpvs ?z ?_
            case z => rw [sizeLine_eq]; omega
            case U => k_updF
            intro h9 o9 F9 N9 D9
            k_steps
            rename News _ _ _ _ => nE
            rename Fr _ _ _ _ => fE
            have hj5 : (succAt S.view f.key).length ≤ f.j := by rw [hsA, ← hl5]; exact hj'
            have I5 := I4.popped (c4.vi + 1) (c4.vt + 1) hf4 D9 hj5 SU7 Fs7
            subst hT
            refine while_end (⟨rest, f.key :: c4.fin, o9, c4.os, c4.sn, without c4.pv f.key, c4.vi + 1, c4.vt + 1, frs7⟩ : Fst) fE nE ?_ ?_ ⟨I5, ?_, ?_, ?_, ?_⟩ ?_
            · intro p hp
              dsimp only [Fst.led] at hp
              rcases List.mem_cons.mp hp with rfl | hp
              · exact .head _
              rcases List.mem_cons.mp hp with rfl | hp
              · exact .tail _ (.head _)
              rcases List.mem_cons.mp hp with rfl | hp
              · exact .tail _ (.tail _ (.head _))
              rcases List.mem_cons.mp hp with rfl | hp
              · exact .tail _ (.tail _ (.tail _ (.head _)))
              rcases List.mem_cons.mp hp with rfl | hp
              · exact .tail _ (.tail _ (.tail _ (.tail _ (.head _))))
              exact .tail _ (.tail _ (.tail _ (.tail _ (.tail _ (.tail _ hp)))))
            · (intro p hp; rcases List.mem_cons.mp hp with rfl | hp; exact rfl; rcases List.mem_cons.mp hp with rfl | hp; exact rfl; rcases List.mem_cons.mp hp with rfl | hp; exact rfl; rcases List.mem_cons.mp hp with rfl | hp; exact rfl; cases List.mem_singleton.mp hp; exact rfl)
            · intro p hp
              dsimp only [Fst.led] at hp
              rcases List.mem_cons.mp hp with rfl | hp
              · exact Ne.symm hld
              rcases List.mem_cons.mp hp with rfl | hp
              · exact Ne.symm hls
              rcases List.mem_cons.mp hp with rfl | hp
              · exact Ne.symm hli
              rcases List.mem_cons.mp hp with rfl | hp
              · exact Ne.symm hlt
              rcases List.mem_append.mp hp with hp | hp
              · exact ho4 p (by dsimp only [Fst.led]; rw [hf4]; exact .tail _ (.tail _ (.tail _ (.tail _ (.tail _ (.tail _ (List.mem_append_left _ hp)))))))
              · rcases List.mem_append.mp hp with hp | hp
                · exact ho4 p (by dsimp only [Fst.led]; exact .tail _ (.tail _ (.tail _ (.tail _ (List.mem_append_right _ (List.mem_append_left _ hp))))))
                · exact sameUp_ne SU7 (fun q hq => ho4 q (by dsimp only [Fst.led]; exact .tail _ (.tail _ (.tail _ (.tail _ (List.mem_append_right _ (List.mem_append_right _ hq))))))) p hp
            · exact Nat.le_trans (mu_pop (c := c4) (c' := (⟨rest, f.key :: c4.fin, o9, c4.os, c4.sn, without c4.pv f.key, c4.vi + 1, c4.vt + 1, frs7⟩ : Fst)) hf4 rfl rfl) hmu4
            · exact fun x hx => .tail _ (hfin4 x hx)
            · rw [hf4] at hk4
              rcases List.mem_append.mp hk4 with q | q
              · rcases List.mem_cons.mp q with q | q
                · rw [q]; exact List.mem_append_right _ (.head _)
                · exact List.mem_append_left _ q
              · exact List.mem_append_right _ (.tail _ q)
            · show rest.length < c4.fs.length
              rw [hf4, List.length_cons]; exact Nat.lt_succ_self _
  · intro c u h tk hJ F7 N7
    obtain ⟨I1, hfs, hfin⟩ := hJ
    ((try clear pk); (try clear pk))
    k_steps
    rename News _ _ _ _ => nE
    rename Fr _ _ _ _ => fE
    obtain ⟨rk, hrk⟩ := Dfs.rank (keys := S.nodes.map (·.key)) (succ := succAt S.view) (fin := c.fin) (by have h := I1.dfs; rw [hfs] at h; exact h) (fun x hx => by
      obtain ⟨n, hn, e⟩ := List.mem_map.mp hx
      rw [← e]
      refine hfin n ?_
      have e2 : (kvsOf S.nodes).length = S.nodes.length := by unfold kvsOf; rw [List.length_map]
      rw [e2, List.take_length]
      exact hn)
    have hndE : ((S.objs w ++ c.frs).map (·.1)).Nodup := List.Nodup.sublist (List.Sublist.map _ (((((List.sublist_append_right (fmObjs c.fs) (S.objs w ++ c.frs)).cons _).cons _).cons _).cons _)) I1.nodup
    (try subst hbase)
    exact hret0 c.frs _ _ rk hrk I1.up (post_of fE nE (fun p hp => .tail _ (.tail _ (.tail _ (.tail _ (List.mem_append_right _ hp))))) hndE)
end find_cC
section
variable {w : World} {mean : ExcName → Option Value} {mg mb : Str → Option Value} {A : Around} {hb : Heap} {s : Shared} {Q E : Value → Shared → Prop}
theorem find_c (S : So) {l : List Env} {frs : List (Addr × Obj)} (X : (hd.heap_1 w.params).In hb) (T : Top hd.view_1 (looseW hd.view_1 [Str.ofString "_NodeInfo"]) mean mg mb hb) (St : hb.StaysIn s.heap)
   (hfr : A.frames = some l) (Fs : TI.Frs l frs) (C : Pre hb s.heap (S.objs w ++ frs)) (O : S.Ok w) (hh : A.handled = none) (hn50 : S.nodes.length ≤ 50) (hb1 : ∀ nd ∈ S.nodes, nd.its.length ≤ 10000)
   (hsucc : ∀ u ∈ S.nodes.map (·.key), ∀ v ∈ succAt S.view u, v ∈ S.nodes.map (·.key)) (hd : A.depth + 5 < recursionLimit)
    (hret0 : ∀ frs' h' tk' (rk : Int → Nat), (∀ u ∈ S.nodes.map (·.key), ∀ v ∈ succAt S.view u, rk v < rk u) → TI.SameUp frs frs' → Post s.heap h' (S.objs w ++ frs) (S.objs w ++ frs') → Q .none { s with heap := h', toks := tk' })
    (hret1 : ∀ cl ci frs' h' tk' x, Way (S.nodes.map (·.key)) (succAt S.view) x x → ci ≠ [] → ci.length ≤ 1000 → TI.SameUp frs frs' → Post s.heap h' (S.objs w ++ frs) ((cl, listOf ci.toArray 0) :: (S.objs w ++ frs')) → Q (.ref cl) { s with heap := h', toks := tk' }) :
    wpAny (model PySem.Challenge.rw_oh0070_01.row.prog w) A (call (.ref 155) [.ref S.x]) Q E s := by
  refine Classical.byContradiction fun hz9 => ?_
  exact @Classical.epsilon_spec find_cP (fun x => ¬ find_cS x) ⟨⟨w, mean, mg, mb, A, hb, s, Q, E, S, l, frs⟩, fun zz9 => hz9 (zz9 X T St hfr Fs C O hh hn50 hb1 hsucc hd hret0 hret1)⟩ find_cC.key
end
end Part_M14
section Part_M15
theorem rules_M15 : True := by
  k_with_none
  w_top off
  k_with "eval ListComp" => refine parkAt (n := 0) (by with_reducible assumption) ?_
  k_with "call ref" => refine parkAt (n := 1) (by with_reducible assumption) ?_
  k_with "m mine list" => first | exact isL (by k_asm) (by k_mem) | exact isB (by k_asm) (by assumption)
  k_with "m call builtin:len" => (k_here; (try dsimp only); (with_reducible show wpAny _ _ (call (Value.builtin "len") [Value.ref _]) _ _ _); k_dflt (refine' len_L ?zqk1 ?zqk3 ?zqk4 ?_; (case zqk1 => walk_at "mine list"); (case zqk3 => assumption); (case zqk4 => omega)))
  k_with "m subscriptTail" => (k_here; (try dsimp only); (with_reducible show wpAny _ _ (subscriptTail _ _ (Value.ref _) (Value.int _ _)) _ _ _); k_dflt (first | (refine' item_L ?zqk1 ?zqk3 ?zqk4 ?zqk5 ?zqk6 ?_ ?zqk8; (case zqk1 => walk_at "mine list"); (case zqk3 => assumption); (case zqk5 => with_reducible assumption); (case zqk4 => omega); (case zqk6 => omega); (case zqk8 => with_unfolding_all rfl); k_whole; intro t9) | (refine' out_L ?zqk0 ?zqk1 ?zqk3 ?zqk4 ?zqk5 ?_ ?zqk8; (case zqk0 => first | rfl | assumption); (case zqk1 => walk_at "mine list"); (case zqk3 => assumption); (case zqk4 => omega); (case zqk5 => omega); (case zqk8 => with_unfolding_all rfl); k_whole; intro h9 tk9 e9 x9)))
  k_with "m subscriptTail Name Name ref int" => (k_here; (try dsimp only); (with_reducible show wpAny _ _ (subscriptTail _ _ (Value.ref _) (Value.int _ _)) _ _ _); k_dflt (first | (refine' item_L ?zqk1 ?zqk3 ?zqk4 ?zqk5 ?zqk6 ?_ ?zqk8; (case zqk1 => walk_at "mine list"); (case zqk3 => assumption); (case zqk5 => with_reducible assumption); (case zqk4 => omega); (case zqk6 => omega); (case zqk8 => with_unfolding_all rfl); k_whole; intro t9) | (refine' out_L ?zqk0 ?zqk1 ?zqk3 ?zqk4 ?zqk5 ?_ ?zqk8; (case zqk0 => first | rfl | assumption); (case zqk1 => walk_at "mine list"); (case zqk3 => assumption); (case zqk4 => omega); (case zqk5 => omega); (case zqk8 => with_unfolding_all rfl); k_whole; intro h9 tk9 e9 x9) | (refine' out_over ?zqk0 ?zqkN ?zqkm ?zqkb ?zqk1 ?zqk3 ?zqk4 ?zqk5 ?_ ?zqk8; (case zqk0 => rfl); (case zqkN => k_asm); (case zqkm => k_mem); (case zqkb => assumption); (case zqk1 => walk_at "mine list"); (case zqk3 => assumption); (case zqk4 => omega); (case zqk5 => omega); (case zqk8 => with_unfolding_all rfl); k_whole; intro h9 tk9 e9 x9)))
  k_with "m subscriptTail Name Slice ref ref" => (k_here; k_dflt (refine' kmk_slice_ints ?zqF ?zqN ?zql ?zqpl ?zqpu ?zqhi ?zqhm rfl ?_ ?zqhs ?zqht ?zqhz; (case zqF => k_asm); (case zqN => k_asm); (case zql => walk_at "mine list"); (case zqpl => kmk_part); (case zqpu => kmk_part); (case zqhi => assumption); (case zqhm => first | (with_reducible refine kmk_from (by assumption) ?_; omega) | (with_reducible refine kmk_upto (by assumption) ?_; omega) | with_reducible exact kmk_all (by assumption)); (case zqhs => with_unfolding_all rfl); (case zqht => kmk_pure); (case zqhz => exact kmk_sz (by assumption) (by simp only [sizeLine_eq]; omega)); k_whole; intro D9 ws9 h9 F9 N9 l9 I9 e9 e9'; (try k_lt l9)))
  k_with "m call builtin:list.extend" => (k_here; k_dflt (refine' extend_L ?zqF ?zqN ?zqm ?zqU ?zqi1 ?zqi2 ?zqz ?_; (case zqF => k_asm); (case zqN => k_asm); (case zqU => k_upd); (case zqm => k_mem); (case zqi1 => walk_at "mine ints"); (case zqi2 => walk_at "mine ints"); (case zqz => walk_at "mine len"); k_whole; intro h9 F9 N9 I9))
  k_with "m mine len" => first | omega | (simp only [List.length_append, List.length_drop, List.length_take, List.length_nil, List.length_cons] at *; omega)
  k_with "m mine ints" => first | exact IntsAre.nil | assumption
  k_with "m compareOp In int ref" => (k_here; (try dsimp only); k_dflt (refine' in_L ?zqm ?zqi ?_; (case zqm => walk_at "mine list"); (case zqi => assumption)))
  k_with "m truthy ref" => (k_here; (try dsimp only); (with_reducible show wpAny _ _ (truthy (Value.ref _)) _ _ _); k_dflt (refine' truthy_ne ?zqN ?zqm ?zqe ?zqz ?_; (case zqN => k_asm); (case zqm => k_mem); (case zqe => assumption); (case zqz => assumption); k_whole))
  k_with "m call builtin:dict.values" => (k_here; (try dsimp only); k_dflt (refine' values_V ?zqF ?zqN ?zqp ?zqd ?zql ?_; (case zqF => k_asm); (case zqN => k_asm); (case zqp => k_mem); (case zqd => assumption); (case zql => assumption); k_whole; intro v9 h9 F9 N9 l9))
  trivial
noncomputable abbrev valObj (d : Addr) : Obj := { cls := .type "dict_values", data := .fields #[.ref d] }
noncomputable def VSrc (prog : Program) (w : World) (A : Around) (h₀ : Heap) (L : Addr) (m : Str → Option Value) (env : Env) (ct elt : Expr) (x : Str) (scope : Scope) (cl : List (Str × Addr)) (Q : Value → Shared → Prop) (xv : Value) (s₁ : Shared) : Prop :=
  ∃ v d o kvs news, xv = .ref v ∧ A.handled = none ∧ Fr h₀ L s₁.heap m ∧ News h₀ L s₁.heap news ∧ (v, valObj d) ∈ news ∧ (d, o) ∈ news ∧ o.IsDictOf (intKind prog w) kvs ∧ kvs.length ≤ sizeLine ∧
      ∀ g, LCt.CompRestT prog w A h₀ L m env ct elt x scope cl { s₁ with heap := g } (fun nw => (d, o) ∈ nw) (fun i v => ∃ k, kvs[i]? = some (k, v)) (LCg.FinE h₀ L m { s₁ with heap := g } Q) kvs.length 0 [] news
section
variable {prog : Program} {w : World} {A : Around} {h₀ : Heap} {L : Addr} {m : Str → Option Value} {env : Env} {ct elt : Expr} {x : Str} {scope : Scope} {cl : List (Str × Addr)} {s : Shared} {S : List (Addr × Obj) → Prop} {P : Nat → Value → Prop} {Fin : List Value → List (Addr × Obj) → Prop} {news : List (Addr × Obj)}
noncomputable def CEnd (h₀ : Heap) (L : Addr) (m : Str → Option Value) (s : Shared) (all : List (Addr × Obj)) (P : Prop) (s₃ : Shared) : Prop := P ∧ ∃ h' tk', s₃ = { s with heap := h', toks := tk' } ∧ Fr h₀ L h' m ∧ News h₀ L h' all
theorem cend {h₀ : Heap} {L : Addr} {m : Str → Option Value} {s : Shared} {all : List (Addr × Obj)} {P : Prop} {h' : Heap} {tk' : Nat} (F : Fr h₀ L h' m) (N : News h₀ L h' all) (hP : P) : CEnd h₀ L m s all P { s with heap := h', toks := tk' } := ⟨hP, h', tk', rfl, F, N⟩
/-- the turns of a comprehension with a test, by an invariant over what it has kept -/
theorem restT {n : Nat} (J : Nat → List Value → Prop) (hS : S news) (h0 : J 0 []) (fin : ∀ ys, J n ys → Fin ys news)
    (turn : ∀ i ys v I oI C oC D m₂ h tk (E' : Value → Shared → Prop), i < n → P i v → J i ys → LCg.NsObj oC m₂ → m₂ x = some v → Fr h₀ L h m → News h₀ L h ((I, oI) :: (C, oC) :: (D, LCg.lst ys) :: news) → LCg.Off3 I C D news → ((@Ne Nat I C) ∧ (@Ne Nat I D) ∧ (@Ne Nat C D)) →
      wpAny (model prog w) A (isTrue ct (compEnvC scope cl C env) (eval ct (compEnvC scope cl C env))) (fun ok s' => if ok = true then
        wpAny (model prog w) A (eval elt (compEnvC scope cl C env)) (fun y s₃ => CEnd h₀ L m s ((I, oI) :: (C, oC) :: (D, LCg.lst ys) :: news) (J (i + 1) (ys ++ [y])) s₃) E' s'
        else CEnd h₀ L m s ((I, oI) :: (C, oC) :: (D, LCg.lst ys) :: news) (J (i + 1) ys) s') E' { s with heap := h, toks := tk }) :
    LCt.CompRestT prog w A h₀ L m env ct elt x scope cl s S P Fin n 0 [] news := by
  have key : ∀ (j i : Nat) (ys : List Value), i + j = n → J i ys → LCt.CompRestT prog w A h₀ L m env ct elt x scope cl s S P Fin j i ys news := by
    intro j
    induction j with
    | zero =>
      intro i ys hi hJ
      obtain rfl : i = n := by omega
      exact LCt.CompRestT.zero (fin ys hJ)
    | succ j ih =>
      intro i ys hi hJ
      refine LCt.CompRestT.succ ?_
      intro v I oI C oC D m₂ h tk E' hv hC hx F N off ne
      refine wpAny_mono (turn i ys v I oI C oC D m₂ h tk E' (by omega) hv hJ hC hx F N off ne) (fun ok s' hq => ?_) fun _ _ e => e
      cases ok with
      | true =>
        simp only [if_true] at hq ⊢
        refine wpAny_mono hq (fun y s₃ hy => ?_) fun _ _ e => e
        obtain ⟨hJ', h', tk', rfl, F', N'⟩ := hy
        exact ⟨h', tk', news, rfl, F', N', off, hS, ih (i + 1) _ (by omega) hJ'⟩
      | false =>
        simp only [Bool.false_eq_true, if_false] at hq ⊢
        obtain ⟨hJ', h', tk', rfl, F', N'⟩ := hq
        exact ⟨h', tk', news, rfl, F', N', off, hS, ih (i + 1) _ (by omega) hJ'⟩
  exact key n 0 [] (by omega) h0
/-- the turns of a comprehension without a test -/
theorem restU {n : Nat} (J : Nat → List Value → Prop) (hS : S news) (h0 : J 0 []) (fin : ∀ ys, J n ys → Fin ys news)
    (turn : ∀ i ys v I oI C oC D m₂ h tk (E' : Value → Shared → Prop), i < n → P i v → J i ys → LCg.NsObj oC m₂ → m₂ x = some v → Fr h₀ L h m → News h₀ L h ((I, oI) :: (C, oC) :: (D, LCg.lst ys) :: news) → LCg.Off3 I C D news → ((@Ne Nat I C) ∧ (@Ne Nat I D) ∧ (@Ne Nat C D)) →
      wpAny (model prog w) A (eval elt (compEnvC scope cl C env)) (fun y s₃ => CEnd h₀ L m s ((I, oI) :: (C, oC) :: (D, LCg.lst ys) :: news) (J (i + 1) (ys ++ [y])) s₃) E' { s with heap := h, toks := tk }) :
    LCg.CompRest prog w A h₀ L m env elt x scope cl s S P Fin n 0 [] news := by
  have key : ∀ (j i : Nat) (ys : List Value), i + j = n → J i ys → LCg.CompRest prog w A h₀ L m env elt x scope cl s S P Fin j i ys news := by
    intro j
    induction j with
    | zero =>
      intro i ys hi hJ
      obtain rfl : i = n := by omega
      exact LCg.CompRest.zero (fin ys hJ)
    | succ j ih =>
      intro i ys hi hJ
      refine LCg.CompRest.succ ?_
      intro v I oI C oC D m₂ h tk E' hv hC hx F N off ne
      refine wpAny_mono (turn i ys v I oI C oC D m₂ h tk E' (by omega) hv hJ hC hx F N off ne) (fun y s₃ hy => ?_) fun _ _ e => e
      obtain ⟨hJ', h', tk', rfl, F', N'⟩ := hy
      exact ⟨h', tk', news, rfl, F', N', off, hS, ih (i + 1) _ (by omega) hJ'⟩
  exact key n 0 [] (by omega) h0
end
section
variable {prog : Program} {w : World} {A : Around} {E : Value → Shared → Prop} {s : Shared} {h₀ : Heap} {L d : Addr} {m : Str → Option Value} {news : List (Addr × Obj)} {o : Obj} {kvs : List (Int × Value)}
theorem values_V {Q : Value → Shared → Prop} (F : Fr h₀ L s.heap m) (N : News h₀ L s.heap news) (hp : (d, o) ∈ news) (hd : o.IsDictOf (intKind prog w) kvs) (lo : (d == sysModules) = false)
    (h : ∀ v h', Fr h₀ L h' m → News h₀ L h' ((v, valObj d) :: news) → (∀ p ∈ news, p.1 < v) → Q (.ref v) { s with heap := h' }) : wpAny (model prog w) A (call (.builtin "dict.values") [.ref d]) Q E s := by
  have hD := kda_dict N hp hd
  refine call_meetsIn PySem.F.slot_dict_values hD.typeIs PySem.F.entry_dict_values (PySem.F.args_dict_values_1 _) (meets_dict_values (intKind prog w) d lo) ⟨⟨kvs, hD⟩, ?_⟩
  exact h _ _ (F.push _) (News.push F N _ rfl) (fun p hp => Heap.lt_size (N p hp).1)
theorem nd_mem {ns : List Nd} {nd : Nd} : nd ∈ ns → (nd.a, nodeOf nd) ∈ ndObjs ns ∧ (nd.d, dictOf [] 0) ∈ ndObjs ns ∧ (nd.l, listOf nd.its.toArray nd.n) ∈ ndObjs ns := by
  induction ns with
  | nil => exact fun h => nomatch h
  | cons n ns ih =>
    intro h
    rcases List.mem_cons.mp h with rfl | h
    · exact ⟨.head _, .tail _ (.head _), .tail _ (.tail _ (.head _))⟩
    · obtain ⟨a, b, c⟩ := ih h
      exact ⟨.tail _ (.tail _ (.tail _ a)), .tail _ (.tail _ (.tail _ b)), .tail _ (.tail _ (.tail _ c))⟩
end
noncomputable abbrev comp_VP := (Program) × (World) × (Around) × (Value → Shared → Prop) × (Shared) × (Heap) × (Addr) × (Str → Option Value) × (Env) × (Expr) × (Expr) × (Expr) × (Str) × (Pos) × (Scope) × (List (Str × Addr)) × (Pos) × (Value → Shared → Prop)
noncomputable def comp_VS : comp_VP → Prop := fun p => (fun (prog : Program) (w : World) (A : Around) (E : Value → Shared → Prop) (s : Shared) (h₀ : Heap) (L : Addr) (m : Str → Option Value) (env : Env) (ct : Expr) (elt : Expr) (iter : Expr) (x : Str) (px : Pos) (scope : Scope) (cl : List (Str × Addr)) (pos : Pos) (Q : Value → Shared → Prop) => ∀ (hF0 : Fr h₀ L s.heap m)
   (hclos : closureFor scope env = pure cl)
   (hcell : ∀ y ∈ scope.names, y.2 ≠ .cell)
   (hkind : scope.kind = .function)
   (hnames : ∀ y ∈ scope.names, y.2 = .local → scope.names.lookup y.1 = some .local)
   (hx : scope.names.lookup x = some .local)
   (h : wpAny (model prog w) A (eval iter env) (VSrc prog w A h₀ L m env ct elt x scope cl Q) E s)
   (hs : ∀ x, foldedSetIterable iter env x = pure x),
    wpAny (model prog w) A (eval (.ListComp elt [⟨.Name x px, iter, [ct], 0⟩] scope pos) env) Q E s) p.1 p.2.1 p.2.2.1 p.2.2.2.1 p.2.2.2.2.1 p.2.2.2.2.2.1 p.2.2.2.2.2.2.1 p.2.2.2.2.2.2.2.1 p.2.2.2.2.2.2.2.2.1 p.2.2.2.2.2.2.2.2.2.1 p.2.2.2.2.2.2.2.2.2.2.1 p.2.2.2.2.2.2.2.2.2.2.2.1 p.2.2.2.2.2.2.2.2.2.2.2.2.1 p.2.2.2.2.2.2.2.2.2.2.2.2.2.1 p.2.2.2.2.2.2.2.2.2.2.2.2.2.2.1 p.2.2.2.2.2.2.2.2.2.2.2.2.2.2.2.1 p.2.2.2.2.2.2.2.2.2.2.2.2.2.2.2.2.1 p.2.2.2.2.2.2.2.2.2.2.2.2.2.2.2.2.2
noncomputable def comp_VX : comp_VP := @Classical.epsilon comp_VP ⟨⟨default, ⟨fun _ _ => 0, { strHash := fun _ => 0, shareClass := fun _ => 0, mergeTok := fun t => t, idOf := fun _ => 0, idOfShared := fun _ _ => 0, followText := fun _ => false, idOfImm := fun _ => 0 }⟩, callerA, fun _ _ => True, {}, {}, 0, fun _ => none, default, default, default, default, ⟨#[]⟩, default, default, [], default, fun _ _ => True⟩⟩ fun x => ¬ comp_VS x
namespace comp_VC
noncomputable def prog : Program := comp_VX.1
noncomputable def w : World := comp_VX.2.1
noncomputable def A : Around := comp_VX.2.2.1
noncomputable def E : Value → Shared → Prop := comp_VX.2.2.2.1
noncomputable def s : Shared := comp_VX.2.2.2.2.1
noncomputable def h₀ : Heap := comp_VX.2.2.2.2.2.1
noncomputable def L : Addr := comp_VX.2.2.2.2.2.2.1
noncomputable def m : Str → Option Value := comp_VX.2.2.2.2.2.2.2.1
noncomputable def env : Env := comp_VX.2.2.2.2.2.2.2.2.1
noncomputable def ct : Expr := comp_VX.2.2.2.2.2.2.2.2.2.1
noncomputable def elt : Expr := comp_VX.2.2.2.2.2.2.2.2.2.2.1
noncomputable def iter : Expr := comp_VX.2.2.2.2.2.2.2.2.2.2.2.1
noncomputable def x : Str := comp_VX.2.2.2.2.2.2.2.2.2.2.2.2.1
noncomputable def px : Pos := comp_VX.2.2.2.2.2.2.2.2.2.2.2.2.2.1
noncomputable def scope : Scope := comp_VX.2.2.2.2.2.2.2.2.2.2.2.2.2.2.1
noncomputable def cl : List (Str × Addr) := comp_VX.2.2.2.2.2.2.2.2.2.2.2.2.2.2.2.1
noncomputable def pos : Pos := comp_VX.2.2.2.2.2.2.2.2.2.2.2.2.2.2.2.2.1
noncomputable def Q : Value → Shared → Prop := comp_VX.2.2.2.2.2.2.2.2.2.2.2.2.2.2.2.2.2
theorem key : ∀ (hF0 : Fr h₀ L s.heap m)
   (hclos : closureFor scope env = pure cl)
   (hcell : ∀ y ∈ scope.names, y.2 ≠ .cell)
   (hkind : scope.kind = .function)
   (hnames : ∀ y ∈ scope.names, y.2 = .local → scope.names.lookup y.1 = some .local)
   (hx : scope.names.lookup x = some .local)
   (h : wpAny (model prog w) A (eval iter env) (VSrc prog w A h₀ L m env ct elt x scope cl Q) E s)
   (hs : ∀ x, foldedSetIterable iter env x = pure x),
    wpAny (model prog w) A (eval (.ListComp elt [⟨.Name x px, iter, [ct], 0⟩] scope pos) env) Q E s := by
  intro hF0 hclos hcell hkind hnames hx h hs
  rw [eval_ListComp]
  refine wpAny_comprehension_free (use := none) rfl hs hclos hkind hnames (wpAny_mono h (fun xv s₁ h₁ => ?_) fun _ _ e => e)
  obtain ⟨v, d, o, kvs, news, rfl, hh, F, N, hv, hp, hd, hsz, R⟩ := h₁
  obtain ⟨ep, ha⟩ := KdkAt.of hd
  have hD := ha.dictAt (N _ hp).1
  refine wpAny_pyIter_values ⟨_, (N _ hv).1, rfl, rfl⟩ hD ?_
  have hdlt : d < s₁.heap.objs.size := Heap.lt_size (N _ hp).1
  have up : ∀ b o', s₁.heap.get? b = some o' → (s₁.heap.push { cls := .type "dict_valueiterator", data := .fields #[.ref d, .int 0 0, .int kvs.length 0, .int ep 0] }).get? b = some o' := fun b o' e => Heap.get?_push_of_some _ e
  refine LCt.block_T (Walks.dictValues hh s₁.heap.objs.size d (Nat.ne_of_lt hdlt) kvs ep) hsz (fun i h st => by obtain ⟨o, e, _⟩ := st.1; exact ⟨o, e⟩) (fun i h h' o' nw st e e' k NN S => ⟨by obtain ⟨o2, q, r⟩ := st.1; rw [e] at q; cases q; exact ⟨o', e', r⟩, ha.dictAt (NN _ S).1⟩)
    hcell hkind hx ⟨⟨_, Heap.get?_push_size _ rfl, rfl, rfl⟩, ha.dictAt (up _ _ (N _ hp).1)⟩ (fun b hb => ?_) (F.keeps up) (N.grown up) (Nat.ne_of_lt F.ns.lt) (next_is_new F) (fun p hp => Nat.ne_of_lt (Heap.lt_size (N p hp).1)) hp (R _) ?_
  · show b < (s₁.heap.push _).objs.size
    rw [Heap.size_push]
    rcases List.mem_cons.mp hb with rfl | hb
    · exact Nat.lt_succ_self _
    · rw [List.mem_singleton.mp hb]; exact Nat.lt_succ_of_lt hdlt
  · intro D C h tk m' ys news' F' N' o1 hn hC₀ hD₀ hCL hDL hCD offC fin
    refine ⟨m', hn, fun h'' hs'' => fin D h'' tk (F'.change hs'' hCL hC₀) (fun p hp => ?_) o1⟩
    refine ⟨hs''.extBut _ _ ?_ (N' p hp).1, (N' p hp).2⟩
    rcases List.mem_cons.mp hp with rfl | hp
    · exact Ne.symm hCD
    · exact offC p hp
end comp_VC
section
variable {dmy : Nat}
theorem comp_V {prog : Program} {w : World} {A : Around} {E : Value → Shared → Prop} {s : Shared} {h₀ : Heap} {L : Addr} {m : Str → Option Value} {env : Env} {ct elt iter : Expr} {x : Str} {px : Pos} {scope : Scope} {cl : List (Str × Addr)} {pos : Pos} {Q : Value → Shared → Prop} (hF0 : Fr h₀ L s.heap m)
    (hclos : closureFor scope env = pure cl) (hcell : ∀ y ∈ scope.names, y.2 ≠ .cell) (hkind : scope.kind = .function)
    (hnames : ∀ y ∈ scope.names, y.2 = .local → scope.names.lookup y.1 = some .local) (hx : scope.names.lookup x = some .local)
    (h : wpAny (model prog w) A (eval iter env) (VSrc prog w A h₀ L m env ct elt x scope cl Q) E s)
    (hs : ∀ x, foldedSetIterable iter env x = pure x := by intro _; rfl) :
    wpAny (model prog w) A (eval (.ListComp elt [⟨.Name x px, iter, [ct], 0⟩] scope pos) env) Q E s := by
  refine Classical.byContradiction fun hz9 => ?_
  exact @Classical.epsilon_spec comp_VP (fun x => ¬ comp_VS x) ⟨⟨prog, w, A, E, s, h₀, L, m, env, ct, elt, iter, x, px, scope, cl, pos, Q⟩, fun zz9 => hz9 (zz9 hF0 hclos hcell hkind hnames hx h hs)⟩ comp_VC.key
end
section
variable {prog : Program} {w : World} {A : Around} {E : Value → Shared → Prop} {s : Shared} {h₀ : Heap} {L d : Addr} {m : Str → Option Value} {news : List (Addr × Obj)} {o : Obj} {kvs : List (Int × Value)}
end
/-- the entry of a def that may raise -/
theorem enter_raise {prog : Program} {w : World} {A : Around} {s : Shared} {hb : Heap} {K : Frag} {H : List Addr} {R : Result → Shared → Prop} {mg mb : Str → Option Value} {p : Program} {loose : List Str} {mean : ExcName → Option Value}
    {name qual : Str} {params : Arguments} {body : List Stmt} {scope : Scope} {dV kV doc pm cdv ct oc : Value} {an od : Option Addr} {osl : Array (Option Value)} {f : Addr} {args : Args} {binds : List (Str × Value)}
    (X : K.In hb) (T : Top p loose mean mg mb hb) (St : hb.StaysIn s.heap) (hH : ∀ a ∈ H, hb.get? a = none)
    (ho : K.lookup f = some ⟨oc, od, .func (fnOf name qual params body scope dV kV doc pm an cdv ct), osl⟩) (hcd : codeIn K cdv qual = true) (hroom : A.depth < recursionLimit)
    (hbind : BindsTo s (fnOf name qual params body scope dV kV doc pm an cdv ct) args binds) (hloc : ∀ y ∈ binds, scope.names.lookup y.1 = some .local)
    (h : ∀ g L' h₁, g = hideAll s.heap H → L' = s.heap.objs.size → Fr g L' h₁ (fun y => binds.reverse.lookup y) → (∀ b o, s.heap.get? b = some o → h₁.get? b = some o) → K.In g → Top p loose mean mg mb g → hb.StaysIn g →
      wpAny (model prog w) (A.deeper (envOf qual scope L' f cdv)) (execs body (envOf qual scope L' f cdv))
        (fun fl s' => R (.ok (.ret (match fl with | .ret v => v | _ => .none))) s')
        (fun e s' => wpAny (model prog w) (A.deeper (envOf qual scope L' f cdv)) (leaving (envOf qual scope L' f cdv) e) (fun _ s'' => R (.error e) s'') (fun e' s'' => R (.error e') s'') s')
        { s with heap := h₁, toks := s.toks + binds.length })
    (hco : scope.isCoroutine = false) (hgen : scope.isGenerator = false) (hk : scope.kind = .function)
    (hcell : ∀ x ∈ scope.names, x.2 ≠ .cell) : codeAny (model prog w) A (.call (.ref f) args) R s := by
  have Xs : K.In s.heap := X.keeps St
  have sg : hb.StaysIn (hideAll s.heap H) := fun b o e => hideAll_get _ (St b o e) fun q => by rw [hH b q] at e; cases e
  refine codeAny_call_def (fd := fnOf name qual params body scope dV kV doc pm an cdv ct) (body := body) (binds := binds) hroom (Xs _ _ ho) rfl (T.nolimit.keeps St) (codeRec_of Xs hcd) rfl hbind hcell hloc (fun h₁ hns hk₁ => ?_) hco hgen hk
  exact h _ _ h₁ rfl rfl ⟨hns, fun b o e => hk₁ b o (of_hideAll _ e), Nat.le_of_eq (hideAll_size _ _)⟩ hk₁ (X.keeps sg) (T.keeps sg) sg
/-- behind a call that notes frames: the caller's own frame is among them -/
theorem Post.frame {base h h' : Heap} {L : Addr} {m : Str → Option Value} {oL : Obj} {objs new frs frs' : List (Addr × Obj)} (F : Fr base L h m) (hoL : h.get? L = some oL) (N : News base L h (objs ++ frs)) (P : Post h h' (objs ++ (L, oL) :: frs) (new ++ frs')) (SU : TI.SameUp ((L, oL) :: frs) frs') :
    ∃ oL' frsT, frs' = (L, oL') :: frsT ∧ TI.SameUp frs frsT ∧ Fr base L h' m ∧ News base L h' (new ++ frsT) ∧ ((new ++ frsT).map (·.1)).Nodup ∧ h'.get? L = some oL' := by
  cases frs' with
  | nil => exact SU.elim
  | cons q frsT =>
    obtain ⟨q1, q2⟩ := q
    obtain ⟨hq, ⟨sl, hsl⟩, SU'⟩ := SU
    dsimp only at hq hsl
    subst hq
    have hLb : base.get? q1 = none := Heap.get?_none_of_le F.above
    have hold : ∀ b o, base.get? b = some o → b ∉ (objs ++ (q1, oL) :: frs).map (·.1) := fun b o e hm => by
      obtain ⟨p, hp, rfl⟩ := List.mem_map.mp hm
      rcases List.mem_append.mp hp with hp | hp
      · rw [(N p (List.mem_append_left _ hp)).2.2] at e; cases e
      · rcases List.mem_cons.mp hp with rfl | hp
        · rw [hLb] at e; cases e
        · rw [(N p (List.mem_append_right _ hp)).2.2] at e; cases e
    have hL' : h'.get? q1 = some q2 := P.there (q1, q2) (List.mem_append_right _ (.head _))
    have hnd : ((new ++ frsT).map (·.1)).Nodup ∧ ∀ p ∈ new ++ frsT, p.1 ≠ q1 := by
      have h1 := P.nodup
      have e : List.Perm (new ++ (q1, q2) :: frsT) ((q1, q2) :: (new ++ frsT)) := List.perm_middle
      have h2 := (List.Perm.nodup_iff (e.map (·.1))).mp h1
      rw [List.map_cons, List.nodup_cons] at h2
      exact ⟨h2.2, fun p hp q => h2.1 (by
        have h3 : p.1 ∈ (new ++ frsT).map (·.1) := List.mem_map_of_mem hp
        rw [q] at h3; exact h3)⟩
    have F' : Fr base q1 h' m := ⟨by
      obtain ⟨o, es, ep, ho, hd, r⟩ := F.ns
      rw [hoL] at ho
      cases ho
      exact ⟨q2, es, ep, hL', by rw [hsl]; exact hd, r⟩, fun b o e => P.keep b o (hold b o e) (F.keep b o e), F.above⟩
    refine ⟨q2, frsT, rfl, SU', F', fun p hp => ?_, hnd.1, hL'⟩
    have hp' : p ∈ new ++ (q1, q2) :: frsT := by
      rcases List.mem_append.mp hp with hp | hp
      · exact List.mem_append_left _ hp
      · exact List.mem_append_right _ (.tail _ hp)
    refine ⟨P.there p hp', hnd.2 p hp, ?_⟩
    rcases P.fresh p hp' with hm | hn
    · obtain ⟨x, hx, e⟩ := List.mem_map.mp hm
      rw [← e]
      rcases List.mem_append.mp hx with hx | hx
      · exact (N x (List.mem_append_left _ hx)).2.2
      · rcases List.mem_cons.mp hx with rfl | hx
        · exact hLb
        · exact (N x (List.mem_append_right _ hx)).2.2
    · cases q : base.get? p.1 with
      | none => rfl
      | some o => rw [F.keep _ _ q] at hn; cases hn
theorem off1_mem {D : Addr} : ∀ {l : List (Addr × Obj)}, LCg.Off1 D l → ∀ p ∈ l, p.1 ≠ D
  | [], _, p, h => nomatch h
  | q :: l, o, p, h => by
    rcases List.mem_cons.mp h with rfl | h
    · exact o.1
    · exact off1_mem o.2 p h
theorem truthy_ne {prog : Program} {w : World} {A : Around} {E : Value → Shared → Prop} {s : Shared} {h₀ : Heap} {L D : Addr} {news : List (Addr × Obj)} {n : Nat} {ci : List Value} {Q : Bool → Shared → Prop} (N : News h₀ L s.heap news) (hm : (D, listOf ci.toArray n) ∈ news) (hne : ci ≠ []) (hz : ci.length ≤ 1000) (h : Q true { s with toks := s.toks + 1 + 1 }) :
    wpAny (model prog w) A (truthy (.ref D)) Q E s :=
  wpAny_truthy_list (isL N hm) (by rw [List.size_toArray]; omega) (by
    have e : (!(ci.toArray).isEmpty) = true := by cases ci with
      | nil => exact absurd rfl hne
      | cons => rfl
    rw [e]; exact h)
theorem fillM15 (w : World) (h : Heap) : PySem.Challenge.rw_oh0070_01.foot = 5 → (hd.heap_1 w.params).In h → True := by
  k_fill
  intro _ _
  trivial
noncomputable abbrev prepare_cP := (World) × (ExcName → Option Value) × (Str → Option Value) × (Str → Option Value) × (Around) × (Heap) × (Shared) × (Value → Shared → Prop) × (Value → Shared → Prop) × (So) × (List Env) × (List (Addr × Obj))
noncomputable def prepare_cS : prepare_cP → Prop := fun p => (fun (w : World) (mean : ExcName → Option Value) (mg : Str → Option Value) (mb : Str → Option Value) (A : Around) (hb : Heap) (s : Shared) (Q : Value → Shared → Prop) (E : Value → Shared → Prop) (S : So) (l : List Env) (frs : List (Addr × Obj)) => ∀ (X : (hd.heap_1 w.params).In hb)
   (T : Top hd.view_1 (looseW hd.view_1 [Str.ofString "_NodeInfo"]) mean mg mb hb)
   (St : hb.StaysIn s.heap)
   (hfr : A.frames = some l)
   (Fs : TI.Frs l frs)
   (C : Pre hb s.heap (S.objs w ++ frs))
   (O : S.Ok w)
   (hh : A.handled = none)
   (hn50 : S.nodes.length ≤ 50)
   (hb1 : ∀ nd ∈ S.nodes, nd.its.length ≤ 10000)
   (hrd : S.rd = .none)
   (hmore : S.more = [])
   (hsucc : ∀ u ∈ S.nodes.map (·.key), ∀ v ∈ succAt S.view u, v ∈ S.nodes.map (·.key))
   (hd : A.depth + 8 < recursionLimit)
   (hret : ∀ r ri rn frs' h' tk' (rk : Int → Nat), IntsAre ri ((S.nodes.filter fun n => decide (n.np = 0)).map (·.key)) → (∀ u ∈ S.nodes.map (·.key), ∀ v ∈ succAt S.view u, rk v < rk u) → TI.SameUp frs frs' →
      Post s.heap h' (S.objs w ++ frs) ((S.ready r ri rn).objs w ++ frs') → Q .none { s with heap := h', toks := tk' })
   (hretE : ∀ r ri rn e B a0 frs' h' tk' x, IntsAre ri ((S.nodes.filter fun n => decide (n.np = 0)).map (·.key)) → Way (S.nodes.map (·.key)) (succAt S.view) x x → TI.SameUp frs frs' → Heap.FlyingW B l e (.ref 83) a0 h' →
      (∀ p ∈ frs', h'.get? p.1 = some p.2 ∧ B.get? p.1 = none) → Post s.heap B (S.objs w ++ frs) ((S.ready r ri rn).objs w) → E (.ref e) { s with heap := h', toks := tk' }),
    wpAny (model PySem.Challenge.rw_oh0070_01.row.prog w) A (call (.ref 120) [.ref S.x]) Q E s) p.1 p.2.1 p.2.2.1 p.2.2.2.1 p.2.2.2.2.1 p.2.2.2.2.2.1 p.2.2.2.2.2.2.1 p.2.2.2.2.2.2.2.1 p.2.2.2.2.2.2.2.2.1 p.2.2.2.2.2.2.2.2.2.1 p.2.2.2.2.2.2.2.2.2.2.1 p.2.2.2.2.2.2.2.2.2.2.2
noncomputable def prepare_cX : prepare_cP := @Classical.epsilon prepare_cP ⟨⟨⟨fun _ _ => 0, { strHash := fun _ => 0, shareClass := fun _ => 0, mergeTok := fun t => t, idOf := fun _ => 0, idOfShared := fun _ _ => 0, followText := fun _ => false, idOfImm := fun _ => 0 }⟩, fun _ => none, fun _ => none, fun _ => none, callerA, {}, {}, fun _ _ => True, fun _ _ => True, ⟨0, 0, 0, 0, 0, 0, 0, 0, { cls := .none, data := .plain }, .none, 0, 0, 0, 0, [], []⟩, [], []⟩⟩ fun x => ¬ prepare_cS x
namespace prepare_cC
noncomputable def w : World := prepare_cX.1
noncomputable def mean : ExcName → Option Value := prepare_cX.2.1
noncomputable def mg : Str → Option Value := prepare_cX.2.2.1
noncomputable def mb : Str → Option Value := prepare_cX.2.2.2.1
noncomputable def A : Around := prepare_cX.2.2.2.2.1
noncomputable def hb : Heap := prepare_cX.2.2.2.2.2.1
noncomputable def s : Shared := prepare_cX.2.2.2.2.2.2.1
noncomputable def Q : Value → Shared → Prop := prepare_cX.2.2.2.2.2.2.2.1
noncomputable def E : Value → Shared → Prop := prepare_cX.2.2.2.2.2.2.2.2.1
noncomputable def S : So := prepare_cX.2.2.2.2.2.2.2.2.2.1
noncomputable def l : List Env := prepare_cX.2.2.2.2.2.2.2.2.2.2.1
noncomputable def frs : List (Addr × Obj) := prepare_cX.2.2.2.2.2.2.2.2.2.2.2
noncomputable def base : Heap := hideAll s.heap ((S.objs w ++ frs).map (·.1))
theorem key : ∀ (X : (hd.heap_1 w.params).In hb)
   (T : Top hd.view_1 (looseW hd.view_1 [Str.ofString "_NodeInfo"]) mean mg mb hb)
   (St : hb.StaysIn s.heap)
   (hfr : A.frames = some l)
   (Fs : TI.Frs l frs)
   (C : Pre hb s.heap (S.objs w ++ frs))
   (O : S.Ok w)
   (hh : A.handled = none)
   (hn50 : S.nodes.length ≤ 50)
   (hb1 : ∀ nd ∈ S.nodes, nd.its.length ≤ 10000)
   (hrd : S.rd = .none)
   (hmore : S.more = [])
   (hsucc : ∀ u ∈ S.nodes.map (·.key), ∀ v ∈ succAt S.view u, v ∈ S.nodes.map (·.key))
   (hd : A.depth + 8 < recursionLimit)
   (hret : ∀ r ri rn frs' h' tk' (rk : Int → Nat), IntsAre ri ((S.nodes.filter fun n => decide (n.np = 0)).map (·.key)) → (∀ u ∈ S.nodes.map (·.key), ∀ v ∈ succAt S.view u, rk v < rk u) → TI.SameUp frs frs' →
      Post s.heap h' (S.objs w ++ frs) ((S.ready r ri rn).objs w ++ frs') → Q .none { s with heap := h', toks := tk' })
   (hretE : ∀ r ri rn e B a0 frs' h' tk' x, IntsAre ri ((S.nodes.filter fun n => decide (n.np = 0)).map (·.key)) → Way (S.nodes.map (·.key)) (succAt S.view) x x → TI.SameUp frs frs' → Heap.FlyingW B l e (.ref 83) a0 h' →
      (∀ p ∈ frs', h'.get? p.1 = some p.2 ∧ B.get? p.1 = none) → Post s.heap B (S.objs w ++ frs) ((S.ready r ri rn).objs w) → E (.ref e) { s with heap := h', toks := tk' }),
    wpAny (model PySem.Challenge.rw_oh0070_01.row.prog w) A (call (.ref 120) [.ref S.x]) Q E s := by
  intro X T St hfr Fs C O hh hn50 hb1 hrd hmore hsucc hd hret hretE
  refine wpAny_call ?_
  have hH : ∀ a ∈ (S.objs w ++ frs).map (·.1), hb.get? a = none := chg_off C.found
  k_dflt (refine' enter_raise (H := (S.objs w ++ frs).map (·.1)) (binds := [(Str.ofString "self", .ref S.x)]) ?k1 ?k2 ?k3 ?k4 ?k6 ?k7 ?k8 ?k9 ?kB ?_ ?c2 ?c3 ?c4 ?c5; (case k1 => k_asm); (case k2 => k_asm); (case k3 => k_asm); (case k4 => first | assumption | (intro a ha; cases ha)); (case k6 => k_is); (case k7 => k_is); (case k8 => k_room); (case k9 => first | exact BindsTo.of_eq rfl | exact binds_K (X.keeps St) rfl (by k_is) rfl rfl rfl); (case c5 => decide); (case kB => exact locs rfl); (case c2 => exact rfl); (case c3 => exact rfl); (case c4 => exact rfl); k_whole; intro g L' h' hg hL' F' K' X' T' S'; (try dsimp only); (try k_fold))
  subst hg hL'
  have N' := chg_news C.found K'
  generalize hbase : hideAll s.heap ((S.objs w ++ frs).map (·.1)) = base at *
  obtain rfl : base = prepare_cC.base := hbase.symm
  have N2 := N'
  rw [objs_rd hrd] at N2
  dsimp only [So.objsE, So.attrs, So.ready, List.cons_append, List.nil_append] at N2
  rw [hmore, List.nil_append] at N2
  clear N'
  have hlo := O.lo
  have hdict := O.dict
  ((try clear pk); (try clear pk))
  have pk : PkAt 0 := trivial
  k_steps
  refine unpark ?_
  rename Fr _ _ _ _ => F2
  refine comp_V F2 (by rfl) (by decide) (by rfl) (by decide) (by rfl) ?_ (by intro _; rfl)
  ((try clear pk); (try clear pk))
  k_steps
  skip
  refine ⟨_, S.d, S.o, kvsOf S.nodes, _, rfl, by show A.handled = none; exact hh, F9, N9, .head _, .tail _ (.tail _ (.tail _ (.head _))), hdict, by rw [sizeLine_eq]; unfold kvsOf; rw [List.length_map]; omega, fun g => restT (fun i ys => IntsAre ys (((S.nodes.take i).filter fun n => decide (n.np = 0)).map (·.key))) (.tail _ (.tail _ (.tail _ (.head _)))) (by rw [List.take_zero]; exact .nil) ?_ ?_⟩
  · intro ys hys
    clear F9 N9
    unfold LCg.FinE
    intro D h tk F N o1
    obtain ⟨d1, d2, d3, d4, d5⟩ := o1
    have v1 : v9 ≠ S.dx := Ne.symm (Nat.ne_of_lt (l9 _ (.tail _ (.head _))))
    have hcn := C.nodup
    simp only [List.map_cons, List.cons_append, List.nodup_cons, List.mem_cons, not_or, hmore, List.nil_append] at hcn
    obtain ⟨⟨c1, c2, c3⟩, ⟨c4, c5⟩, c6, c7⟩ := hcn
    have t1 : ∀ p ∈ ndObjs S.nodes ++ frs, p.1 ≠ S.dx := fun p hp q => c5 (q ▸ fst_mem hp)
    have e1 : (kvsOf S.nodes).length = S.nodes.length := by unfold kvsOf; rw [List.length_map]
    rw [e1, List.take_length] at hys
    ((try clear pk); (try clear pk))
    have pk : PkAt 1 := trivial
    k_steps
    refine unpark ?_
    rename_i h5 F5 N5
    obtain ⟨oL, esL, epL, hoL, hdL, rL⟩ := id F5.ns
    have N6 : News base s.heap.objs.size h5 ((S.ready D ys ys.length).objs w ++ frs) := by
      intro p hp
      have e : (S.ready D ys ys.length).objs w ++ frs = (S.x, instObj 165 S.dx) :: (S.dx, dictOf ((S.ready D ys ys.length).attrs w) S.an) :: (S.d, S.o) :: (D, LCg.lst ys) :: (ndObjs S.nodes ++ frs) := rfl
      rw [e] at hp
      rcases List.mem_cons.mp hp with rfl | hp
      · exact N5 _ (.tail _ (.tail _ (.head _)))
      rcases List.mem_cons.mp hp with rfl | hp
      · exact N5 _ (.tail _ (.tail _ (.tail _ (.head _))))
      rcases List.mem_cons.mp hp with rfl | hp
      · exact N5 _ (.tail _ (.tail _ (.tail _ (.tail _ (.head _)))))
      rcases List.mem_cons.mp hp with rfl | hp
      · exact N5 _ (.head _)
      · exact N5 _ (.tail _ (.tail _ (.tail _ (.tail _ (.tail _ hp)))))
    have hndR : (((S.ready D ys ys.length).objs w ++ frs).map (·.1)).Nodup := by
      have hD : D ∉ (ndObjs S.nodes ++ frs).map (·.1) := fun q => by
        obtain ⟨p, hp, e⟩ := List.mem_map.mp q
        exact off1_mem d5 p hp e
      show (S.x :: S.dx :: S.d :: D :: (ndObjs S.nodes ++ frs).map (·.1)).Nodup
      refine List.nodup_cons.mpr ⟨?_, List.nodup_cons.mpr ⟨?_, List.nodup_cons.mpr ⟨?_, List.nodup_cons.mpr ⟨hD, c7⟩⟩⟩⟩
      · simp only [List.mem_cons, not_or]; exact ⟨c1, c2, d2, c3⟩
      · simp only [List.mem_cons, not_or]; exact ⟨c4, d3, c5⟩
      · simp only [List.mem_cons, not_or]; exact ⟨d4, c6⟩
    have hperm : List.Perm ((S.ready D ys ys.length).objs w ++ (s.heap.objs.size, oL) :: frs) ((s.heap.objs.size, oL) :: ((S.ready D ys ys.length).objs w ++ frs)) := List.perm_middle
    have hLb : base.get? s.heap.objs.size = none := Heap.get?_none_of_le F5.above
    have C5 : Pre base h5 ((S.ready D ys ys.length).objs w ++ (s.heap.objs.size, oL) :: frs) := ⟨fun p hp => by
      rcases List.mem_cons.mp (hperm.mem_iff.mp hp) with rfl | hp
      · exact ⟨hoL, hLb⟩
      · exact ⟨(N6 p hp).1, (N6 p hp).2.2⟩, (List.Perm.nodup_iff (hperm.map (·.1))).mpr (List.nodup_cons.mpr ⟨fun q => by
      obtain ⟨p, hp, e⟩ := List.mem_map.mp q
      exact (N6 p hp).2.1 e, hndR⟩)⟩
    refine find_c (S.ready D ys ys.length) (l := _ :: l) (frs := (s.heap.objs.size, oL) :: frs) X' T' F5.keep (Around.frames_deeper hfr) ⟨(by show ScopeKind.function ≠ ScopeKind.module; decide), rfl, ⟨esL, epL, hdL⟩, Fs⟩ C5 ⟨O.lo, O.dict, O.areInts⟩ (by show A.handled = none; exact hh) hn50 hb1 hsucc (by k_room) ?_ ?_
    · intro frs2 h6 tk6 rk hrk SU P
      obtain ⟨oL', frsT, rfl, SU', F6, N7, nd7, _⟩ := P.frame F5 hoL N6 SU
      clear N5 F5 N6 P C5 hperm
      ((try clear pk); (try clear pk))
      k_steps
      rename Fr _ _ _ _ => fE
      rename News _ _ _ _ => nE
      (try subst hbase)
      exact hret D ys ys.length frsT _ _ rk hys hrk SU' (post_of fE nE (fun _ h => h) nd7)
    · intro cl ci frs2 h6 tk6 x hway hci hcz SU P
      obtain ⟨oL', frsT, rfl, SU', F6, N7, nd7, hL7⟩ := Post.frame (new := (cl, listOf ci.toArray 0) :: (S.ready D ys ys.length).objs w) F5 hoL N6 P SU
      clear N5 F5 N6 P C5 hperm
      have N7 : News base s.heap.objs.size h6 ((cl, listOf ci.toArray 0) :: ((S.ready D ys ys.length).objs w ++ frsT)) := N7
      generalize hT : (S.ready D ys ys.length).objs w ++ frsT = Tl at N7
      ((try clear pk); (try clear pk))
      k_steps
      rename_i h7 F7 N8 h8 e8 x8
      subst hT
      have N9 : News base s.heap.objs.size h7 ((S.ready D ys ys.length).objs w ++ frsT) := fun p hp => N8 p (.tail _ hp)
      have FsT : TI.Frs l frsT := Fs.up SU'
      have hfst : ∀ b, b ∈ frsT.map (·.1) ↔ b ∈ frs.map (·.1) := fun b => by rw [sameUp_fst SU']
      refine wpAny_leaves_madeW (base := TI.gone h7 (s.heap.objs.size :: frsT.map (·.1))) (Around.frames_deeper hfr) rfl (fun b o e => (TI.gone_some e).2) ?hff x8 (fun h9 t9 hfl htup hbt hup => ?_)
      case hff => exact (TI.frames_at (by rfl) FsT F7 N9 (fun p hp => List.mem_append_right _ hp) (fun b o e => ⟨o.slots, e⟩) (fun b hb' => TI.gone_none hb')).1
      obtain ⟨frs9, SU9, ht9⟩ := TI.sameUp_of (h' := h9) (frs := frsT) (fun p hp => hup p.1 p.2 (x8.keeps _ _ (N9 p (List.mem_append_right _ hp)).1) (fun vs q => by
        obtain ⟨es, ep, e⟩ := frs_data FsT p hp
        rw [q] at e; cases e))
      have hdisj : ∀ p ∈ (S.ready D ys ys.length).objs w, p.1 ∉ frsT.map (·.1) := fun p hp q => by
        have h1 : (((S.ready D ys ys.length).objs w ++ frsT).map (·.1)).Nodup := (List.nodup_cons.mp nd7).2
        rw [List.map_append] at h1
        exact (List.nodup_append.mp h1).2.2 p.1 (List.mem_map_of_mem hp) p.1 q rfl
      refine hretE D ys ys.length e8 _ (.ref t9) frs9 h9 _ x hys hway (SU'.trans SU9) hfl (fun p hp => ⟨ht9 p hp, TI.gone_none (.tail _ (by rw [← sameUp_fst SU9]; exact List.mem_map_of_mem hp))⟩) ⟨?_, ?_, ?_, ?_⟩
      · intro b o hb' e
        have e2 : base.get? b = some o := by rw [← hbase]; exact hideAll_get _ e hb'
        refine (TI.gone_get (fun q => ?_)).trans (F7.keep b o e2)
        rcases List.mem_cons.mp q with q | q
        · rw [q, hLb] at e2; cases e2
        · exact hb' (by rw [List.map_append]; exact List.mem_append_right _ ((hfst b).mp q))
      · intro p hp
        refine (TI.gone_get (fun q => ?_)).trans (N9 p (List.mem_append_left _ hp)).1
        rcases List.mem_cons.mp q with q | q
        · exact (N9 p (List.mem_append_left _ hp)).2.1 q
        · exact hdisj p hp q
      · intro p hp
        have h1 := (N9 p (List.mem_append_left _ hp)).2.2
        by_cases hin : p.1 ∈ (S.objs w ++ frs).map (·.1)
        · exact .inl hin
        · refine .inr ?_
          cases q : s.heap.get? p.1 with
          | none => rfl
          | some o =>
            have := hideAll_get ((S.objs w ++ frs).map (·.1)) q hin
            rw [hbase, h1] at this; cases this
      · have h1 : (((S.ready D ys ys.length).objs w ++ frsT).map (·.1)).Nodup := (List.nodup_cons.mp nd7).2
        rw [List.map_append] at h1
        exact (List.nodup_append.mp h1).1
  · clear F9 N9
    intro i ys v I oI C' oC D m₂ h tk E' hi hv hJ hC hx F N off ne
    obtain ⟨k, hk⟩ := hv
    obtain ⟨nd, hnd, rfl⟩ : ∃ n, S.nodes[i]? = some n ∧ v = .ref n.a := by
      unfold kvsOf at hk
      rw [List.getElem?_map] at hk
      cases q : S.nodes[i]? with
      | none => rw [q] at hk; cases hk
      | some n => rw [q] at hk; exact ⟨n, rfl, (Prod.mk.inj (Option.some.inj hk)).2.symm⟩
    have hin := List.mem_of_getElem? hnd
    have htake : ((S.nodes.take (i + 1)).filter fun n => decide (n.np = 0)).map (·.key) = ((S.nodes.take i).filter fun n => decide (n.np = 0)).map (·.key) ++ (if nd.np = 0 then [nd.key] else []) := by
      rw [List.take_add_one, hnd, List.filter_append, List.map_append]
      show _ ++ (List.filter _ [nd]).map _ = _
      rw [List.filter_cons]
      by_cases q : nd.np = 0
      · rw [if_pos (by simpa using q), if_pos q]; rfl
      · rw [if_neg (by simpa using q), if_neg q]; rfl
    have hma : (nd.a, nodeOf nd) ∈ ndObjs S.nodes ++ frs := List.mem_append_left _ (nd_mem hin).1
    have hmd : (nd.d, dictOf [] 0) ∈ ndObjs S.nodes ++ frs := List.mem_append_left _ (nd_mem hin).2.1
    generalize hAll : (I, oI) :: (C', oC) :: (D, LCg.lst ys) :: _ = All at N
    have hma' : (nd.a, nodeOf nd) ∈ All := by rw [← hAll]; exact .tail _ (.tail _ (.tail _ (.tail _ (.tail _ (.tail _ (.tail _ hma))))))
    have hmd' : (nd.d, dictOf [] 0) ∈ All := by rw [← hAll]; exact .tail _ (.tail _ (.tail _ (.tail _ (.tail _ (.tail _ (.tail _ hmd))))))
    have hC' : (C', oC) ∈ All := by rw [← hAll]; exact .tail _ (.head _)
    have N3 : News base s.heap.objs.size h ((nd.a, nodeOf nd) :: (nd.d, dictOf [] 0) :: (C', oC) :: All) := fun p hp => by
      rcases List.mem_cons.mp hp with rfl | hp
      · exact N _ hma'
      rcases List.mem_cons.mp hp with rfl | hp
      · exact N _ hmd'
      rcases List.mem_cons.mp hp with rfl | hp
      · exact N _ hC'
      · exact N p hp
    clear N
    ((try clear pk); (try clear pk))
    k_steps
    · have h0 : nd.np = 0 := by first | assumption | simp_all
      rw [if_pos h0] at htake
      rename News _ _ _ _ => nE
      refine cend (by assumption) (fun p hp => nE p (.tail _ (.tail _ (.tail _ hp)))) ?_
      rw [htake]
      exact ints_snoc hJ _ _
    · have h0 : ¬ nd.np = 0 := by first | assumption | simp_all
      rw [if_neg h0, List.append_nil] at htake
      rename News _ _ _ _ => nE
      refine cend (by assumption) (fun p hp => nE p (.tail _ (.tail _ (.tail _ hp)))) ?_
      rw [htake]
      exact hJ
end prepare_cC
section
variable {w : World} {mean : ExcName → Option Value} {mg mb : Str → Option Value} {A : Around} {hb : Heap} {s : Shared} {Q E : Value → Shared → Prop}
theorem prepare_c (S : So) {l : List Env} {frs : List (Addr × Obj)} (X : (hd.heap_1 w.params).In hb) (T : Top hd.view_1 (looseW hd.view_1 [Str.ofString "_NodeInfo"]) mean mg mb hb) (St : hb.StaysIn s.heap)
   (hfr : A.frames = some l) (Fs : TI.Frs l frs) (C : Pre hb s.heap (S.objs w ++ frs)) (O : S.Ok w) (hh : A.handled = none) (hn50 : S.nodes.length ≤ 50) (hb1 : ∀ nd ∈ S.nodes, nd.its.length ≤ 10000) (hrd : S.rd = .none) (hmore : S.more = [])
   (hsucc : ∀ u ∈ S.nodes.map (·.key), ∀ v ∈ succAt S.view u, v ∈ S.nodes.map (·.key)) (hd : A.depth + 8 < recursionLimit)
    (hret : ∀ r ri rn frs' h' tk' (rk : Int → Nat), IntsAre ri ((S.nodes.filter fun n => decide (n.np = 0)).map (·.key)) → (∀ u ∈ S.nodes.map (·.key), ∀ v ∈ succAt S.view u, rk v < rk u) → TI.SameUp frs frs' →
      Post s.heap h' (S.objs w ++ frs) ((S.ready r ri rn).objs w ++ frs') → Q .none { s with heap := h', toks := tk' })
    (hretE : ∀ r ri rn e B a0 frs' h' tk' x, IntsAre ri ((S.nodes.filter fun n => decide (n.np = 0)).map (·.key)) → Way (S.nodes.map (·.key)) (succAt S.view) x x → TI.SameUp frs frs' → Heap.FlyingW B l e (.ref 83) a0 h' →
      (∀ p ∈ frs', h'.get? p.1 = some p.2 ∧ B.get? p.1 = none) → Post s.heap B (S.objs w ++ frs) ((S.ready r ri rn).objs w) → E (.ref e) { s with heap := h', toks := tk' }) :
    wpAny (model PySem.Challenge.rw_oh0070_01.row.prog w) A (call (.ref 120) [.ref S.x]) Q E s := by
  refine Classical.byContradiction fun hz9 => ?_
  exact @Classical.epsilon_spec prepare_cP (fun x => ¬ prepare_cS x) ⟨⟨w, mean, mg, mb, A, hb, s, Q, E, S, l, frs⟩, fun zz9 => hz9 (zz9 X T St hfr Fs C O hh hn50 hb1 hrd hmore hsucc hd hret hretE)⟩ prepare_cC.key
end
end Part_M15
section Part_M16a
theorem anew_M16a : True := by k_with_none; w_top off; trivial
theorem cel_nodup {L : Addr} {oc os ow : Obj} {frs : List (Addr × Obj)} (hfn : (frs.map (·.1)).Nodup) (hfl : ∀ p ∈ frs, @LT.lt Nat _ p.1 L) : (((L + 1 + 1 + 1, oc) :: (L + 1 + 1, os) :: (L + 1, ow) :: frs).map (·.1)).Nodup := by
  have h1 : ∀ b, L ≤ b → b ∉ frs.map (·.1) := fun b hb q => by
    obtain ⟨p, hp, e⟩ := List.mem_map.mp q
    have e' : p.1 = b := e
    have := hfl p hp
    rw [e'] at this
    exact absurd this (Nat.not_lt.mpr hb)
  refine List.nodup_cons.mpr ⟨fun q => ?_, List.nodup_cons.mpr ⟨fun q => ?_, List.nodup_cons.mpr ⟨h1 _ (Nat.le_succ _), hfn⟩⟩⟩
  · rcases List.mem_cons.mp q with q | q
    · exact absurd q (Nat.succ_ne_self _)
    · rcases List.mem_cons.mp q with q | q
      · exact absurd q (Nat.ne_of_gt (Nat.lt_succ_of_lt (Nat.lt_succ_self _)))
      · exact h1 _ (Nat.le_succ_of_le (Nat.le_succ_of_le (Nat.le_succ _))) q
  · rcases List.mem_cons.mp q with q | q
    · exact absurd q (Nat.succ_ne_self _)
    · exact h1 _ (Nat.le_succ_of_le (Nat.le_succ _)) q
noncomputable def CTurn {σ : Type} (h₀ : Heap) (L I : Addr) (oI : Obj) (c : Addr) (s : Shared) (Led : σ → List (Addr × Obj)) (J : σ → (Str → Option Value) → Prop) (R : Result → Shared → Prop) (f : Flow) (s₃ : Shared) : Prop :=
  match f with
  | .brk => R (.ok .next) s₃
  | .ret v => R (.ok (.ret v)) s₃
  | _ => ∃ st h' tk' m' oc v, s₃ = { s with heap := h', toks := tk' } ∧ Fr h₀ L h' m' ∧ News h₀ L h' ((I, oI) :: (c, oc) :: Led st) ∧ oc.data = .cell v ∧ (∀ p ∈ Led st, p.1 ≠ I ∧ p.1 ≠ c) ∧ J st m'
theorem cturn_end {σ : Type} {h₀ : Heap} {L I : Addr} {oI oc : Obj} {c : Addr} {s : Shared} {Led : σ → List (Addr × Obj)} {J : σ → (Str → Option Value) → Prop} {R : Result → Shared → Prop} {h' : Heap} {tk' : Nat} {m' : Str → Option Value} {v : Option Value} {news : List (Addr × Obj)} (st : σ) (F : Fr h₀ L h' m') (N : News h₀ L h' news) (hs : ∀ p ∈ (I, oI) :: (c, oc) :: Led st, p ∈ news) (hd : oc.data = .cell v) (ho : ∀ p ∈ Led st, p.1 ≠ I ∧ p.1 ≠ c) (hJ : J st m') :
    CTurn h₀ L I oI c s Led J R .next { s with heap := h', toks := tk' } := ⟨st, h', tk', m', oc, v, rfl, F, fun p hp => N p (hs p hp), hd, ho, hJ⟩
/-- a for loop over a range whose name is a cell -/
theorem loop_rangeC {σ : Type} {prog : Program} {w : World} {A : Around} {s : Shared} {h₀ : Heap} {env : Env} {r c : Addr} {a b : Int} {t u v : Tok} {n : Nat} {x : Str} {px : Pos} {body : List Stmt} {R : Result → Shared → Prop} {m₀ : Str → Option Value} {oc₀ : Obj} {v₀ : Option Value} {E : Value → Shared → Prop}
    (hh : A.handled = none) (hk : env.scope.kind = .function) (hx : env.kindOf x = some .cell) (hc : env.cells.lookup x = some c) (hr : IsRange s.heap r a b 1 t u v) (hsm : Builtin.Range.small a b 1 = true) (hn : Builtin.Range.rangeSize a b 1 = ((n : Nat) : Int))
    (Led : σ → List (Addr × Obj)) (J : Nat → σ → (Str → Option Value) → Prop) (c₀ : σ) (F : Fr h₀ env.locals s.heap m₀) (N : News h₀ env.locals s.heap ((c, oc₀) :: Led c₀)) (hd : oc₀.data = .cell v₀) (hoff : ∀ p ∈ Led c₀, p.1 ≠ c) (h0 : J 0 c₀ m₀)
    (turn : ∀ i st m h tk I oI oc t E', i < n → J i st m → oc.data = .cell (some (.int (a + (i : Nat)) t)) → (∀ p ∈ Led st, p.1 ≠ I ∧ p.1 ≠ c) → I ≠ c → Fr h₀ env.locals h m → News h₀ env.locals h ((I, oI) :: (c, oc) :: Led st) →
      wpAny (model prog w) A (execs body env) (CTurn h₀ env.locals I oI c s Led (J (i + 1)) R) E' { s with heap := h, toks := tk })
    (done : ∀ st m h tk oc v, J n st m → oc.data = .cell v → (∀ p ∈ Led st, p.1 ≠ c) → Fr h₀ env.locals h m → News h₀ env.locals h ((c, oc) :: Led st) → R (.ok .next) { s with heap := h, toks := tk }) :
    wpAny (model prog w) A (pyIter (.ref r)) (fun it s₂ => codeAny (model prog w) A (.forLoop (.Name x px) it body [] env) R s₂) E s := by
  refine wpAny_pyIter_range hr hsm ?_
  have W := LCg.range_walks (prog := prog) (w := w) (I := s.heap.objs.size) hh a n
  have hIg : h₀.get? s.heap.objs.size = none := next_is_new F
  have hIL : s.heap.objs.size ≠ env.locals := (Nat.ne_of_lt F.ns.lt).symm
  have hcL : c ≠ env.locals := (N _ (.head _)).2.1
  have hcg : h₀.get? c = none := (N _ (.head _)).2.2
  have hIc : s.heap.objs.size ≠ c := (Nat.ne_of_lt (Heap.lt_size (N _ (.head _)).1)).symm
  have up₀ : ∀ b o, s.heap.get? b = some o → (s.heap.push { cls := .type "range_iterator", data := .fields #[.int a 0, .int (Builtin.Range.rangeSize a b 1) 0, .int 1 0] }).get? b = some o := fun b o e => Heap.get?_push_of_some _ e
  refine codeAny_forLoop (fun k s1 => ∃ (i : Nat) (h : Heap) (tk : Nat) (m : Str → Option Value) (st : σ) (oc : Obj) (v : Option Value), s1 = { s with heap := h, toks := tk } ∧ i + k = n + 1 ∧ i ≤ n ∧
      Fr h₀ env.locals h m ∧ News h₀ env.locals h ((c, oc) :: Led st) ∧ oc.data = .cell v ∧ (∀ p ∈ Led st, p.1 ≠ s.heap.objs.size ∧ p.1 ≠ c) ∧ IsRangeIter h s.heap.objs.size (a + (i : Nat) * 1) ((n : Int) - (i : Nat)) 1 ∧ J i st m) ?_ (n + 1)
    ⟨0, _, _, m₀, c₀, oc₀, v₀, rfl, Nat.zero_add _, Nat.zero_le _, F.push _, fun p hp => ⟨Heap.get?_push_of_some _ (N p hp).1, (N p hp).2⟩, hd, fun p hp => ⟨Nat.ne_of_lt (Heap.lt_size (N p (.tail _ hp)).1), hoff p hp⟩, by show IsRangeIter _ _ _ _ _; rw [hn]; simpa using Heap.get?_push_size _ rfl, h0⟩ (by intro _; rfl)
  rintro k s1 ⟨i, h, tk, m, st, oc, v, rfl, hin, hi, F1, N1, hd1, ho1, hit1, hJ⟩
  by_cases hlt : i < n
  · refine W.item i _ _ _ hlt hit1 fun v' h₂ tk₂ hv hst₂ hk₂ => ?_
    obtain ⟨t', rfl⟩ := hv
    dsimp only
    have up₂ : ∀ b o, b ≠ s.heap.objs.size → h.get? b = some o → h₂.get? b = some o := fun b o hb e => hk₂ b o (by simpa using hb) e
    have F2 : Fr h₀ env.locals h₂ m := ⟨F1.ns.at' fun o e => up₂ _ o (Ne.symm hIL) e, fun b o e => up₂ b o (fun q => by rw [q, hIg] at e; cases e) (F1.keep b o e), F1.above⟩
    have hcell : h₂.IsCell c v := News.cellAt N1 (.head _) hd1 (fun e => up₂ c oc (Ne.symm hIc) e)
    refine wpAny_assign_Name (wpAny_storeName_cell hk hx hc hcell (fun h₃ hc₃ hs₃ => ?_))
    replace hs₃ : Heap.SameBut c h₂ h₃ := hs₃
    have F3 : Fr h₀ env.locals h₃ m := F2.change hs₃ hcL hcg
    obtain ⟨oc3, hoc3, hdc3⟩ := hc₃
    have hoI : ∃ oI, h₃.get? s.heap.objs.size = some oI := ⟨_, hs₃.extBut _ _ hIc hst₂⟩
    obtain ⟨oI, hoI⟩ := hoI
    refine wpAny_mono (turn i st m h₃ _ s.heap.objs.size oI oc3 t' _ hlt hJ hdc3 ho1 hIc F3 (fun p hp => ?_)) (fun f s₃ hf => ?_) fun _ _ e => e
    · rcases List.mem_cons.mp hp with rfl | hp
      · exact ⟨hoI, hIL, hIg⟩
      · rcases List.mem_cons.mp hp with rfl | hp
        · exact ⟨hoc3, hcL, hcg⟩
        · exact ⟨hs₃.extBut _ _ (ho1 p hp).2 (up₂ _ _ (ho1 p hp).1 (N1 p (.tail _ hp)).1), (N1 p (.tail _ hp)).2⟩
    · have fin : (∃ st h' tk' m' oc v, s₃ = { s with heap := h', toks := tk' } ∧ Fr h₀ env.locals h' m' ∧ News h₀ env.locals h' ((s.heap.objs.size, oI) :: (c, oc) :: Led st) ∧ oc.data = .cell v ∧ (∀ p ∈ Led st, p.1 ≠ s.heap.objs.size ∧ p.1 ≠ c) ∧ J (i + 1) st m') →
          (∃ k', k' < k ∧ ∃ (i : Nat) (h : Heap) (tk : Nat) (m : Str → Option Value) (st : σ) (oc : Obj) (v : Option Value), s₃ = { s with heap := h, toks := tk } ∧ i + k' = n + 1 ∧ i ≤ n ∧
      Fr h₀ env.locals h m ∧ News h₀ env.locals h ((c, oc) :: Led st) ∧ oc.data = .cell v ∧ (∀ p ∈ Led st, p.1 ≠ s.heap.objs.size ∧ p.1 ≠ c) ∧ IsRangeIter h s.heap.objs.size (a + (i : Nat) * 1) ((n : Int) - (i : Nat)) 1 ∧ J i st m) := fun ⟨st', h', tk', m', oc', v', e, F4, N4, hd4, ho4, hJ4⟩ => by
        subst e
        refine ⟨k - 1, by omega, i + 1, h', tk', m', st', oc', v', rfl, by omega, hlt, F4, fun p hp => N4 p (.tail _ hp), hd4, ho4, ?_, hJ4⟩
        have e1 := (N4 _ (.head _)).1
        have e2 : h₃.get? s.heap.objs.size = _ := hs₃.extBut _ _ hIc hst₂
        show h'.get? s.heap.objs.size = _
        rw [e1, ← hoI, e2]
      cases f with
      | next => exact fin hf
      | cont => exact fin hf
      | brk => exact hf
      | ret v => exact hf
  · obtain rfl : i = n := Nat.le_antisymm hi (Nat.not_lt.mp hlt)
    refine W.done _ _ _ hit1 fun h₂ tk₂ hk₂ => ?_
    dsimp only
    have up₂ : ∀ b o, b ≠ s.heap.objs.size → h.get? b = some o → h₂.get? b = some o := fun b o hb e => hk₂ b o (by simpa using hb) e
    refine wpAny_execs_nil (done st m h₂ _ oc v hJ hd1 (fun p hp => (ho1 p hp).2) ⟨F1.ns.at' fun o e => up₂ _ o (Ne.symm hIL) e, fun b o e => up₂ b o (fun q => by rw [q, hIg] at e; cases e) (F1.keep b o e), F1.above⟩ (fun p hp => ?_))
    refine ⟨up₂ _ _ ?_ (N1 p hp).1, (N1 p hp).2⟩
    rcases List.mem_cons.mp hp with rfl | hp
    · exact Ne.symm hIc
    · exact (ho1 p hp).1
end Part_M16a
section Part_M16b
theorem anew_M16b : True := by k_with_none; w_top off; trivial
section
variable {M : Model} {A : Around} {E : Value → Shared → Prop} {s : Shared} {env : Env} {K : Frag}
/-- a method's call with a star: the bound method is made first -/
theorem MethodStar {o : Expr} {name : Str} {apos pos : Pos} {args : List Expr} {Q : Value → Shared → Prop}
    (h : wpAny M A (eval o env) (fun ov s₁ => wpAny M A (getAttr ov name true) (fun f s₂ => wpAny M A (callWith pos f [] (backTo pos (starEach args env)) []) Q E s₂) E s₁) E s)
    (he : eval (.Call (.Attribute o name apos) args [] pos) env = (do
      let ov ← eval o env
      standAt apos.atName
      let (f, first) ← holding [ov] (do pure (← getAttr ov name true, []))
      callWith pos f first (backTo pos (starEach args env)) []) := by rfl) :
    wpAny M A (eval (.Call (.Attribute o name apos) args [] pos) env) Q E s := by
  rw [he]
  exact wpAny_bind (wpAny_mono h (fun ov s₁ h₁ => wpAny_bind (wpAny_standAt (wpAny_bind (wpAny_holding (wpAny_bind (wpAny_mono h₁ (fun f s₂ h₂ => wpAny_pure h₂) fun _ _ x => x)))))) fun _ _ x => x)
theorem callWith_MS2 {q g : Addr} {self : Value} {pos : Pos} {first : List Value} {e : Expr} {rest : List Expr} {Q : Value → Shared → Prop} (hf : fnIn K g = true) (h : wpAny M A (spliced (backTo pos (starEach (e :: rest) env))) (fun vs s₁ => MethP K q g self s₁.heap ∧ wpAny M A (call (.ref q) (first ++ vs)) Q E s₁) E s)
    (he : starEach (e :: rest) env = (false, eval e env) :: starEach rest env := by rfl) (hst : (backTo pos (starEach rest env)).any (·.1) = true := by rfl) :
    wpAny M A (callWith pos (.ref q) first (backTo pos (starEach (e :: rest) env)) []) Q E s := by
  rw [he] at h ⊢
  exact ks_call (by show (false || (backTo pos (starEach rest env)).any (·.1)) = true; rw [hst]; rfl) (keeps_M hf) (evalArgs_plain h)
theorem callWith_MS {q g : Addr} {self : Value} {pos p : Pos} {first : List Value} {e : Expr} {Q : Value → Shared → Prop} (hf : fnIn K g = true) (h : wpAny M A (eval e env) (fun v s₁ => StarOf M A E v (fun vs s₂ => MethP K q g self s₂.heap ∧ wpAny M A (call (.ref q) (first ++ vs)) Q E s₂) s₁) E s)
    (he : starEach [.Starred e p] env = [(true, eval e env)] := by rfl) :
    wpAny M A (callWith pos (.ref q) first (backTo pos (starEach [.Starred e p] env)) []) Q E s := by
  rw [he]
  exact ks_call rfl (keeps_M hf) (ks_lone h)
end
end Part_M16b
section Part_M16c
theorem anew_M16c : True := by k_with_none; w_top off; trivial
noncomputable abbrev catch_ownP := (Program) × (World) × (Around) × (Value → Shared → Prop) × (Shared) × (Heap) × (Heap) × (Heap) × (Env) × (List Env) × (Addr) × (Addr) × (Addr) × (Value) × (Str → Option Value) × (Frag) × (Program) × (List Str) × (Str → Option Value) × (Str → Option Value) × (Str) × (List Value) × (String) × (Pos) × (Pos) × (Stmt) × (List Stmt) × (List ExceptHandler) × (Flow → Shared → Prop)
noncomputable def catch_ownS : catch_ownP → Prop := fun p => (fun (prog : Program) (w : World) (A : Around) (E : Value → Shared → Prop) (s' : Shared) (hb : Heap) (B : Heap) (h : Heap) (env : Env) (l : List Env) (L : Addr) (e : Addr) (C : Addr) (a0 : Value) (m : Str → Option Value) (KF : Frag) (p : Program) (loose : List Str) (mg : Str → Option Value) (mb : Str → Option Value) (x : Str) (bmB : List Value) (newId : String) (np : Pos) (pos : Pos) (b₀ : Stmt) (suite : List Stmt) (rest : List ExceptHandler) (Q : Flow → Shared → Prop) => ∀ (hfr : A.frames = some (env :: l))
   (hf : env.frame = some L)
   (hfl : Heap.FlyingW B (env :: l) e (.ref C) a0 s'.heap)
   (hbB : hb.StaysIn B)
   (F : Fr hb L h m)
   (hsm : h.UpToSlots s'.heap)
   (X : KF.In hb)
   (T : TopRead p loose mg mb hb)
   (ex : nsIn KF mainGlobals x = some (some (.ref C)))
   (q : excIn KF C bmB newId = true)
   (hbase : bmB.contains (.type "BaseException") = true)
   (k : ∀ h', Heap.FlyingW B (env :: l) e (.ref C) a0 h' → s'.heap.UpToSlots h' → Fr hb L h' m → wpAny (model prog w) (A.mark (some (.ref e))) (execs (b₀ :: suite) env) Q (fun _ _ => False) { s' with heap := h' })
   (hg : env.globals = mainGlobals)
   (hk : env.scope.kind = .function)
   (hx : env.kindOf x = some .globalImplicit)
   (hd : (x == ("__debug__" : Str)) = false),
    wpAny (model prog w) A (noteFrame (.ref e) env)
      (fun _ s₂ => wpAny (model prog w) A (setFlight (.ref e) none) (fun _ s₃ =>
        wpAny (model prog w) A (handleBy (.ref e) env (.ExceptHandler (some (.Name x np)) none (b₀ :: suite) pos :: rest)) Q E s₃) E s₂) E s') p.1 p.2.1 p.2.2.1 p.2.2.2.1 p.2.2.2.2.1 p.2.2.2.2.2.1 p.2.2.2.2.2.2.1 p.2.2.2.2.2.2.2.1 p.2.2.2.2.2.2.2.2.1 p.2.2.2.2.2.2.2.2.2.1 p.2.2.2.2.2.2.2.2.2.2.1 p.2.2.2.2.2.2.2.2.2.2.2.1 p.2.2.2.2.2.2.2.2.2.2.2.2.1 p.2.2.2.2.2.2.2.2.2.2.2.2.2.1 p.2.2.2.2.2.2.2.2.2.2.2.2.2.2.1 p.2.2.2.2.2.2.2.2.2.2.2.2.2.2.2.1 p.2.2.2.2.2.2.2.2.2.2.2.2.2.2.2.2.1 p.2.2.2.2.2.2.2.2.2.2.2.2.2.2.2.2.2.1 p.2.2.2.2.2.2.2.2.2.2.2.2.2.2.2.2.2.2.1 p.2.2.2.2.2.2.2.2.2.2.2.2.2.2.2.2.2.2.2.1 p.2.2.2.2.2.2.2.2.2.2.2.2.2.2.2.2.2.2.2.2.1 p.2.2.2.2.2.2.2.2.2.2.2.2.2.2.2.2.2.2.2.2.2.1 p.2.2.2.2.2.2.2.2.2.2.2.2.2.2.2.2.2.2.2.2.2.2.1 p.2.2.2.2.2.2.2.2.2.2.2.2.2.2.2.2.2.2.2.2.2.2.2.1 p.2.2.2.2.2.2.2.2.2.2.2.2.2.2.2.2.2.2.2.2.2.2.2.2.1 p.2.2.2.2.2.2.2.2.2.2.2.2.2.2.2.2.2.2.2.2.2.2.2.2.2.1 p.2.2.2.2.2.2.2.2.2.2.2.2.2.2.2.2.2.2.2.2.2.2.2.2.2.2.1 p.2.2.2.2.2.2.2.2.2.2.2.2.2.2.2.2.2.2.2.2.2.2.2.2.2.2.2.1 p.2.2.2.2.2.2.2.2.2.2.2.2.2.2.2.2.2.2.2.2.2.2.2.2.2.2.2.2
noncomputable def catch_ownX : catch_ownP := @Classical.epsilon catch_ownP ⟨⟨default, ⟨fun _ _ => 0, { strHash := fun _ => 0, shareClass := fun _ => 0, mergeTok := fun t => t, idOf := fun _ => 0, idOfShared := fun _ _ => 0, followText := fun _ => false, idOfImm := fun _ => 0 }⟩, callerA, fun _ _ => True, {}, {}, {}, {}, default, [], 0, 0, 0, .none, fun _ => none, default, default, [], fun _ => none, fun _ => none, ⟨#[]⟩, [], default, default, default, default, [], [], default⟩⟩ fun x => ¬ catch_ownS x
namespace catch_ownC
noncomputable def prog : Program := catch_ownX.1
noncomputable def w : World := catch_ownX.2.1
noncomputable def A : Around := catch_ownX.2.2.1
noncomputable def E : Value → Shared → Prop := catch_ownX.2.2.2.1
noncomputable def s' : Shared := catch_ownX.2.2.2.2.1
noncomputable def hb : Heap := catch_ownX.2.2.2.2.2.1
noncomputable def B : Heap := catch_ownX.2.2.2.2.2.2.1
noncomputable def h : Heap := catch_ownX.2.2.2.2.2.2.2.1
noncomputable def env : Env := catch_ownX.2.2.2.2.2.2.2.2.1
noncomputable def l : List Env := catch_ownX.2.2.2.2.2.2.2.2.2.1
noncomputable def L : Addr := catch_ownX.2.2.2.2.2.2.2.2.2.2.1
noncomputable def e : Addr := catch_ownX.2.2.2.2.2.2.2.2.2.2.2.1
noncomputable def C : Addr := catch_ownX.2.2.2.2.2.2.2.2.2.2.2.2.1
noncomputable def a0 : Value := catch_ownX.2.2.2.2.2.2.2.2.2.2.2.2.2.1
noncomputable def m : Str → Option Value := catch_ownX.2.2.2.2.2.2.2.2.2.2.2.2.2.2.1
noncomputable def KF : Frag := catch_ownX.2.2.2.2.2.2.2.2.2.2.2.2.2.2.2.1
noncomputable def p : Program := catch_ownX.2.2.2.2.2.2.2.2.2.2.2.2.2.2.2.2.1
noncomputable def loose : List Str := catch_ownX.2.2.2.2.2.2.2.2.2.2.2.2.2.2.2.2.2.1
noncomputable def mg : Str → Option Value := catch_ownX.2.2.2.2.2.2.2.2.2.2.2.2.2.2.2.2.2.2.1
noncomputable def mb : Str → Option Value := catch_ownX.2.2.2.2.2.2.2.2.2.2.2.2.2.2.2.2.2.2.2.1
noncomputable def x : Str := catch_ownX.2.2.2.2.2.2.2.2.2.2.2.2.2.2.2.2.2.2.2.2.1
noncomputable def bmB : List Value := catch_ownX.2.2.2.2.2.2.2.2.2.2.2.2.2.2.2.2.2.2.2.2.2.1
noncomputable def newId : String := catch_ownX.2.2.2.2.2.2.2.2.2.2.2.2.2.2.2.2.2.2.2.2.2.2.1
noncomputable def np : Pos := catch_ownX.2.2.2.2.2.2.2.2.2.2.2.2.2.2.2.2.2.2.2.2.2.2.2.1
noncomputable def pos : Pos := catch_ownX.2.2.2.2.2.2.2.2.2.2.2.2.2.2.2.2.2.2.2.2.2.2.2.2.1
noncomputable def b₀ : Stmt := catch_ownX.2.2.2.2.2.2.2.2.2.2.2.2.2.2.2.2.2.2.2.2.2.2.2.2.2.1
noncomputable def suite : List Stmt := catch_ownX.2.2.2.2.2.2.2.2.2.2.2.2.2.2.2.2.2.2.2.2.2.2.2.2.2.2.1
noncomputable def rest : List ExceptHandler := catch_ownX.2.2.2.2.2.2.2.2.2.2.2.2.2.2.2.2.2.2.2.2.2.2.2.2.2.2.2.1
noncomputable def Q : Flow → Shared → Prop := catch_ownX.2.2.2.2.2.2.2.2.2.2.2.2.2.2.2.2.2.2.2.2.2.2.2.2.2.2.2.2
theorem key : ∀ (hfr : A.frames = some (env :: l))
   (hf : env.frame = some L)
   (hfl : Heap.FlyingW B (env :: l) e (.ref C) a0 s'.heap)
   (hbB : hb.StaysIn B)
   (F : Fr hb L h m)
   (hsm : h.UpToSlots s'.heap)
   (X : KF.In hb)
   (T : TopRead p loose mg mb hb)
   (ex : nsIn KF mainGlobals x = some (some (.ref C)))
   (q : excIn KF C bmB newId = true)
   (hbase : bmB.contains (.type "BaseException") = true)
   (k : ∀ h', Heap.FlyingW B (env :: l) e (.ref C) a0 h' → s'.heap.UpToSlots h' → Fr hb L h' m → wpAny (model prog w) (A.mark (some (.ref e))) (execs (b₀ :: suite) env) Q (fun _ _ => False) { s' with heap := h' })
   (hg : env.globals = mainGlobals)
   (hk : env.scope.kind = .function)
   (hx : env.kindOf x = some .globalImplicit)
   (hd : (x == ("__debug__" : Str)) = false),
    wpAny (model prog w) A (noteFrame (.ref e) env)
      (fun _ s₂ => wpAny (model prog w) A (setFlight (.ref e) none) (fun _ s₃ =>
        wpAny (model prog w) A (handleBy (.ref e) env (.ExceptHandler (some (.Name x np)) none (b₀ :: suite) pos :: rest)) Q E s₃) E s₂) E s' := by
  intro hfr hf hfl hbB F hsm X T ex q hbase k hg hk hx hd
  refine wpAny_looks_onW hfr hf hfl fun h₄ hheld₄ hsm₄ => ?_
  refine wpAny_landsW hheld₄ fun h₅ hheld hsm₅' => ?_
  have hsm₅ := hsm₄.trans hsm₅'
  have hheld' := flyingW_base hbB hheld
  have F₅ := F.of_stays hheld'.1 (hsm.trans hsm₅)
  obtain ⟨ob, hob, hobc⟩ := hheld'.there
  refine wpAny_handleBy_cons (codeAny_handlers_test (nameG_K F₅ X T ex ?_ hg hk hx hd)) (by intro q; cases q)
  obtain ⟨bm, N, nm, qn, bs, hdct, sn, sub, ab, col, dd, k0, k1, k2, k3, k5, mN, hC, hN, hni, TL⟩ := ((own_of_in X T ex q).keeps F₅.keep).obj
  refine wpAny_excMatches_sub_self hC hob hobc (TL.hasType hbase) (codeAny_handlers_suite ?_)
  refine lands_againW hheld fun h₆ hfl₆ hsm₆ => ?_
  have F₆ := F.of_stays (flyingW_base hbB hfl₆).1 ((hsm.trans hsm₅).trans hsm₆)
  exact wpAny_mono (k h₆ hfl₆ (hsm₅.trans hsm₆) F₆) (fun _ _ z => z) (fun _ _ z => z.elim)
end catch_ownC
section
variable {dmy : Nat}
theorem catch_own {prog : Program} {w : World} {A : Around} {E : Value → Shared → Prop} {s' : Shared} {hb B h : Heap} {env : Env} {l : List Env} {L e C : Addr} {a0 : Value} {m : Str → Option Value} {KF : Frag} {p : Program} {loose : List Str} {mg mb : Str → Option Value} {x : Str} {bmB : List Value} {newId : String}
    {np pos : Pos} {b₀ : Stmt} {suite : List Stmt} {rest : List ExceptHandler} {Q : Flow → Shared → Prop}
    (hfr : A.frames = some (env :: l)) (hf : env.frame = some L) (hfl : Heap.FlyingW B (env :: l) e (.ref C) a0 s'.heap) (hbB : hb.StaysIn B) (F : Fr hb L h m) (hsm : h.UpToSlots s'.heap) (X : KF.In hb) (T : TopRead p loose mg mb hb)
    (ex : nsIn KF mainGlobals x = some (some (.ref C))) (q : excIn KF C bmB newId = true) (hbase : bmB.contains (.type "BaseException") = true)
    (k : ∀ h', Heap.FlyingW B (env :: l) e (.ref C) a0 h' → s'.heap.UpToSlots h' → Fr hb L h' m → wpAny (model prog w) (A.mark (some (.ref e))) (execs (b₀ :: suite) env) Q (fun _ _ => False) { s' with heap := h' })
    (hg : env.globals = mainGlobals) (hk : env.scope.kind = .function) (hx : env.kindOf x = some .globalImplicit) (hd : (x == ("__debug__" : Str)) = false) :
    wpAny (model prog w) A (noteFrame (.ref e) env)
      (fun _ s₂ => wpAny (model prog w) A (setFlight (.ref e) none) (fun _ s₃ =>
        wpAny (model prog w) A (handleBy (.ref e) env (.ExceptHandler (some (.Name x np)) none (b₀ :: suite) pos :: rest)) Q E s₃) E s₂) E s' := by
  refine Classical.byContradiction fun hz9 => ?_
  exact @Classical.epsilon_spec catch_ownP (fun x => ¬ catch_ownS x) ⟨⟨prog, w, A, E, s', hb, B, h, env, l, L, e, C, a0, m, KF, p, loose, mg, mb, x, bmB, newId, np, pos, b₀, suite, rest, Q⟩, fun zz9 => hz9 (zz9 hfr hf hfl hbB F hsm X T ex q hbase k hg hk hx hd)⟩ catch_ownC.key
end
/-- what a call does not touch stays in the ledger -/
theorem Post.rest {base h h' : Heap} {L : Addr} {old new rest : List (Addr × Obj)} (P : Post h h' old new) (N : News base L h rest) (ho : ∀ p ∈ rest, p.1 ∉ old.map (·.1)) : News base L h' rest := fun p hp => ⟨P.keep _ _ (ho p hp) (N p hp).1, (N p hp).2⟩
theorem led_off {objs frs : List (Addr × Obj)} {d i a b c : Addr × Obj} (nd : ((objs ++ d :: i :: a :: b :: c :: frs).map (·.1)).Nodup) : ∀ p ∈ b :: c :: (objs ++ frs), p.1 ≠ i.1 ∧ p.1 ≠ a.1 := by
  have e : List.Perm (objs ++ d :: i :: a :: b :: c :: frs) (d :: i :: a :: (b :: c :: (objs ++ frs))) := by
    refine List.perm_middle.trans (List.Perm.cons _ (List.perm_middle.trans (List.Perm.cons _ (List.perm_middle.trans (List.Perm.cons _ ?_)))))
    exact List.perm_middle.trans (List.Perm.cons _ List.perm_middle)
  have h := ((e.map (·.1)).nodup_iff).mp nd
  rw [List.map_cons, List.nodup_cons, List.map_cons, List.nodup_cons, List.map_cons, List.nodup_cons] at h
  intro p hp
  have hm := fst_mem hp
  exact ⟨fun q => h.2.1 (by rw [← q]; exact .tail _ hm), fun q => h.2.2.1 (by rw [← q]; exact hm)⟩
theorem led_nd {objs frs : List (Addr × Obj)} {d i a b c a' : Addr × Obj} (nd : ((objs ++ d :: i :: a :: b :: c :: frs).map (·.1)).Nodup) (h : a'.1 = a.1) : ((objs ++ a' :: b :: c :: frs).map (·.1)).Nodup := by
  have h1 := List.Nodup.sublist (List.Sublist.map (·.1) (List.Sublist.append (List.Sublist.refl objs) (((List.Sublist.refl (a :: b :: c :: frs)).cons i).cons d))) nd
  rw [List.map_append, List.map_cons] at h1 ⊢
  rw [h]; exact h1
theorem led_sub {objs frs : List (Addr × Obj)} {d i a b c : Addr × Obj} : ∀ p ∈ i :: a :: b :: c :: (objs ++ frs), p ∈ objs ++ d :: i :: a :: b :: c :: frs := by
  intro p hp
  rcases List.mem_cons.mp hp with rfl | hp
  · exact List.mem_append_right _ (.tail _ (.head _))
  rcases List.mem_cons.mp hp with rfl | hp
  · exact List.mem_append_right _ (.tail _ (.tail _ (.head _)))
  rcases List.mem_cons.mp hp with rfl | hp
  · exact List.mem_append_right _ (.tail _ (.tail _ (.tail _ (.head _))))
  rcases List.mem_cons.mp hp with rfl | hp
  · exact List.mem_append_right _ (.tail _ (.tail _ (.tail _ (.tail _ (.head _)))))
  rcases List.mem_append.mp hp with hp | hp
  · exact List.mem_append_left _ hp
  · exact List.mem_append_right _ (.tail _ (.tail _ (.tail _ (.tail _ (.tail _ hp)))))
theorem led_back {objs frs : List (Addr × Obj)} {d i a b c : Addr × Obj} : ∀ p ∈ objs ++ d :: i :: a :: b :: c :: frs, p ∈ d :: i :: a :: b :: c :: (objs ++ frs) := by
  intro p hp
  rcases List.mem_append.mp hp with hp | hp
  · exact .tail _ (.tail _ (.tail _ (.tail _ (.tail _ (List.mem_append_left _ hp)))))
  rcases List.mem_cons.mp hp with rfl | hp
  · exact .head _
  rcases List.mem_cons.mp hp with rfl | hp
  · exact .tail _ (.head _)
  rcases List.mem_cons.mp hp with rfl | hp
  · exact .tail _ (.tail _ (.head _))
  rcases List.mem_cons.mp hp with rfl | hp
  · exact .tail _ (.tail _ (.tail _ (.head _)))
  rcases List.mem_cons.mp hp with rfl | hp
  · exact .tail _ (.tail _ (.tail _ (.tail _ (.head _))))
  · exact .tail _ (.tail _ (.tail _ (.tail _ (.tail _ (List.mem_append_right _ hp)))))
/-- what a flight has left of a call: the objects stay, the frames go on up to slots -/
theorem Post.flown {h B h6 : Heap} {old new frs frs2 : List (Addr × Obj)} (SU : TI.SameUp frs frs2) (P : Post h B old new) (hBh : B.StaysIn h6) (hf : ∀ p ∈ frs2, h6.get? p.1 = some p.2 ∧ B.get? p.1 = none)
    (hsub : ∀ p ∈ frs, p ∈ old) (hnd : (frs.map (·.1)).Nodup) : Post h h6 old (new ++ frs2) := by
  refine ⟨fun b o hb e => hBh b o (P.keep b o hb e), fun p hp => ?_, fun p hp => ?_, ?_⟩
  · rcases List.mem_append.mp hp with hp | hp
    · exact hBh _ _ (P.there p hp)
    · exact (hf p hp).1
  · rcases List.mem_append.mp hp with hp | hp
    · exact P.fresh p hp
    · have h1 : p.1 ∈ frs.map (·.1) := by rw [← sameUp_fst SU]; exact List.mem_map_of_mem hp
      obtain ⟨x, hx, e⟩ := List.mem_map.mp h1
      exact .inl (by rw [← e]; exact List.mem_map_of_mem (hsub x hx))
  · rw [List.map_append]
    refine List.nodup_append.mpr ⟨P.nodup, by rw [sameUp_fst SU]; exact hnd, fun a ha b hb e => ?_⟩
    obtain ⟨x, hx, rfl⟩ := List.mem_map.mp ha
    obtain ⟨y, hy, rfl⟩ := List.mem_map.mp hb
    have h1 := P.there x hx
    rw [e, (hf y hy).2] at h1
    cases h1
theorem frs_dict : ∀ {l : List Env} {frs : List (Addr × Obj)}, TI.Frs l frs → ∀ p ∈ frs, ∃ es ep, p.2.data = .dict es ep := by
  intro l
  induction l with
  | nil => intro frs h p hp; cases frs with
    | nil => cases hp
    | cons q t => exact h.elim
  | cons e l ih => intro frs h p hp; cases frs with
    | nil => cases hp
    | cons q t =>
      obtain ⟨_, _, hd, h⟩ := h
      rcases List.mem_cons.mp hp with rfl | hp
      · exact hd
      · exact ih h p hp
/-- frames through a landing -/
theorem frs_slots {h h' : Heap} {l : List Env} {frs : List (Addr × Obj)} (Fs : TI.Frs l frs) (sm : h.UpToSlots h') (ht : ∀ p ∈ frs, h.get? p.1 = some p.2) : ∃ frs', TI.SameUp frs frs' ∧ ∀ q ∈ frs', h'.get? q.1 = some q.2 :=
  TI.sameUp_of fun p hp => sm p.1 p.2 (ht p hp) fun vs e => by
    obtain ⟨es, ep, hd⟩ := frs_dict Fs p hp
    rw [hd] at e; cases e
end Part_M16c
section Part_P11
theorem anew_P11 : True := by k_with_none; w_top off; trivial
open PySem
set_option linter.unusedVariables false
theorem find_some {v : Vw} {k : Int} (h : k ∈ v.map (·.1)) : ∃ x, v.find? (fun x => x.1 = k) = some x ∧ x.1 = k := by
  cases q : v.find? (fun x => x.1 = k) with
  | none =>
    obtain ⟨x, hx, e⟩ := List.mem_map.mp h
    have := List.find?_eq_none.mp q x hx
    simp [e] at this
  | some x => exact ⟨x, rfl, by simpa using List.find?_some q⟩
theorem find_none {v : Vw} {k : Int} (h : k ∉ v.map (·.1)) : v.find? (fun x => x.1 = k) = none := by
  rw [List.find?_eq_none]
  intro x hx q
  exact h (List.mem_map.mpr ⟨x, hx, by simpa using q⟩)
theorem find_map {v : Vw} {k : Int} {f : Int × Int × List Int → Int × Int × List Int} (hf : ∀ x, (f x).1 = x.1) : (v.map f).find? (fun x => x.1 = k) = (v.find? (fun x => x.1 = k)).map f := by
  rw [List.find?_map]
  congr 2
  funext x
  simp [Function.comp, hf]
theorem npAt_out {v : Vw} {k : Int} (h : k ∉ v.map (·.1)) : npAt v k = 0 := by unfold npAt; rw [find_none h]; rfl
theorem succAt_out {v : Vw} {k : Int} (h : k ∉ v.map (·.1)) : succAt v k = [] := by unfold succAt; rw [find_none h]; rfl
theorem npAt_npV {v : Vw} {j d : Int} (hj : j ∈ v.map (·.1)) (k : Int) : npAt (npV v j d) k = if k = j then npAt v k + d else npAt v k := by
  unfold npAt npV
  rw [find_map (fun x => by split <;> rfl)]
  by_cases h : k ∈ v.map (·.1)
  · obtain ⟨x, hx, e⟩ := find_some h
    rw [hx]
    simp only [Option.map_some, Option.getD_some, e]
    split <;> rfl
  · have hne : k ≠ j := fun q => h (q ▸ hj)
    rw [find_none h, if_neg hne]; rfl
theorem succAt_npV {v : Vw} {j d : Int} (k : Int) : succAt (npV v j d) k = succAt v k := by
  unfold succAt npV
  rw [find_map (fun x => by split <;> rfl)]
  cases v.find? (fun x => x.1 = k) with
  | none => rfl
  | some x =>
    simp only [Option.map_some, Option.getD_some]
    split <;> rfl
theorem npAt_setV {v : Vw} {j n : Int} (hj : j ∈ v.map (·.1)) (k : Int) : npAt (setV v j n) k = if k = j then n else npAt v k := by
  unfold npAt setV
  rw [find_map (fun x => by split <;> rfl)]
  by_cases h : k ∈ v.map (·.1)
  · obtain ⟨x, hx, e⟩ := find_some h
    rw [hx]
    simp only [Option.map_some, Option.getD_some, e]
    split <;> rfl
  · have hne : k ≠ j := fun q => h (q ▸ hj)
    rw [find_none h, if_neg hne]; rfl
theorem succAt_setV {v : Vw} {j n : Int} (k : Int) : succAt (setV v j n) k = succAt v k := by
  unfold succAt setV
  rw [find_map (fun x => by split <;> rfl)]
  cases v.find? (fun x => x.1 = k) with
  | none => rfl
  | some x =>
    simp only [Option.map_some, Option.getD_some]
    split <;> rfl
theorem npAt_succV {v : Vw} {j y : Int} (k : Int) : npAt (succV v j y) k = npAt v k := by
  unfold npAt succV
  rw [find_map (fun x => by split <;> rfl)]
  cases v.find? (fun x => x.1 = k) with
  | none => rfl
  | some x =>
    simp only [Option.map_some, Option.getD_some]
    split <;> rfl
theorem succAt_succV {v : Vw} {j y : Int} (hj : j ∈ v.map (·.1)) (k : Int) : succAt (succV v j y) k = if k = j then succAt v k ++ [y] else succAt v k := by
  unfold succAt succV
  rw [find_map (fun x => by split <;> rfl)]
  by_cases h : k ∈ v.map (·.1)
  · obtain ⟨x, hx, e⟩ := find_some h
    rw [hx]
    simp only [Option.map_some, Option.getD_some, e]
    split <;> rfl
  · have hne : k ≠ j := fun q => h (q ▸ hj)
    rw [find_none h, if_neg hne]; rfl
theorem keys_setV (v : Vw) (k n : Int) : (setV v k n).map (·.1) = v.map (·.1) := by
  unfold setV
  rw [List.map_map]
  refine List.map_congr_left fun x _ => ?_
  show (if x.1 = k then (x.1, n, x.2.2) else x).1 = x.1
  split <;> rfl
theorem keys_succV (v : Vw) (k y : Int) : (succV v k y).map (·.1) = v.map (·.1) := by
  unfold succV
  rw [List.map_map]
  refine List.map_congr_left fun x _ => ?_
  show (if x.1 = k then (x.1, x.2.1, x.2.2 ++ [y]) else x).1 = x.1
  split <;> rfl
theorem keys_ensV (v : Vw) (k x : Int) : x ∈ (ensV v k).map (·.1) ↔ x ∈ v.map (·.1) ∨ x = k := by
  unfold ensV
  split
  · exact ⟨.inl, fun h => h.elim id fun q => by rw [q]; assumption⟩
  · rw [List.map_append, List.mem_append]
    simp
theorem nodup_ensV {v : Vw} (k : Int) (h : (v.map (·.1)).Nodup) : ((ensV v k).map (·.1)).Nodup := by
  unfold ensV
  split
  · exact h
  · rename_i hk
    rw [List.map_append]
    refine List.nodup_append.mpr ⟨h, by simp, fun a ha b hb e => ?_⟩
    have : b = k := by simpa using hb
    exact hk (by rw [← this, ← e]; exact ha)
theorem find_ensV (v : Vw) (k x : Int) : npAt (ensV v k) x = npAt v x ∧ succAt (ensV v k) x = succAt v x := by
  unfold ensV
  split
  · exact ⟨rfl, rfl⟩
  · rename_i hk
    by_cases h : x ∈ v.map (·.1)
    · obtain ⟨y, hy, e⟩ := find_some h
      unfold npAt succAt
      rw [List.find?_append, hy]
      exact ⟨rfl, rfl⟩
    · rw [npAt_out h, succAt_out h]
      unfold npAt succAt
      rw [List.find?_append, find_none h, Option.none_or]
      by_cases q : k = x
      · simp [q]
      · simp [q]
/-- what add makes of the view -/
structure AddOk (v : Vw) (k : Int) (ps : List Int) (v' : Vw) : Prop where
  nodup : (v'.map (·.1)).Nodup
  keys : ∀ x, x ∈ v'.map (·.1) ↔ x ∈ v.map (·.1) ∨ x = k ∨ x ∈ ps
  np : ∀ x, npAt v' x = npAt v x + (if x = k then (ps.length : Int) else 0)
  succ : ∀ x, succAt v' x = succAt v x ++ List.replicate (ps.count x) k
theorem add_fold {k : Int} : ∀ (ps : List Int) (v : Vw), (v.map (·.1)).Nodup →
    ((ps.foldl (fun v p => succV (ensV v p) p k) v).map (·.1)).Nodup ∧ (∀ x, x ∈ (ps.foldl (fun v p => succV (ensV v p) p k) v).map (·.1) ↔ x ∈ v.map (·.1) ∨ x ∈ ps) ∧
    (∀ x, npAt (ps.foldl (fun v p => succV (ensV v p) p k) v) x = npAt v x) ∧ ∀ x, succAt (ps.foldl (fun v p => succV (ensV v p) p k) v) x = succAt v x ++ List.replicate (ps.count x) k
  | [], v, h => ⟨h, fun x => by simp, fun x => rfl, fun x => by simp⟩
  | p :: ps, v, h => by
    have hn : ((succV (ensV v p) p k).map (·.1)).Nodup := by rw [keys_succV]; exact nodup_ensV p h
    obtain ⟨a, b, c, d⟩ := add_fold ps (succV (ensV v p) p k) hn
    rw [List.foldl_cons]
    refine ⟨a, fun x => ?_, fun x => ?_, fun x => ?_⟩
    · rw [b x, keys_succV, keys_ensV, List.mem_cons, or_assoc]
    · rw [c x, npAt_succV, (find_ensV v p x).1]
    · rw [d x, succAt_succV (by rw [keys_ensV]; exact .inr rfl), (find_ensV v p x).2, List.count_cons]
      by_cases q : x = p
      · rw [if_pos q, q, List.append_assoc]
        simp only [beq_self_eq_true, if_true]
        rw [← List.replicate_one, List.replicate_append_replicate, Nat.add_comm]
      · have q' : (p == x) = false := by simpa using fun e : p = x => q e.symm
        rw [if_neg q, q']
        simp
theorem addV_ok {v : Vw} {k : Int} {ps : List Int} (h : (v.map (·.1)).Nodup) : AddOk v k ps (addV v k ps) := by
  have hn : ((npV (ensV v k) k ps.length).map (·.1)).Nodup := by rw [npV_keys]; exact nodup_ensV k h
  obtain ⟨a, b, c, d⟩ := add_fold (k := k) ps (npV (ensV v k) k ps.length) hn
  refine ⟨a, fun x => ?_, fun x => ?_, fun x => ?_⟩
  · show x ∈ (addV v k ps).map (·.1) ↔ _
    unfold addV
    rw [b x, npV_keys, keys_ensV, or_assoc]
  · unfold addV
    rw [c x, npAt_npV (by rw [keys_ensV]; exact .inr rfl), (find_ensV v k x).1]
    split <;> omega
  · unfold addV
    rw [d x, succAt_npV, (find_ensV v k x).2]
/-- the degrees are told by the view -/
noncomputable def VOk (v : Vw) : Prop := (v.map (·.1)).Nodup ∧ (∀ x, npAt v x = (deg (v.map (·.1)) (succAt v) [] x : Int)) ∧ ∀ u, ∀ y ∈ succAt v u, y ∈ v.map (·.1)
theorem deg_nil {keys : List Int} {succ : Int → List Int} {x : Int} : deg keys succ [] x = (keys.map fun u => (succ u).count x).sum := by
  unfold deg
  rw [List.filter_eq_self.mpr (fun u _ => by simp)]
theorem sum_zero (l : List Int) : (l.map fun _ => 0).sum = 0 := by
  induction l with
  | nil => rfl
  | cons a l ih => simp only [List.map_cons, List.sum_cons, ih]
theorem sum_count_keys {ps : List Int} : ∀ {keys : List Int}, keys.Nodup → (∀ p ∈ ps, p ∈ keys) → (keys.map fun u => ps.count u).sum = ps.length := by
  induction ps with
  | nil => intro keys _ _; simp only [List.count_nil, List.length_nil]; exact sum_zero keys
  | cons p ps ih =>
    intro keys hn hs
    have h1 := ih hn fun q hq => hs q (.tail _ hq)
    have h2 : (keys.map fun u => (p :: ps).count u).sum = (keys.map fun u => ps.count u).sum + (keys.map fun u => if p = u then 1 else 0).sum := by
      clear ih hs h1 hn
      induction keys with
      | nil => rfl
      | cons u keys ihk =>
        simp only [List.map_cons, List.sum_cons]
        rw [ihk, List.count_cons]
        simp only [beq_iff_eq]
        omega
    have h3 : ∀ {keys : List Int}, keys.Nodup → p ∈ keys → (keys.map fun u => if p = u then 1 else 0).sum = 1 := by
      intro keys
      induction keys with
      | nil => intro _ h; exact nomatch h
      | cons u keys ihk =>
        intro hn hp
        have hn' := List.nodup_cons.mp hn
        by_cases q : p = u
        · have h0 : (keys.map fun u => if p = u then 1 else 0).sum = 0 := by
            have : ∀ l : List Int, p ∉ l → (l.map fun u => if p = u then 1 else 0).sum = 0 := by
              intro l
              induction l with
              | nil => intro _; rfl
              | cons z l ihl =>
                intro hz
                rw [List.mem_cons, not_or] at hz
                simp only [List.map_cons, List.sum_cons, if_neg hz.1]
                rw [ihl hz.2]
            exact this keys (q ▸ hn'.1)
          simp only [List.map_cons, List.sum_cons, if_pos q, h0]
        · have hp' : p ∈ keys := (List.mem_cons.mp hp).resolve_left q
          simp only [List.map_cons, List.sum_cons, if_neg q]
          rw [ihk hn'.2 hp']
    rw [h2, h1, h3 hn (hs p (.head _)), List.length_cons]
theorem VOk.nil : VOk [] := ⟨List.nodup_nil, fun x => rfl, fun u y h => by
  have : succAt [] u = [] := rfl
  rw [this] at h; exact nomatch h⟩
theorem VOk.add {v : Vw} {k : Int} {ps : List Int} (h : VOk v) : VOk (addV v k ps) := by
  obtain ⟨hn, hd, hs⟩ := h
  have A := addV_ok (k := k) (ps := ps) hn
  refine ⟨A.nodup, fun x => ?_, fun u y hy => ?_⟩
  · rw [A.np x, hd x, deg_nil, deg_nil]
    have e1 : ((addV v k ps).map (·.1)).map (fun u => (succAt (addV v k ps) u).count x) = ((addV v k ps).map (·.1)).map (fun u => (succAt v u).count x + if x = k then ps.count u else 0) := by
      refine List.map_congr_left fun u _ => ?_
      rw [A.succ u, List.count_append, List.count_replicate]
      congr 1
      by_cases q : x = k
      · simp [q]
      · rw [if_neg q, if_neg (by simpa using fun e : k = x => q e.symm)]
    have e2 : ∀ (l : List Int) (f g : Int → Nat), (l.map fun u => f u + g u).sum = (l.map f).sum + (l.map g).sum := by
      intro l f g
      induction l with
      | nil => rfl
      | cons a l ih => simp only [List.map_cons, List.sum_cons, ih]; omega
    have e3 : (((addV v k ps).map (·.1)).map (fun u => (succAt v u).count x)).sum = ((v.map (·.1)).map fun u => (succAt v u).count x).sum := by
      have gen : ∀ (l l' : List Int) (f : Int → Nat), l.Nodup → l'.Nodup → (∀ x ∈ l, x ∈ l') → (∀ x ∈ l', x ∉ l → f x = 0) → (l'.map f).sum = (l.map f).sum := by
        intro l
        induction l with
        | nil =>
          intro l' f _ _ _ hz
          have : ∀ m : List Int, (∀ x ∈ m, f x = 0) → (m.map f).sum = 0 := by
            intro m
            induction m with
            | nil => intro _; rfl
            | cons a m ih => intro h; simp only [List.map_cons, List.sum_cons]; rw [h a (.head _), ih fun x hx => h x (.tail _ hx)]
          rw [this l' fun x hx => hz x hx (by simp)]; rfl
        | cons a l ih =>
          intro l' f hl hl' hs hz
          have ha := hs a (.head _)
          have hl1 := List.nodup_cons.mp hl
          have hperm : List.Perm l' (a :: l'.erase a) := List.perm_cons_erase ha
          have hnd : (l'.erase a).Nodup := hl'.erase a
          rw [(hperm.map f).sum_nat, List.map_cons, List.sum_cons, List.map_cons, List.sum_cons]
          congr 1
          refine ih _ f hl1.2 hnd (fun x hx => ?_) fun x hx hxl => ?_
          · refine (List.mem_erase_of_ne (fun q : x = a => hl1.1 (q ▸ hx))).mpr (hs x (.tail _ hx))
          · have hxa : x ≠ a := fun q => by
              have := (List.nodup_cons.mp (hperm.nodup_iff.mp hl')).1
              exact this (q ▸ hx)
            exact hz x (List.mem_of_mem_erase hx) fun q => (List.mem_cons.mp q).elim hxa hxl
      refine gen _ _ _ hn A.nodup (fun x hx => (A.keys x).mpr (.inl hx)) fun u hu hul => ?_
      rw [succAt_out hul]; rfl
    rw [e1, e2, e3]
    by_cases q : x = k
    · simp only [if_pos q]
      rw [sum_count_keys A.nodup fun p hp => (A.keys p).mpr (.inr (.inr hp))]
      push_cast; rfl
    · simp only [if_neg q]
      rw [sum_zero]; push_cast; omega
  · rw [A.succ u] at hy
    rcases List.mem_append.mp hy with hy | hy
    · exact (A.keys y).mpr (.inl (hs u y hy))
    · rw [(List.mem_replicate.mp hy).2]; exact (A.keys k).mpr (.inr (.inl rfl))
end Part_P11
section Part_P12
theorem anew_P12 : True := by k_with_none; w_top off; trivial
open PySem
set_option linter.unusedVariables false
theorem decW_decs : ∀ (ys : List Int) (v : Vw) (r : List Int), (∀ y ∈ ys, y ∈ v.map (·.1)) → npAt (decW ys v r).1 = (decs ys (npAt v) r).1 ∧ (decW ys v r).2 = (decs ys (npAt v) r).2 ∧ succAt (decW ys v r).1 = succAt v
  | [], v, r, _ => ⟨rfl, rfl, rfl⟩
  | y :: ys, v, r, h => by
    have e1 : npAt (npV v y (-1)) = upd (npAt v) y (npAt v y - 1) := by
      funext x
      rw [npAt_npV (h y (.head _))]
      unfold upd
      split
      · rename_i q; rw [q]; omega
      · rfl
    have e2 : succAt (npV v y (-1)) = succAt v := by funext x; exact succAt_npV x
    obtain ⟨a, b, c⟩ := decW_decs ys (npV v y (-1)) (if npAt v y - 1 = 0 then r ++ [y] else r) fun z hz => by rw [npV_keys]; exact h z (.tail _ hz)
    refine ⟨?_, ?_, c.trans e2⟩
    · show npAt (decW ys _ _).1 = (decs ys _ _).1
      rw [a, e1]
    · show (decW ys _ _).2 = (decs ys _ _).2
      rw [b, e1]
theorem done_round {keys : List Int} {S R : List Int} (hk : keys.Nodup) (hn : (S ++ R).Nodup) (hR : ∀ x ∈ R, x ∈ keys) : ∀ (us dn : List Int) (v : Vw) (r : List Int), v.map (·.1) = keys → (∀ u ∈ keys, ∀ y ∈ succAt v u, y ∈ keys) →
    (∀ x, x ∈ S ∨ x ∈ R → deg keys (succAt v) S x = 0) → InRound keys (succAt v) S R dn us (npAt v) r →
    DoneOk us v r ∧ npAt (doneW us v r).1 = (doneAll (succAt v) us (npAt v) r).1 ∧ (doneW us v r).2 = (doneAll (succAt v) us (npAt v) r).2 ∧ (doneW us v r).1.map (·.1) = keys ∧ succAt (doneW us v r).1 = succAt v
  | [], dn, v, r, hv, _, _, _ => ⟨trivial, rfl, rfl, hv, rfl⟩
  | u :: us, dn, v, r, hv, hsub, hz, J => by
    have huR : u ∈ R := by rw [J.split]; exact List.mem_append_right _ (.head _)
    have huk := hR u huR
    have huv : u ∈ v.map (·.1) := by rw [hv]; exact huk
    have J' := InRound.step hk hsub hn hR hz J
    have e1 : npAt (setV v u (-2)) = upd (npAt v) u (-2) := by
      funext x
      rw [npAt_setV huv]; rfl
    have e2 : succAt (setV v u (-2)) = succAt v := by funext x; exact succAt_setV x
    obtain ⟨a, b, c⟩ := decW_decs (succAt v u) (setV v u (-2)) r fun y hy => by rw [keys_setV, hv]; exact hsub u huk y hy
    have e3 : succAt (decW (succAt v u) (setV v u (-2)) r).1 = succAt v := c.trans e2
    have hkeys : (decW (succAt v u) (setV v u (-2)) r).1.map (·.1) = keys := by rw [decW_keys, keys_setV, hv]
    rw [e1] at a b
    have ih := done_round hk hn hR us (dn ++ [u]) (decW (succAt v u) (setV v u (-2)) r).1 (decW (succAt v u) (setV v u (-2)) r).2 hkeys (by rw [e3]; exact hsub) (by rw [e3]; exact hz) (by rw [e3, a, b]; exact J')
    rw [e3, a, b] at ih
    obtain ⟨i1, i2, i3, i4, i5⟩ := ih
    refine ⟨⟨huv, J.np_out u (.head _), fun y hy => by rw [hv]; exact hsub u huk y hy, ?_⟩, ?_, ?_, ?_, ?_⟩
    · rw [b]; exact i1
    · show npAt (doneW us _ _).1 = (doneAll (succAt v) us _ _).1
      rw [b]; exact i2
    · show (doneW us _ _).2 = (doneAll (succAt v) us _ _).2
      rw [b]; exact i3
    · show (doneW us _ _).1.map (·.1) = keys
      rw [b]; exact i4
    · show succAt (doneW us _ _).1 = succAt v
      rw [b]; exact i5
theorem outs : ∀ (rs : List Int) (v : Vw), (∀ k ∈ rs, k ∈ v.map (·.1)) → npAt (rs.foldl (fun v k => setV v k (-1)) v) = outNp rs (npAt v) ∧ (rs.foldl (fun v k => setV v k (-1)) v).map (·.1) = v.map (·.1) ∧ succAt (rs.foldl (fun v k => setV v k (-1)) v) = succAt v
  | [], v, _ => ⟨by funext x; simp [outNp], rfl, rfl⟩
  | k :: rs, v, h => by
    obtain ⟨a, b, c⟩ := outs rs (setV v k (-1)) fun x hx => by rw [keys_setV]; exact h x (.tail _ hx)
    rw [List.foldl_cons]
    refine ⟨?_, b.trans (keys_setV v k (-1)), c.trans (by funext x; exact succAt_setV x)⟩
    rw [a]
    funext x
    unfold outNp
    rw [npAt_setV (h k (.head _))]
    by_cases q1 : x ∈ rs
    · rw [if_pos q1, if_pos (.tail _ q1)]
    · by_cases q2 : x = k
      · rw [if_neg q1, if_pos q2, if_pos (by rw [q2]; exact .head _)]
      · rw [if_neg q1, if_neg q2, if_neg (fun q => (List.mem_cons.mp q).elim q2 q1)]
/-- one turn of the law's while -/
theorem round_next {keys S R : List Int} {v : Vw} (hk : keys.Nodup) (hv : v.map (·.1) = keys) (hsub : ∀ u ∈ keys, ∀ y ∈ succAt v u, y ∈ keys) (H : AtHead keys (succAt v) S R (npAt v)) {v1 : Vw} (h1 : v1 = R.foldl (fun v k => setV v k (-1)) v) :
    DoneOk R v1 [] ∧ (doneW R v1 []).1.map (·.1) = keys ∧ succAt (doneW R v1 []).1 = succAt v ∧ AtHead keys (succAt v) (S ++ R) (doneW R v1 []).2 (npAt (doneW R v1 []).1) := by
  have hR : ∀ x ∈ R, x ∈ keys := fun x hx => ((H.mem x).mp hx).1
  obtain ⟨a, b, c⟩ := outs R v fun k hk' => by rw [hv]; exact hR k hk'
  rw [← h1] at a b c
  have D := done_round hk H.nodup hR R [] v1 [] (b.trans hv) (by rw [c]; exact hsub) (by rw [c]; exact H.hz) (by rw [c, a]; exact H.opens)
  rw [c, a] at D
  obtain ⟨d1, d2, d3, d4, d5⟩ := D
  refine ⟨d1, d4, d5, ?_⟩
  rw [d2, d3]
  exact H.next hk hsub
end Part_P12
section Part_P13
theorem anew_P13 : True := by k_with_none; w_top off; trivial
open PySem
set_option linter.unusedVariables false
/-- the spots that a car passes -/
noncomputable def passedOf (size x t : Int) : List Int := (List.range ((t - x).fmod size).toNat).map fun d : Nat => (x + (d : Int)).fmod size
noncomputable def carV (size free : Int) (v : Vw) (x t : Int) : Vw := if free ∈ passedOf size x t then addV (addV v t (passedOf size x t)) free [free] else addV v t (passedOf size x t)
noncomputable def buildV (size free : Int) : Vw → List (Int × Int) → Vw
  | v, [] => v
  | v, p :: r => buildV size free (carV size free v p.1 p.2) r
theorem buildV_snoc {size free : Int} : ∀ (l : List (Int × Int)) (v : Vw) (p : Int × Int), buildV size free v (l ++ [p]) = carV size free (buildV size free v l) p.1 p.2
  | [], _, _ => rfl
  | _ :: l, v, p => buildV_snoc l _ p
theorem carV_ok {size free : Int} {v : Vw} {x t : Int} (h : VOk v) : VOk (carV size free v x t) ∧ (∀ z, z ∈ (carV size free v x t).map (·.1) ↔ z ∈ v.map (·.1) ∨ z = t ∨ z ∈ passedOf size x t) ∧
    ∀ u y, y ∈ succAt (carV size free v x t) u ↔ y ∈ succAt v u ∨ (y = t ∧ u ∈ passedOf size x t) ∨ (free ∈ passedOf size x t ∧ y = free ∧ u = free) := by
  have A := addV_ok (k := t) (ps := passedOf size x t) h.1
  have h1 : VOk (addV v t (passedOf size x t)) := h.add
  have e1 : ∀ u y, y ∈ succAt (addV v t (passedOf size x t)) u ↔ y ∈ succAt v u ∨ (y = t ∧ u ∈ passedOf size x t) := fun u y => by
    rw [A.succ u, List.mem_append, List.mem_replicate]
    refine or_congr Iff.rfl ⟨fun ⟨a, b⟩ => ⟨b, List.count_pos_iff.mp (Nat.pos_of_ne_zero a)⟩, fun ⟨a, b⟩ => ⟨Nat.ne_of_gt (List.count_pos_iff.mpr b), a⟩⟩
  by_cases hf : free ∈ passedOf size x t
  · have e : carV size free v x t = addV (addV v t (passedOf size x t)) free [free] := if_pos hf
    have A2 := addV_ok (k := free) (ps := [free]) h1.1
    rw [e]
    refine ⟨h1.add, fun z => ?_, fun u y => ?_⟩
    · rw [A2.keys z, A.keys z]
      constructor
      · rintro (q | q | q)
        · exact q
        · exact .inr (.inr (q ▸ hf))
        · exact .inr (.inr (by rw [List.mem_singleton.mp q]; exact hf))
      · exact .inl
    · rw [A2.succ u, List.mem_append, e1 u y, List.mem_replicate, or_assoc]
      refine or_congr Iff.rfl (or_congr Iff.rfl ⟨fun ⟨a, b⟩ => ⟨hf, b, ?_⟩, fun ⟨_, b, c⟩ => ⟨by rw [c]; simp, b⟩⟩)
      have := List.count_pos_iff.mp (Nat.pos_of_ne_zero a)
      exact List.mem_singleton.mp this
  · have e : carV size free v x t = addV v t (passedOf size x t) := if_neg hf
    rw [e]
    refine ⟨h1, A.keys, fun u y => ?_⟩
    rw [e1 u y]
    constructor
    · rintro (q | q)
      · exact .inl q
      · exact .inr (.inl q)
    · rintro (q | q | q)
      · exact .inl q
      · exact .inr q
      · exact absurd q.1 hf
theorem buildV_ok {size free : Int} : ∀ (l : List (Int × Int)) (v : Vw), VOk v → VOk (buildV size free v l) ∧ (∀ z, z ∈ (buildV size free v l).map (·.1) ↔ z ∈ v.map (·.1) ∨ ∃ p ∈ l, z = p.2 ∨ z ∈ passedOf size p.1 p.2) ∧
    ∀ u y, y ∈ succAt (buildV size free v l) u ↔ y ∈ succAt v u ∨ ∃ p ∈ l, (y = p.2 ∧ u ∈ passedOf size p.1 p.2) ∨ (free ∈ passedOf size p.1 p.2 ∧ y = free ∧ u = free)
  | [], v, h => ⟨h, fun z => by simp [buildV], fun u y => by simp [buildV]⟩
  | p :: l, v, h => by
    obtain ⟨a, b, c⟩ := carV_ok (size := size) (free := free) (x := p.1) (t := p.2) h
    obtain ⟨a', b', c'⟩ := buildV_ok l (carV size free v p.1 p.2) a
    refine ⟨a', fun z => ?_, fun u y => ?_⟩
    · show z ∈ (buildV size free (carV size free v p.1 p.2) l).map (·.1) ↔ _
      rw [b' z, b z]
      simp only [List.mem_cons, exists_eq_or_imp, or_assoc]
    · show y ∈ succAt (buildV size free (carV size free v p.1 p.2) l) u ↔ _
      rw [c' u y, c u y]
      simp only [List.mem_cons, exists_eq_or_imp, or_assoc]
end Part_P13
section Part_M16e
theorem anew_M16e : True := by k_with_none; w_top off; trivial
theorem fillM16e (w : World) (h : Heap) : PySem.Challenge.rw_oh0070_01.foot = 5 → (hd.heap_1 w.params).In h → True := by
  k_fill
  intro _ _
  trivial
section
variable {w : World} {mean : ExcName → Option Value} {mg mb : Str → Option Value} {A : Around} {hb : Heap} {s : Shared} {Q E : Value → Shared → Prop}
/-- list.extend with a tuple of integers -/
theorem extend_T {D b : Addr} {its its2 : List Value} {ns ns2 : List Int} {n : Nat} {news news' : List (Addr × Obj)} {L : Addr} {h₀ : Heap} {m : Str → Option Value} {Q : Value → Shared → Prop} {prog : Program} {w : World} {A : Around} {E : Value → Shared → Prop} {s : Shared} (F : Fr h₀ L s.heap m) (N : News h₀ L s.heap news) (h2 : (b, tupOf its2.toArray) ∈ news)
    (U : Upd D (listOf its.toArray n) (listOf (its ++ its2).toArray (if (its ++ its2).length = its.length then n else n + 1)) news news') (hi : IntsAre its ns) (hi2 : IntsAre its2 ns2) (hz : ns.length + ns2.length < 100000)
    (h : ∀ h', Fr h₀ L h' m → News h₀ L h' news' → IntsAre (its ++ its2) (ns ++ ns2) → Q .none { s with heap := h' }) : wpAny (model prog w) A (call (.builtin "list.extend") [.ref D, .ref b]) Q E s := by
  have hm : (D, listOf its.toArray n) ∈ news := by
    obtain ⟨pre, post, rfl, _, _, _⟩ := U.split
    exact List.mem_append.mpr (.inr (.head _))
  have hs := sizeLine_eq
  have q1 := hi.length
  have q2 := hi2.length
  obtain ⟨F', N'⟩ := turn_L (fun x => x ++ its2.toArray) F N (by simp) U
  exact call_meets PySem.F.slot_list_extend ⟨_, (N _ hm).1, rfl⟩ PySem.F.entry_list_extend (PySem.F.args_list_extend_2 _ _)
    (AutoSeq1.list_extend_list_tuple_0 D its.toArray n b its2.toArray 0 (by simp [Builtin.List.listTooLong]; omega) (by simp; omega) (by simp; omega)) ⟨(N _ hm).1, (N _ h2).1, h _ F' N' (ints_app hi hi2)⟩
end
theorem ready_filter {S : So} (hn : (S.nodes.map (·.key)).Nodup) : (S.nodes.filter fun n => decide (n.np = 0)).map (·.key) = (S.view.map (·.1)).filter fun x => decide (npAt S.view x = 0) := by
  have hk : S.view.map (·.1) = S.nodes.map (·.key) := by unfold So.view; rw [List.map_map]; rfl
  rw [hk, List.filter_map]
  congr 1
  refine List.filter_congr fun nd hnd => ?_
  obtain ⟨pre, post, e⟩ := List.append_of_mem hnd
  show decide (nd.np = 0) = decide (npAt S.view nd.key = 0)
  rw [npAt_node e hn rfl]
theorem its_succ {w : World} {S : So} (O : S.Ok w) (hn : (S.nodes.map (·.key)).Nodup) : ∀ nd ∈ S.nodes, nd.its.length = (succAt S.view nd.key).length := fun nd hnd => by
  obtain ⟨pre, post, e⟩ := List.append_of_mem hnd
  rw [(O.areInts nd hnd).length]
  unfold succAt
  rw [find_node e hn rfl]; rfl
/-- where the law's own sorting stands at the head of its while -/
structure HT where
  S : So
  ri : List Value
  rn : Nat
  rs : List Int
  sp : List Value
  sn : Nat
  spots : List Int
noncomputable abbrev HT.led (w : World) (r lS : Addr) (frs : List (Addr × Obj)) (c : HT) : List (Addr × Obj) := (lS, listOf c.sp.toArray c.sn) :: ((c.S.ready r c.ri c.rn).objs w ++ frs)
structure HT.Ok (w : World) (r lS : Addr) (frs : List (Addr × Obj)) (keys : List Int) (succ : Int → List Int) (c : HT) : Prop where
  ks : c.S.view.map (·.1) = keys
  sc : succAt c.S.view = succ
  head : AtHead keys succ c.spots c.rs (npAt c.S.view)
  level : c.S.nf = c.S.po
  ri : IntsAre c.ri c.rs
  sp : IntsAre c.sp c.spots
  ok : (c.S.ready r c.ri c.rn).Ok w
  nd : ((c.led w r lS frs).map (·.1)).Nodup
end Part_M16e
section Part_M16
theorem rules_M16 : True := by
  k_with_none
  w_top off
  k_with "call ref" => refine parkAt (n := 0) (by with_reducible assumption) ?_
  k_with "exec For Name Call cons nil" => refine parkAt (n := 1) (by with_reducible assumption) ?_
  k_with "m pyIter ref" => refine parkAt (n := 2) (by with_reducible assumption) ?_
  k_with "exec Try cons" => refine parkAt (n := 3) (by with_reducible assumption) ?_
  k_with "noteFrame ref" => refine parkAt (n := 4) (by with_reducible assumption) ?_
  k_with "exec While" => refine parkAt (n := 5) (by with_reducible assumption) ?_
  k_with "call builtin:list.extend" => refine parkAt (n := 6) (by with_reducible assumption) ?_
  k_with "m mine list" => first | exact isL (by k_asm) (by k_mem) | exact isB (by k_asm) (by assumption)
  k_with "m call builtin:len" => (k_here; (try dsimp only); (with_reducible show wpAny _ _ (call (Value.builtin "len") [Value.ref _]) _ _ _); k_dflt (refine' len_L ?zqk1 ?zqk3 ?zqk4 ?_; (case zqk1 => walk_at "mine list"); (case zqk3 => assumption); (case zqk4 => omega)))
  k_with "m subscriptTail" => (k_here; (try dsimp only); (with_reducible show wpAny _ _ (subscriptTail _ _ (Value.ref _) (Value.int _ _)) _ _ _); k_dflt (first | (refine' item_L ?zqk1 ?zqk3 ?zqk4 ?zqk5 ?zqk6 ?_ ?zqk8; (case zqk1 => walk_at "mine list"); (case zqk3 => assumption); (case zqk5 => with_reducible assumption); (case zqk4 => omega); (case zqk6 => omega); (case zqk8 => with_unfolding_all rfl); k_whole; intro t9) | (refine' out_L ?zqk0 ?zqk1 ?zqk3 ?zqk4 ?zqk5 ?_ ?zqk8; (case zqk0 => first | rfl | assumption); (case zqk1 => walk_at "mine list"); (case zqk3 => assumption); (case zqk4 => omega); (case zqk5 => omega); (case zqk8 => with_unfolding_all rfl); k_whole; intro h9 tk9 e9 x9)))
  k_with "m subscriptTail Name Name ref int" => (k_here; (try dsimp only); (with_reducible show wpAny _ _ (subscriptTail _ _ (Value.ref _) (Value.int _ _)) _ _ _); k_dflt (first | (refine' item_L ?zqk1 ?zqk3 ?zqk4 ?zqk5 ?zqk6 ?_ ?zqk8; (case zqk1 => walk_at "mine list"); (case zqk3 => assumption); (case zqk5 => with_reducible assumption); (case zqk4 => omega); (case zqk6 => omega); (case zqk8 => with_unfolding_all rfl); k_whole; intro t9) | (refine' out_L ?zqk0 ?zqk1 ?zqk3 ?zqk4 ?zqk5 ?_ ?zqk8; (case zqk0 => first | rfl | assumption); (case zqk1 => walk_at "mine list"); (case zqk3 => assumption); (case zqk4 => omega); (case zqk5 => omega); (case zqk8 => with_unfolding_all rfl); k_whole; intro h9 tk9 e9 x9) | (refine' out_over ?zqk0 ?zqkN ?zqkm ?zqkb ?zqk1 ?zqk3 ?zqk4 ?zqk5 ?_ ?zqk8; (case zqk0 => rfl); (case zqkN => k_asm); (case zqkm => k_mem); (case zqkb => assumption); (case zqk1 => walk_at "mine list"); (case zqk3 => assumption); (case zqk4 => omega); (case zqk5 => omega); (case zqk8 => with_unfolding_all rfl); k_whole; intro h9 tk9 e9 x9)))
  k_with "m subscriptTail Name Slice ref ref" => (k_here; k_dflt (refine' kmk_slice_ints ?zqF ?zqN ?zql ?zqpl ?zqpu ?zqhi ?zqhm rfl ?_ ?zqhs ?zqht ?zqhz; (case zqF => k_asm); (case zqN => k_asm); (case zql => walk_at "mine list"); (case zqpl => kmk_part); (case zqpu => kmk_part); (case zqhi => assumption); (case zqhm => first | (with_reducible refine kmk_from (by assumption) ?_; omega) | (with_reducible refine kmk_upto (by assumption) ?_; omega) | with_reducible exact kmk_all (by assumption)); (case zqhs => with_unfolding_all rfl); (case zqht => kmk_pure); (case zqhz => exact kmk_sz (by assumption) (by simp only [sizeLine_eq]; omega)); k_whole; intro D9 ws9 h9 F9 N9 l9 I9 e9 e9'; (try k_lt l9)))
  k_with "m call builtin:list.extend" => (k_here; k_dflt (refine' extend_L ?zqF ?zqN ?zqm ?zqU ?zqi1 ?zqi2 ?zqz ?_; (case zqF => k_asm); (case zqN => k_asm); (case zqU => k_upd); (case zqm => k_mem); (case zqi1 => walk_at "mine ints"); (case zqi2 => walk_at "mine ints"); (case zqz => walk_at "mine len"); k_whole; intro h9 F9 N9 I9))
  k_with "m mine len" => first | omega | (simp only [List.length_append, List.length_drop, List.length_take, List.length_nil, List.length_cons] at *; omega)
  k_with "m mine ints" => first | exact IntsAre.nil | assumption
  k_with "m compareOp In int ref" => (k_here; (try dsimp only); k_dflt (refine' in_L ?zqm ?zqi ?_; (case zqm => walk_at "mine list"); (case zqi => assumption)))
  k_with "m StarOf ref" => (k_here; k_dflt (refine' star_seq ?zqk1 ?zqk2 ?zqm ?zqc ?zqd ?zqT ?zqe ?zqz ?_; (case zqk1 => k_asm); (case zqk2 => k_asm); (case zqm => k_mem); (case zqc => exact rfl); (case zqd => exact rfl); (case zqT => first | exact .inl rfl | exact .inr rfl); (case zqe => exact List.toList_toArray); (case zqz => rw [List.size_toArray, sizeLine_eq]; omega); k_whole); intro hS9 FS9 NS9; (try k_sweep); try dsimp only [List.nil_append, List.cons_append])
  trivial
/-- what the law's own sorting hands back -/
structure Handed (keys : List Int) (succ : Int → List Int) (spots : List Int) (refused : Bool) (np : Int → Int) : Prop where
  head : AtHead keys succ spots [] np
  way : refused = true → ∃ x, Way keys succ x x
  rank : refused = false → ∃ rk : Int → Nat, ∀ u ∈ keys, ∀ v ∈ succ u, rk v < rk u
/-- where the law's own sorting stands behind prepare -/
noncomputable def MidH (w : World) (base : Heap) (L : Addr) (s : Shared) (S : So) (frs : List (Addr × Obj)) (s3 : Shared) : Prop :=
  ∃ refused frs' h tk m r ri rn, s3 = { s with heap := h, toks := tk } ∧ Fr base L h m ∧ (m (Str.ofString "refused") = some (.bool refused) ∧ m (Str.ofString "sorter") = some (.ref S.x)) ∧ News base L h ((S.ready r ri rn).objs w ++ frs') ∧ (((S.ready r ri rn).objs w ++ frs').map (·.1)).Nodup ∧ TI.SameUp frs frs' ∧
    IntsAre ri ((S.nodes.filter fun n => decide (n.np = 0)).map (·.key)) ∧ (refused = true → ∃ x, Way (S.nodes.map (·.key)) (succAt S.view) x x) ∧ (refused = false → ∃ rk : Int → Nat, ∀ u ∈ S.nodes.map (·.key), ∀ v ∈ succAt S.view u, rk v < rk u)
theorem passed_in {size x t z : Int} (hs : 0 < size) (h : z ∈ passedOf size x t) : 0 ≤ z ∧ z < size := by
  obtain ⟨d, _, rfl⟩ := List.mem_map.mp h
  exact ⟨Int.fmod_nonneg_of_pos _ hs, Int.fmod_lt_of_pos _ hs⟩
theorem pair_nd {a b : Addr} {o o' : Obj} (h : a ≠ b) : (([(a, o), (b, o')] : List (Addr × Obj)).map (·.1)).Nodup := by simp [h]
theorem fillM16 (w : World) (h : Heap) : PySem.Challenge.rw_oh0070_01.foot = 5 → (hd.heap_1 w.params).In h → True := by
  k_fill
  intro _ _
  trivial
noncomputable abbrev handed_cP := (World) × (ExcName → Option Value) × (Str → Option Value) × (Str → Option Value) × (Around) × (Heap) × (Shared) × (Value → Shared → Prop) × (Value → Shared → Prop) × (Addr) × (Addr) × (List Value) × (List Value) × (List Int) × (List Int) × (Int) × (Tok) × (List Env) × (List (Addr × Obj))
noncomputable def handed_cS : handed_cP → Prop := fun p => (fun (w : World) (mean : ExcName → Option Value) (mg : Str → Option Value) (mb : Str → Option Value) (A : Around) (hb : Heap) (s : Shared) (Q : Value → Shared → Prop) (E : Value → Shared → Prop) (lw : Addr) (lt : Addr) (wi : List Value) (ti : List Value) (ws : List Int) (ts : List Int) (free : Int) (ft : Tok) (l : List Env) (frs : List (Addr × Obj)) => ∀ (X : (hd.heap_1 w.params).In hb)
   (T : Top hd.view_1 (looseW hd.view_1 [Str.ofString "_NodeInfo"]) mean mg mb hb)
   (St : hb.StaysIn s.heap)
   (hfr : A.frames = some l)
   (Fs : FrsIn hb s.heap l frs)
   (hfn : (frs.map (·.1)).Nodup)
   (hh : A.handled = none)
   (hlw : s.heap.IsList lw wi.toArray)
   (hiw : IntsAre wi ws)
   (hlt : s.heap.IsList lt ti.toArray)
   (hit : IntsAre ti ts)
   (hwl : ws.length ≤ 6)
   (htl : ts.length = ws.length)
   (hir : ∀ x ∈ ts, 0 ≤ x ∧ x < (ws.length : Int) + 1)
   (hd : A.depth + 20 < recursionLimit)
   (hret : ∀ T lS sp sn spots refused frs' h' tk' np, Handed ((buildV ((ws.length : Int) + 1) free [] (ws.zip ts)).map (·.1)) (succAt (buildV ((ws.length : Int) + 1) free [] (ws.zip ts))) spots refused np → TI.SameUp frs frs' → (∀ b o, b ∉ frs.map (·.1) → s.heap.get? b = some o → h'.get? b = some o) →
      (∀ p ∈ frs', h'.get? p.1 = some p.2) → h'.get? T = some (tupOf #[.bool refused, .ref lS]) → h'.get? lS = some (listOf sp.toArray sn) → s.heap.get? T = none → s.heap.get? lS = none → T ≠ lS → IntsAre sp spots → Q (.ref T) { s with heap := h', toks := tk' }),
    wpAny (model PySem.Challenge.rw_oh0070_01.row.prog w) A (call (.ref 202) [.ref lw, .ref lt, .int free ft]) Q E s) p.1 p.2.1 p.2.2.1 p.2.2.2.1 p.2.2.2.2.1 p.2.2.2.2.2.1 p.2.2.2.2.2.2.1 p.2.2.2.2.2.2.2.1 p.2.2.2.2.2.2.2.2.1 p.2.2.2.2.2.2.2.2.2.1 p.2.2.2.2.2.2.2.2.2.2.1 p.2.2.2.2.2.2.2.2.2.2.2.1 p.2.2.2.2.2.2.2.2.2.2.2.2.1 p.2.2.2.2.2.2.2.2.2.2.2.2.2.1 p.2.2.2.2.2.2.2.2.2.2.2.2.2.2.1 p.2.2.2.2.2.2.2.2.2.2.2.2.2.2.2.1 p.2.2.2.2.2.2.2.2.2.2.2.2.2.2.2.2.1 p.2.2.2.2.2.2.2.2.2.2.2.2.2.2.2.2.2.1 p.2.2.2.2.2.2.2.2.2.2.2.2.2.2.2.2.2.2
noncomputable def handed_cX : handed_cP := @Classical.epsilon handed_cP ⟨⟨⟨fun _ _ => 0, { strHash := fun _ => 0, shareClass := fun _ => 0, mergeTok := fun t => t, idOf := fun _ => 0, idOfShared := fun _ _ => 0, followText := fun _ => false, idOfImm := fun _ => 0 }⟩, fun _ => none, fun _ => none, fun _ => none, callerA, {}, {}, fun _ _ => True, fun _ _ => True, 0, 0, [], [], [], [], 0, 0, [], []⟩⟩ fun x => ¬ handed_cS x
namespace handed_cC
noncomputable def w : World := handed_cX.1
noncomputable def mean : ExcName → Option Value := handed_cX.2.1
noncomputable def mg : Str → Option Value := handed_cX.2.2.1
noncomputable def mb : Str → Option Value := handed_cX.2.2.2.1
noncomputable def A : Around := handed_cX.2.2.2.2.1
noncomputable def hb : Heap := handed_cX.2.2.2.2.2.1
noncomputable def s : Shared := handed_cX.2.2.2.2.2.2.1
noncomputable def Q : Value → Shared → Prop := handed_cX.2.2.2.2.2.2.2.1
noncomputable def E : Value → Shared → Prop := handed_cX.2.2.2.2.2.2.2.2.1
noncomputable def lw : Addr := handed_cX.2.2.2.2.2.2.2.2.2.1
noncomputable def lt : Addr := handed_cX.2.2.2.2.2.2.2.2.2.2.1
noncomputable def wi : List Value := handed_cX.2.2.2.2.2.2.2.2.2.2.2.1
noncomputable def ti : List Value := handed_cX.2.2.2.2.2.2.2.2.2.2.2.2.1
noncomputable def ws : List Int := handed_cX.2.2.2.2.2.2.2.2.2.2.2.2.2.1
noncomputable def ts : List Int := handed_cX.2.2.2.2.2.2.2.2.2.2.2.2.2.2.1
noncomputable def free : Int := handed_cX.2.2.2.2.2.2.2.2.2.2.2.2.2.2.2.1
noncomputable def ft : Tok := handed_cX.2.2.2.2.2.2.2.2.2.2.2.2.2.2.2.2.1
noncomputable def l : List Env := handed_cX.2.2.2.2.2.2.2.2.2.2.2.2.2.2.2.2.2.1
noncomputable def frs : List (Addr × Obj) := handed_cX.2.2.2.2.2.2.2.2.2.2.2.2.2.2.2.2.2.2
noncomputable def base : Heap := hideAll s.heap (frs.map (·.1))
noncomputable def L : Addr := s.heap.objs.size
theorem key : ∀ (X : (hd.heap_1 w.params).In hb)
   (T : Top hd.view_1 (looseW hd.view_1 [Str.ofString "_NodeInfo"]) mean mg mb hb)
   (St : hb.StaysIn s.heap)
   (hfr : A.frames = some l)
   (Fs : FrsIn hb s.heap l frs)
   (hfn : (frs.map (·.1)).Nodup)
   (hh : A.handled = none)
   (hlw : s.heap.IsList lw wi.toArray)
   (hiw : IntsAre wi ws)
   (hlt : s.heap.IsList lt ti.toArray)
   (hit : IntsAre ti ts)
   (hwl : ws.length ≤ 6)
   (htl : ts.length = ws.length)
   (hir : ∀ x ∈ ts, 0 ≤ x ∧ x < (ws.length : Int) + 1)
   (hd : A.depth + 20 < recursionLimit)
   (hret : ∀ T lS sp sn spots refused frs' h' tk' np, Handed ((buildV ((ws.length : Int) + 1) free [] (ws.zip ts)).map (·.1)) (succAt (buildV ((ws.length : Int) + 1) free [] (ws.zip ts))) spots refused np → TI.SameUp frs frs' → (∀ b o, b ∉ frs.map (·.1) → s.heap.get? b = some o → h'.get? b = some o) →
      (∀ p ∈ frs', h'.get? p.1 = some p.2) → h'.get? T = some (tupOf #[.bool refused, .ref lS]) → h'.get? lS = some (listOf sp.toArray sn) → s.heap.get? T = none → s.heap.get? lS = none → T ≠ lS → IntsAre sp spots → Q (.ref T) { s with heap := h', toks := tk' }),
    wpAny (model PySem.Challenge.rw_oh0070_01.row.prog w) A (call (.ref 202) [.ref lw, .ref lt, .int free ft]) Q E s := by
  intro X T St hfr Fs hfn hh hlw hiw hlt hit hwl htl hir hd hret
  refine wpAny_call ?_
  have hH : ∀ a ∈ frs.map (·.1), hb.get? a = none := frs_off Fs
  k_dflt (refine' enter_cells (H := frs.map (·.1)) (binds := [(Str.ofString "wishes", .ref lw), (Str.ofString "table", .ref lt), (Str.ofString "free", .int free ft)]) ?k1 ?k2 ?k3 ?k4 ?k6 ?k7 ?k8 ?k9 ?kB ?kD ?_ ?c2 ?c3 ?c4; (case k1 => k_asm); (case k2 => k_asm); (case k3 => k_asm); (case k4 => first | assumption | (intro a ha; cases ha)); (case k6 => k_is); (case k7 => k_is); (case k8 => k_room); (case k9 => exact BindsTo.of_eq rfl); (case kB => exact rfl); (case kD => decide +kernel); (case c2 => exact rfl); (case c3 => exact rfl); (case c4 => exact rfl); k_whole; intro g L' h' tk' cells' hg hL' F' N' Y' K' X' T' S')
  subst hg hL'
  have hlwb := isList_hide hlw Fs
  have hltb := isList_hide hlt Fs
  have NF := frs_news Fs K'
  generalize hbase : hideAll s.heap (frs.map (·.1)) = base at *
  obtain rfl : base = handed_cC.base := hbase.symm
  generalize hLL : s.heap.objs.size = L at *
  obtain rfl : L = handed_cC.L := hLL.symm
  obtain ⟨oc, os, ow, hcl, dc, ds, dw⟩ := CellsAre.three Y'
  subst hcl
  clear Y'
  replace dc : oc.data = .cell none := dc
  replace ds : os.data = .cell none := ds
  replace dw : ow.data = .cell (some (.ref lw)) := dw
  obtain ⟨m0, F1⟩ : ∃ m0, Fr base L h' (kstB m0 [(Str.ofString "table", .ref lt), (Str.ofString "free", .int free ft)]) := ⟨_, by
    rw [kstB_same]
    · exact F'
    · intro p hp
      rcases List.mem_cons.mp hp with rfl | hp
      · rfl
      · cases List.mem_singleton.mp hp; rfl⟩
  clear F'
  have N1 : News base L h' ((L + 1 + 1 + 1, oc) :: (L + 1 + 1, os) :: (L + 1, ow) :: frs) := fun p hp => by
    rcases List.mem_cons.mp hp with rfl | hp
    · exact N' _ (.head _)
    rcases List.mem_cons.mp hp with rfl | hp
    · exact N' _ (.tail _ (.head _))
    rcases List.mem_cons.mp hp with rfl | hp
    · exact N' _ (.tail _ (.tail _ (.head _)))
    · exact NF p hp
  clear N' NF
  have hfl : ∀ p ∈ frs, @LT.lt Nat _ p.1 L := fun p hp => by rw [← hLL]; exact Heap.lt_size (Fs.2 p hp).1
  have f1 : ∀ p ∈ frs, p.1 ≠ L + 1 := fun p hp => Nat.ne_of_lt (Nat.lt_succ_of_lt (hfl p hp))
  have f2 : ∀ p ∈ frs, p.1 ≠ L + 1 + 1 := fun p hp => Nat.ne_of_lt (Nat.lt_succ_of_lt (Nat.lt_succ_of_lt (hfl p hp)))
  have f3 : ∀ p ∈ frs, p.1 ≠ L + 1 + 1 + 1 := fun p hp => Nat.ne_of_lt (Nat.lt_succ_of_lt (Nat.lt_succ_of_lt (Nat.lt_succ_of_lt (hfl p hp))))
  ((try clear pk); (try clear pk))
  have pk : PkAt 0 := trivial
  k_steps
  refine unpark ?_
  k_dflt (refine' call_cls ?k1 ?k2 ?k3 ?k4 ?k5 ?k6 ?_; (case k1 => k_asm); (case k2 => k_asm); (case k3 => k_asm); (case k4 => k_is); (case k5 => k_is); (case k6 => k_is); k_whole; intro x2 d2 h2 F2 N2 l1 l2)
  rename Obj => o2
  have ds2 : ∃ sz, o2.data = .cell (some (.int ((ws.length : Int) + 1) sz)) := ⟨_, by assumption⟩
  obtain ⟨szt, ds2⟩ := ds2
  have hcn := fun o => cel_nodup (oc := oc) (os := o) (ow := ow) hfn hfl
  refine init_c X' T' (fun b o e => F2.keep b o e) (Pre.of N2 (fun p hp => by
      rcases List.mem_cons.mp hp with rfl | hp
      · exact .head _
      · cases List.mem_singleton.mp hp; exact .tail _ (.head _)) (pair_nd (Nat.ne_of_gt l2))) (by k_room) ?_
  intro S h3 tk3 hSx hSn hSrd hSpo hSnf hSmore O P
  have hxd : x2 ≠ d2 := Nat.ne_of_gt l2
  obtain ⟨F3, N3, hnd3⟩ := P.back F2 N2 (by
    rw [List.map_append]
    refine List.nodup_append.mpr ⟨?_, hcn _, fun a ha b hb e => ?_⟩
    · have : x2 ≠ d2 := Nat.ne_of_gt l2
      simp [this]
    · obtain ⟨r, hr, rfl⟩ := List.mem_map.mp hb
      have h1 := l1 r hr
      have h2 : a = x2 ∨ a = d2 := by simpa using ha
      rcases h2 with rfl | rfl
      · exact absurd (e ▸ Nat.lt_trans h1 l2) (Nat.lt_irrefl _)
      · exact absurd (e ▸ h1) (Nat.lt_irrefl _))
  clear P F2 N2 l1 l2
  refine ⟨rfl, ?_⟩
  ((try clear pk); (try clear pk))
  have pk : PkAt 1 := trivial
  k_steps
  refine unpark ?_
  refine wpAny_For ?_ (by intro _; rfl)
  ((try clear pk); (try clear pk))
  have pk : PkAt 2 := trivial
  k_steps
  refine unpark ?_
  rename IsRange _ _ _ _ _ _ _ _ => hR
  rename_i F5 N5 K5
  have n1 : @Ne Addr (L + 1 + 1) (L + 1 + 1 + 1) := Ne.symm (Nat.succ_ne_self _)
  have n2 : @Ne Addr (L + 1) (L + 1 + 1 + 1) := Nat.ne_of_lt (Nat.lt_succ_of_lt (Nat.lt_succ_self _))
  have n3 : @Ne Addr (L + 1) (L + 1 + 1) := Nat.ne_of_lt (Nat.lt_succ_self _)
  refine loop_rangeC (σ := So) (c := L + 1 + 1 + 1) (n := ws.length) (by show A.handled = none; exact hh) (by rfl) (by rfl) (by rfl) hR (small_one (by decide) (by decide) (by omega) (by omega)) (by rw [rangeSize_nat]; simp)
    (fun S => (L + 1 + 1, o2) :: (L + 1, ow) :: (S.objs w ++ frs))
    (fun i S m => (S.view = buildV ((ws.length : Int) + 1) free [] ((ws.zip ts).take i) ∧ S.rd = .none ∧ S.more = [] ∧ S.po = 0 ∧ S.nf = 0 ∧ S.x = x2 ∧ S.Ok w ∧ ((S.objs w ++ (L + 1 + 1 + 1, oc) :: (L + 1 + 1, o2) :: (L + 1, ow) :: frs).map (·.1)).Nodup ∧ S.nodes.length ≤ 9 * i ∧ ∀ nd ∈ S.nodes, nd.its.length ≤ 7 * i) ∧
      m (Str.ofString "table") = some (.ref lt) ∧ m (Str.ofString "free") = some (.int free ft) ∧ m (Str.ofString "sorter") = some (.ref x2)) S F5 (fun p hp => ?_) dc ?_ ⟨⟨?_, hSrd, hSmore, hSpo, hSnf, hSx, O, hnd3, ?_, ?_⟩, rfl, rfl, rfl⟩ ?_ ?_
  · refine N5 p ?_
    rcases List.mem_cons.mp hp with rfl | hp
    · exact List.mem_append_right _ (.head _)
    rcases List.mem_cons.mp hp with rfl | hp
    · exact List.mem_append_right _ (.tail _ (.head _))
    rcases List.mem_cons.mp hp with rfl | hp
    · exact List.mem_append_right _ (.tail _ (.tail _ (.head _)))
    rcases List.mem_append.mp hp with hp | hp
    · exact List.mem_append_left _ hp
    · exact List.mem_append_right _ (.tail _ (.tail _ (.tail _ hp)))
  · intro p hp q
    have e : List.Perm (S.objs w ++ (L + 1 + 1 + 1, oc) :: (L + 1 + 1, o2) :: (L + 1, ow) :: frs) ((L + 1 + 1 + 1, oc) :: (L + 1 + 1, o2) :: (L + 1, ow) :: (S.objs w ++ frs)) := by
      refine List.perm_middle.trans (List.Perm.cons _ (List.perm_middle.trans (List.Perm.cons _ List.perm_middle)))
    have h1 := (List.Perm.nodup_iff (e.map (·.1))).mp hnd3
    rw [List.map_cons, List.nodup_cons] at h1
    have h3 := fst_mem hp
    rw [q] at h3
    exact h1.1 h3
  · rw [List.take_zero]; unfold So.view; rw [hSn]; rfl
  · rw [hSn]; exact Nat.zero_le _
  · rw [hSn]; exact fun nd h => nomatch h
  · clear F5 N5 K5 hR hnd3 O hSx hSn hSrd hSpo hSnf hSmore
    intro i S m h tk I oI oc t E' hi hJ hd ho hIc F N
    obtain ⟨⟨hV, hrd, hmo, hpo, hnf, hSx, O, hnd, hz, hits⟩, hmt, hmf, hms⟩ := hJ
    rw [Int.zero_add] at hd
    subst hSx
    obtain ⟨x, hx⟩ : ∃ x, ws[i]? = some x := ⟨ws[i], List.getElem?_eq_getElem hi⟩
    obtain ⟨y, hy⟩ : ∃ y, ts[i]? = some y := ⟨ts[i]'(by omega), List.getElem?_eq_getElem (by omega)⟩
    have hxI : ws[((i : Nat) : Int).toNat]? = some x := by rw [Int.toNat_natCast]; exact hx
    have hyI : ts[((i : Nat) : Int).toNat]? = some y := by rw [Int.toNat_natCast]; exact hy
    rw [← kstB_same (m := m) (ps := [(Str.ofString "table", .ref lt), (Str.ofString "free", .int free ft), (Str.ofString "sorter", .ref S.x)]) (fun p hp => by
      rcases List.mem_cons.mp hp with rfl | hp
      · exact hmt
      rcases List.mem_cons.mp hp with rfl | hp
      · exact hmf
      · cases List.mem_singleton.mp hp; exact hms)] at F
    replace N : News base L h ((I, oI) :: (L + 1 + 1 + 1, oc) :: (L + 1 + 1, o2) :: (L + 1, ow) :: (S.objs w ++ frs)) := N
    replace F : Fr base L h (kstB m [(Str.ofString "table", .ref lt), (Str.ofString "free", .int free ft), (Str.ofString "sorter", .ref S.x)]) := F
    generalize hT : S.objs w ++ frs = Tl at N
    rename IntsAre wi ws => hiw
    rename IntsAre ti ts => hit
    ((try clear pk); (try clear pk))
    k_steps
    rename IsRange _ _ _ _ _ _ _ _ => hR5
    rename_i F5 N5 K5
    have hsz0 : (0 : Int) < (ws.length : Int) + 1 := by omega
    have hd0 : 0 ≤ (y - x).fmod ((ws.length : Int) + 1) := Int.fmod_nonneg_of_pos _ hsz0
    have hd1 : (y - x).fmod ((ws.length : Int) + 1) < (ws.length : Int) + 1 := Int.fmod_lt_of_pos _ hsz0
    refine LCg.CompSrc.range (n := ((y - x).fmod ((ws.length : Int) + 1)).toNat) (by show A.handled = none; exact hh) F5 N5 hR5 (small_one (by decide) (by decide) (by omega) (by omega)) (by rw [rangeSize_nat]; simp) (by rw [sizeLine_eq]; omega)
      (fun g => restU (fun i ys => IntsAre ys ((List.range i).map fun d : Nat => (x + (d : Int)).fmod ((ws.length : Int) + 1))) trivial .nil ?_ ?_)
    · intro ys hys
      clear F5 N5 K5 hR5
      unfold LCg.FinA
      intro D h6 tk6 F6 N6 o6
      subst hT
      have N7 : News base L h6 ((S.x, instObj 165 S.dx) :: (S.dx, dictOf (S.attrs w) S.an) :: (D, LCg.lst ys) :: (I, oI) :: (L + 1 + 1 + 1, oc) :: (L + 1 + 1, o2) :: (L + 1, ow) :: (S.objs w ++ frs)) := fun p hp => by
        rcases List.mem_cons.mp hp with rfl | hp
        · exact N6 _ (.tail _ (.tail _ (.tail _ (.tail _ (.tail _ (List.mem_append_left _ (.head _)))))))
        rcases List.mem_cons.mp hp with rfl | hp
        · exact N6 _ (.tail _ (.tail _ (.tail _ (.tail _ (.tail _ (List.mem_append_left _ (.tail _ (.head _))))))))
        · exact N6 p hp
      dsimp only [So.attrs] at N7
      generalize hT : S.objs w ++ frs = Tl at N7 N6 o6
      clear N6
      ((try clear pk); (try clear pk))
      have pk : PkAt 0 := trivial
      k_steps
      refine MethodStar ?_ (by rfl)
      ((try clear pk); (try clear pk))
      k_steps
      have hysl : ys.length ≤ 6 := by
        rw [hys.length, List.length_map, List.length_range]; omega
      refine callWith_MS2 (K := Mine.hd.heap_1 w.params) (g := 115) (self := .ref S.x) (by k_is) ?_ (by rfl) (by rfl)
      ((try clear pk); (try clear pk))
      have pk : PkAt 0 := trivial
      k_steps
      refine unpark ?_
      rw [List.append_nil]
      rename Fr _ _ _ _ => F8
      rename News _ _ _ _ => N8
      have hysP : IntsAre ys (passedOf ((ws.length : Int) + 1) x y) := hys
      refine call_meth N8 (.head _) ?_
      refine add_k S (b := 7 * i) X' T' F8.keep (Pre.of N8 (fun p hp => .tail _ (.tail _ (.tail _ (.tail _ (.tail _ (.tail _ (.tail _ (.tail _ (hT ▸ List.mem_append_left _ hp))))))))) ?nd) O hrd (by omega) (by omega) hits hysP (by rw [← hysP.length]; omega) (by show A.handled = none; exact hh) (by k_room) ?_
      case nd =>
        rw [List.map_append] at hnd
        exact (List.nodup_append.mp hnd).1
      intro S1 h9 tk9 hits1 hz1 hS1 hV1 O1 P1
      have hndA : ((S.objs w ++ (D, LCg.lst ys) :: (I, oI) :: (L + 1 + 1 + 1, oc) :: (L + 1 + 1, o2) :: (L + 1, ow) :: frs).map (·.1)).Nodup := by
        have e : List.Perm (S.objs w ++ (D, LCg.lst ys) :: (I, oI) :: (L + 1 + 1 + 1, oc) :: (L + 1 + 1, o2) :: (L + 1, ow) :: frs) ((D, LCg.lst ys) :: (I, oI) :: (S.objs w ++ (L + 1 + 1 + 1, oc) :: (L + 1 + 1, o2) :: (L + 1, ow) :: frs)) :=
          List.perm_middle.trans (List.Perm.cons _ List.perm_middle)
        rw [(e.map (·.1)).nodup_iff]
        have hIoff : ∀ p ∈ S.objs w ++ (L + 1 + 1 + 1, oc) :: (L + 1 + 1, o2) :: (L + 1, ow) :: frs, p.1 ≠ I := fun p hp => by
          rcases List.mem_append.mp hp with hp | hp
          · exact (ho p (.tail _ (.tail _ (List.mem_append_left _ hp)))).1
          rcases List.mem_cons.mp hp with rfl | hp
          · exact Ne.symm hIc
          rcases List.mem_cons.mp hp with rfl | hp
          · exact (ho _ (.head _)).1
          rcases List.mem_cons.mp hp with rfl | hp
          · exact (ho _ (.tail _ (.head _))).1
          · exact (ho p (.tail _ (.tail _ (List.mem_append_right _ hp)))).1
        have hDoff : ∀ p ∈ (I, oI) :: (S.objs w ++ (L + 1 + 1 + 1, oc) :: (L + 1 + 1, o2) :: (L + 1, ow) :: frs), p.1 ≠ D := fun p hp => by
          refine off1_mem o6 p ?_
          rcases List.mem_cons.mp hp with rfl | hp
          · exact .head _
          rcases List.mem_append.mp hp with hp | hp
          · exact .tail _ (.tail _ (.tail _ (.tail _ (hT ▸ List.mem_append_left _ hp))))
          rcases List.mem_cons.mp hp with rfl | hp
          · exact .tail _ (.head _)
          rcases List.mem_cons.mp hp with rfl | hp
          · exact .tail _ (.tail _ (.head _))
          rcases List.mem_cons.mp hp with rfl | hp
          · exact .tail _ (.tail _ (.tail _ (.head _)))
          · exact .tail _ (.tail _ (.tail _ (.tail _ (hT ▸ List.mem_append_right _ hp))))
        exact List.nodup_cons.mpr ⟨fun q => (by obtain ⟨p, hp, e⟩ := List.mem_map.mp q; exact hDoff p hp e), List.nodup_cons.mpr ⟨fun q => (by obtain ⟨p, hp, e⟩ := List.mem_map.mp q; exact hIoff p hp e), (by rw [List.map_append] at hnd ⊢; exact hnd)⟩⟩
      obtain ⟨F9, N9, nd9⟩ := P1.back F8 (rest := (D, LCg.lst ys) :: (I, oI) :: (L + 1 + 1 + 1, oc) :: (L + 1 + 1, o2) :: (L + 1, ow) :: frs) (fun p hp => N8 p (by
        rcases List.mem_append.mp hp with hp | hp
        · exact .tail _ (.tail _ (.tail _ (.tail _ (.tail _ (.tail _ (.tail _ (.tail _ (hT ▸ List.mem_append_left _ hp))))))))
        rcases List.mem_cons.mp hp with rfl | hp
        · exact .tail _ (.tail _ (.tail _ (.head _)))
        rcases List.mem_cons.mp hp with rfl | hp
        · exact .tail _ (.tail _ (.tail _ (.tail _ (.head _))))
        rcases List.mem_cons.mp hp with rfl | hp
        · exact .tail _ (.tail _ (.tail _ (.tail _ (.tail _ (.head _)))))
        rcases List.mem_cons.mp hp with rfl | hp
        · exact .tail _ (.tail _ (.tail _ (.tail _ (.tail _ (.tail _ (.head _))))))
        rcases List.mem_cons.mp hp with rfl | hp
        · exact .tail _ (.tail _ (.tail _ (.tail _ (.tail _ (.tail _ (.tail _ (.head _)))))))
        · exact .tail _ (.tail _ (.tail _ (.tail _ (.tail _ (.tail _ (.tail _ (.tail _ (hT ▸ List.mem_append_right _ hp)))))))))) hndA
      clear P1 F8 N8 hndA
      dsimp only
      obtain ⟨o1, n1, hS1e⟩ := hS1
      have hx1 : S1.x = S.x := by rw [hS1e]
      have hdx1 : S1.dx = S.dx := by rw [hS1e]
      have hrd1 : S1.rd = .none := by rw [hS1e]; exact hrd
      have hmo1 : S1.more = [] := by rw [hS1e]; exact hmo
      have hpo1 : S1.po = 0 := by rw [hS1e]; exact hpo
      have hnf1 : S1.nf = 0 := by rw [hS1e]; exact hnf
      have hzi : (ws.zip ts)[i]? = some (x, y) := by rw [List.getElem?_zip_eq_some]; exact ⟨hx, hy⟩
      have hbV : buildV ((ws.length : Int) + 1) free [] ((ws.zip ts).take (i + 1)) = carV ((ws.length : Int) + 1) free S.view x y := by
        rw [List.take_add_one, hzi, hV]
        exact buildV_snoc _ _ _
      have hpl : (passedOf ((ws.length : Int) + 1) x y).length ≤ 6 := by rw [← hysP.length]; omega
      clear hys
      have N10 : News base L h9 ((S1.x, instObj 165 S1.dx) :: (S1.dx, dictOf (S1.attrs w) S1.an) :: (D, LCg.lst ys) :: (I, oI) :: (L + 1 + 1 + 1, oc) :: (L + 1 + 1, o2) :: (L + 1, ow) :: (S1.objs w ++ frs)) := fun p hp => by
        rcases List.mem_cons.mp hp with rfl | hp
        · exact N9 _ (List.mem_append_left _ (.head _))
        rcases List.mem_cons.mp hp with rfl | hp
        · exact N9 _ (List.mem_append_left _ (.tail _ (.head _)))
        rcases List.mem_cons.mp hp with rfl | hp
        · exact N9 _ (List.mem_append_right _ (.head _))
        · exact N9 p (led_sub p hp)
      dsimp only [So.attrs] at N10
      rw [← hx1] at F9
      generalize hT1 : S1.objs w ++ frs = Tl1 at N10
      ((try clear pk); (try clear pk))
      have pk : PkAt 0 := trivial
      k_steps
      · have hfp : free ∈ passedOf ((ws.length : Int) + 1) x y := by assumption
        have hcar : carV ((ws.length : Int) + 1) free S.view x y = addV S1.view free [free] := by rw [hV1]; exact if_pos hfp
        refine unpark ?_
        rename Fr _ _ _ _ => F11
        rename News _ _ _ _ => N11
        refine wpAny_call (add_k S1 (b := 7 * i + 6) (ps := [free]) (pi := [.int free ft]) X' T' F11.keep (Pre.of N11 (fun p hp => .tail _ (.tail _ (.tail _ (.tail _ (.tail _ (.tail _ (.tail _ (hT1 ▸ List.mem_append_left _ hp)))))))) ?nd2) O1 hrd1 (by omega) (by omega) (fun nd h => Nat.le_trans (hits1 nd h) (by omega)) (.cons _ _ .nil) (by show 1 ≤ 63; decide) (by show A.handled = none; exact hh) (by k_room) ?_)
        case nd2 =>
          have h1 := nd9
          rw [List.map_append] at h1
          exact (List.nodup_append.mp h1).1
        intro S2 h12 tk12 hits2 hz2 hS2 hV2 O2 P2
        obtain ⟨F12, N12, nd12⟩ := P2.back F11 (rest := (D, LCg.lst ys) :: (I, oI) :: (L + 1 + 1 + 1, oc) :: (L + 1 + 1, o2) :: (L + 1, ow) :: frs) (fun p hp => N11 p (.tail _ (.tail _ (hT1 ▸ led_back p hp)))) nd9
        clear P2 F11 N11 nd9
        try clear N9
        obtain ⟨o3, n3, hS2e⟩ := hS2
        dsimp only
        ((try clear pk); (try clear pk))
        k_steps
        rename News _ _ _ _ => nE
        refine cturn_end S2 (by assumption) nE (fun p hp => led_sub (objs := S2.objs w) (frs := frs) p hp) hd (led_off nd12) ⟨⟨?_, by rw [hS2e]; exact hrd1, by rw [hS2e]; exact hmo1, by rw [hS2e]; exact hpo1, by rw [hS2e]; exact hnf1, by rw [hS2e]; exact hx1, O2, led_nd nd12 rfl, ?_, ?_⟩, rfl, rfl, by rw [hx1]; rfl⟩
        · rw [hbV, hcar]; exact hV2
        · have : 9 * (i + 1) = 9 * i + 9 := by omega
          have : [free].length = 1 := rfl
          omega
        · intro nd hnd'
          have h1 := hits2 nd hnd'
          have : 7 * (i + 1) = 7 * i + 7 := by omega
          have : [free].length = 1 := rfl
          omega
      · have hfp : ¬ free ∈ passedOf ((ws.length : Int) + 1) x y := by assumption
        have hcar : carV ((ws.length : Int) + 1) free S.view x y = S1.view := by rw [hV1]; exact if_neg hfp
        rename News _ _ _ _ => nE
        subst hT1
        refine cturn_end S1 (by assumption) nE (fun p hp => .tail _ (.tail _ (.tail _ hp))) hd (led_off nd9) ⟨⟨?_, hrd1, hmo1, hpo1, hnf1, hx1, O1, led_nd nd9 rfl, ?_, ?_⟩, rfl, rfl, by rw [hx1]; rfl⟩
        · rw [hbV, hcar]
        · have : 9 * (i + 1) = 9 * i + 9 := by omega
          omega
        · intro nd hnd'
          have h1 := hits1 nd hnd'
          have : 7 * (i + 1) = 7 * i + 7 := by omega
          omega
    · clear F5 N5 K5 hR5
      intro d ys v I2 oI2 C2 oC2 D2 m2 h9 tk9 E9 hdl hv hJ9 hC9 hx9 F9 N9 off9 ne9
      obtain ⟨t9, rfl⟩ := hv
      rw [Int.zero_add] at hx9
      ((try clear pk); (try clear pk))
      k_steps
      rename News _ _ _ _ => nE
      refine cend (by assumption) nE ?_
      rw [List.range_succ, List.map_append]
      exact ints_snoc hJ9 _ _
  · clear hnd3 O hSx hSn hSrd hSpo hSnf hSmore F5 N5 K5 hR
    intro S m h tk oc v hJ hd ho F N
    obtain ⟨⟨hV, hrd, hmo, hpo, hnf, hSx, O, hnd, hz, hits⟩, hmt, hmf, hms⟩ := hJ
    subst hSx
    have hzl : (ws.zip ts).length = ws.length := by rw [List.length_zip, htl, Nat.min_self]
    rw [show (ws.zip ts).take ws.length = ws.zip ts from by rw [← hzl, List.take_length]] at hV
    obtain ⟨VO, Vk, Vs⟩ := buildV_ok (size := (ws.length : Int) + 1) (free := free) (ws.zip ts) [] VOk.nil
    rw [← hV] at VO Vk Vs
    rw [← kstB_same (m := m) (ps := [(Str.ofString "sorter", .ref S.x)]) (fun p hp => by cases List.mem_singleton.mp hp; exact hms)] at F
    replace F : Fr base L h (kstB m [(Str.ofString "sorter", .ref S.x)]) := F
    have N2 : News base L h ((S.x, instObj 165 S.dx) :: (S.dx, dictOf (S.attrs w) S.an) :: (S.objs w ++ frs)) := fun p hp => by
      rcases List.mem_cons.mp hp with rfl | hp
      · exact N _ (.tail _ (.tail _ (.tail _ (List.mem_append_left _ (.head _)))))
      rcases List.mem_cons.mp hp with rfl | hp
      · exact N _ (.tail _ (.tail _ (.tail _ (List.mem_append_left _ (.tail _ (.head _))))))
      · exact N _ (.tail _ (.tail _ (.tail _ hp)))
    have hndF : ((S.objs w ++ frs).map (·.1)).Nodup := by
      have h1 := List.Nodup.sublist (List.Sublist.map (·.1) (List.Sublist.append (List.Sublist.refl (S.objs w)) (((List.Sublist.refl frs).cons (L + 1, ow)).cons (L + 1 + 1, o2) |>.cons (L + 1 + 1 + 1, default)))) (by rw [List.map_append] at hnd ⊢; exact hnd)
      exact h1
    clear N hnd
    dsimp only [So.attrs] at N2
    generalize hT : S.objs w ++ frs = Tl at N2
    ((try clear pk); (try clear pk))
    have pk : PkAt 3 := trivial
    k_steps
    refine unpark ?_
    rename Fr _ _ _ _ => F5
    rename News _ _ _ _ => N5
    obtain ⟨oL, esL, epL, hoL, hdL, rL⟩ := id F5.ns
    have hkeys : S.view.map (·.1) = S.nodes.map (·.key) := by unfold So.view; rw [List.map_map]; rfl
    have hsz0 : (0 : Int) < (ws.length : Int) + 1 := by omega
    have hkin : ∀ z ∈ S.nodes.map (·.key), 0 ≤ z ∧ z < ((ws.length + 1 : Nat) : Int) := fun z hz' => by
      rw [← hkeys] at hz'
      rcases (Vk z).mp hz' with q | ⟨p, hp, q⟩
      · exact nomatch q
      · have e : ((ws.length + 1 : Nat) : Int) = (ws.length : Int) + 1 := by push_cast; rfl
        rw [e]
        rcases q with rfl | q
        · exact hir _ (List.of_mem_zip (a := p.1) (b := p.2) hp).2
        · exact passed_in hsz0 q
    have hn50 : S.nodes.length ≤ 50 := by
      have h1 := php2 (ws.length + 1) (S.nodes.map (·.key)) (by rw [← hkeys]; exact VO.1) hkin
      rw [List.length_map] at h1
      omega
    have hsuccS : ∀ u ∈ S.nodes.map (·.key), ∀ v ∈ succAt S.view u, v ∈ S.nodes.map (·.key) := fun u _ v hv => by rw [← hkeys]; exact VO.2.2 u v hv
    have N6 : News base L _ (S.objs w ++ frs) := fun p hp => N5 p (.tail _ (.tail _ (hT ▸ hp)))
    have hLb : base.get? L = none := Heap.get?_none_of_le F5.above
    have hperm : List.Perm (S.objs w ++ (L, oL) :: frs) ((L, oL) :: (S.objs w ++ frs)) := List.perm_middle
    have C5 : Pre base _ (S.objs w ++ (L, oL) :: frs) := ⟨fun p hp => by
      rcases List.mem_cons.mp (hperm.mem_iff.mp hp) with rfl | hp
      · exact ⟨hoL, hLb⟩
      · exact ⟨(N6 p hp).1, (N6 p hp).2.2⟩, (List.Perm.nodup_iff (hperm.map (·.1))).mpr (List.nodup_cons.mpr ⟨fun q => by
      obtain ⟨p, hp, e⟩ := List.mem_map.mp q
      exact (N6 p hp).2.1 e, hndF⟩)⟩
    refine wpAny_mono (Q := fun f s' => f = .next ∧ MidH w base L s S frs s') ?_ (fun f s' hf => ?_) (fun _ _ x => x)
    · refine wpAny_Try_except ?_
      ((try clear pk); (try clear pk))
      have pk : PkAt 0 := trivial
      k_steps
      refine unpark ?_
      refine prepare_c S (l := _ :: l) (frs := (L, oL) :: frs) X' T' F5.keep (Around.frames_deeper hfr) ⟨(by show ScopeKind.function ≠ ScopeKind.module; decide), rfl, ⟨esL, epL, hdL⟩, Fs.1⟩ C5 O (by show A.handled = none; exact hh) hn50 (fun nd hnd' => Nat.le_trans (hits nd hnd') (by omega)) hrd hmo hsuccS (by k_room) ?_ ?_
      · intro r ri rn frs2 h6 tk6 rk hri hrk SU P
        obtain ⟨oL', frsT, rfl, SU', F6, N7, nd7, _⟩ := Post.frame (new := (S.ready r ri rn).objs w) F5 hoL N6 P SU
        clear N5 F5 N6 P C5 hperm
        ((try clear pk); (try clear pk))
        k_steps
        exact ⟨false, frsT, h6, tk6, _, r, ri, rn, rfl, F6, ⟨by rfl, by rfl⟩, N7, nd7, SU', hri, (fun q => by cases q), fun _ => ⟨rk, hrk⟩⟩
      · intro r ri rn e B a0 frs2 h6 tk6 x hri hway SU hfl hfr2 PB
        have P := Post.flown SU PB hfl.1 hfr2 (fun p hp => List.mem_append_right _ hp) (by have h1 := C5.nodup; rw [List.map_append] at h1; exact (List.nodup_append.mp h1).2.1)
        obtain ⟨oL', frsT, rfl, SU', F6, N7, nd7, _⟩ := Post.frame (new := (S.ready r ri rn).objs w) F5 hoL N6 P SU
        have hbB : base.StaysIn B := fun b o e => PB.keep b o (fun hm => by
          obtain ⟨p, hp, rfl⟩ := List.mem_map.mp hm
          rw [(C5.found p hp).2] at e; cases e) (F5.keep b o e)
        clear N5 F5 N6 P C5 hperm
        ((try clear pk); (try clear pk))
        have pk : PkAt 4 := trivial
        k_steps
        refine unpark ?_
        refine catch_own (L := L) (h := h6) (C := 83) (bmB := [.type "ValueError", .type "Exception", .type "BaseException", .type "object"]) (newId := "ValueError.__new__") (Around.frames_deeper hfr) rfl hfl hbB F6 (Heap.UpToSlots.refl _) X' (topRead_of T') (by k_is) (by k_exc) (by decide) (fun h9 hfl9 sm9 F9 => ?_) rfl rfl rfl rfl
        obtain ⟨frs9, SU9, ht9⟩ := frs_slots (Fs.1.up SU') sm9 (fun p hp => (N7 p (List.mem_append_right _ hp)).1)
        have N9 : News base L h9 ((S.ready r ri rn).objs w ++ frs9) := fun p hp => by
          rcases List.mem_append.mp hp with hp | hp
          · exact ⟨hfl9.1 _ _ (PB.there p hp), (N7 p (List.mem_append_left _ hp)).2⟩
          · obtain ⟨q, hq, e⟩ := SU9.fwd p hp
            exact ⟨ht9 p hp, by rw [e]; exact (N7 q (List.mem_append_right _ hq)).2⟩
        have nd9 : (((S.ready r ri rn).objs w ++ frs9).map (·.1)).Nodup := by
          rw [List.map_append, sameUp_fst SU9, ← List.map_append]; exact nd7
        clear N7 F6
        ((try clear pk); (try clear pk))
        k_steps
        rename Fr _ _ _ _ => F10
        rename News _ _ _ _ => N10
        exact ⟨true, frs9, _, _, _, r, ri, rn, rfl, F10, ⟨by rfl, by rfl⟩, N10, nd9, SU'.trans SU9, hri, fun _ => ⟨x, hway⟩, (fun q => by cases q)⟩
    · obtain ⟨rfl, refused, frs6, h6, tk6, m6, r, ri, rn, rfl, F6, ⟨hmr, hms6⟩, N6, nd6, SU6, hri, hway, hrk⟩ := hf
      dsimp only
      clear F5 N5 C5 hperm hLb hoL hdL rL oL esL epL
      rw [← kstB_same (m := m6) (ps := [(Str.ofString "refused", .bool refused), (Str.ofString "sorter", .ref S.x)]) (fun p hp => by
        rcases List.mem_cons.mp hp with rfl | hp
        · exact hmr
        · cases List.mem_singleton.mp hp; exact hms6)] at F6
      generalize hT6 : (S.ready r ri rn).objs w ++ frs6 = T6 at N6
      ((try clear pk); (try clear pk))
      have pk : PkAt 5 := trivial
      k_steps
      refine unpark ?_
      rename Fr _ _ _ _ => F7
      rename News _ _ _ _ => N7
      rename_i lS _ hlS _
      have hvk : S.nodes.map (·.key) = S.view.map (·.1) := hkeys.symm
      have hkn : (S.view.map (·.1)).Nodup := VO.1
      have hsv : ∀ u ∈ S.view.map (·.1), ∀ y ∈ succAt S.view u, y ∈ S.view.map (·.1) := fun u _ => VO.2.2 u
      have hsl : ∀ k, (succAt S.view k).length ≤ 50 := fun k => by
        by_cases hk : k ∈ S.view.map (·.1)
        · rw [hkeys] at hk
          obtain ⟨nd, hnd', rfl⟩ := List.mem_map.mp hk
          rw [← its_succ O (by rw [hvk]; exact hkn) nd hnd']
          exact Nat.le_trans (hits nd hnd') (by omega)
        · rw [succAt_out hk]; exact Nat.zero_le _
      have hst : AtHead (S.view.map (·.1)) (succAt S.view) [] ((S.nodes.filter fun n => decide (n.np = 0)).map (·.key)) (npAt S.view) := by
        rw [ready_filter (by rw [hvk]; exact hkn)]
        exact AtHead.start hkn fun x _ => VO.2.1 x
      refine while_inv (σ := HT) (HT.led w r lS frs6) (fun c => [(Str.ofString "spots", .ref lS), (Str.ofString "refused", .bool refused), (Str.ofString "sorter", .ref c.S.x)]) (HT.Ok w r lS frs6 (S.view.map (·.1)) (succAt S.view)) (fun c => 50 - c.spots.length)
        ⟨S, ri, rn, (S.nodes.filter fun n => decide (n.np = 0)).map (·.key), [], 0, []⟩ F7 (by rw [← hT6] at N7; exact N7) (fun p hp => by
          rcases List.mem_cons.mp hp with rfl | hp
          · rfl
          rcases List.mem_cons.mp hp with rfl | hp
          · rfl
          · cases List.mem_singleton.mp hp; rfl) ⟨rfl, rfl, hst, by show S.nf = S.po; rw [hnf, hpo], hri, .nil, ⟨O.lo, O.dict, O.areInts⟩, ?_⟩ ?_
      · rw [← hT6] at hlS
        exact List.nodup_cons.mpr ⟨fun q => by
          obtain ⟨p, hp, e⟩ := List.mem_map.mp q
          exact absurd (hlS p hp) (by rw [e]; exact Nat.lt_irrefl _), nd6⟩
      · intro c u h9 tk9 hc F9 N9
        clear F7 N7 hlS nd6 hri hits hn50 O hz hrd hmo hpo hnf hst
        obtain ⟨S9, ri9, rn9, rs9, sp9, sn9, spots9⟩ := c
        obtain ⟨ks9, sc9, head9, lv9, hri9, hsp9, ok9, nd9⟩ := hc
        dsimp only at ks9 sc9 head9 lv9 hri9 hsp9 ok9
        have hR9 : ∀ x ∈ rs9, x ∈ S.view.map (·.1) := fun x hx => ((head9.mem x).mp hx).1
        have hlen9 : spots9.length + rs9.length ≤ ws.length + 1 := by
          have h1 := php2 (ws.length + 1) (spots9 ++ rs9) head9.nodup fun x hx => hkin x (by
            rw [hvk]
            exact (List.mem_append.mp hx).elim (head9.sub x) (hR9 x))
          rw [List.length_append] at h1; exact h1
        have ndS : (((S9.ready r ri9 rn9).objs w ++ (lS, listOf sp9.toArray sn9) :: frs6).map (·.1)).Nodup := by
          have e : List.Perm ((S9.ready r ri9 rn9).objs w ++ (lS, listOf sp9.toArray sn9) :: frs6) ((lS, listOf sp9.toArray sn9) :: ((S9.ready r ri9 rn9).objs w ++ frs6)) := List.perm_middle
          exact ((e.map (·.1)).nodup_iff).mpr nd9
        have N10 : News base L h9 ((S9.x, instObj 165 S9.dx) :: (S9.dx, dictOf ((S9.ready r ri9 rn9).attrs w) S9.an) :: ((S9.ready r ri9 rn9).objs w ++ (lS, listOf sp9.toArray sn9) :: frs6)) := fun p hp => by
          rcases List.mem_cons.mp hp with rfl | hp
          · exact N9 _ (.tail _ (.head _))
          rcases List.mem_cons.mp hp with rfl | hp
          · exact N9 _ (.tail _ (.tail _ (.head _)))
          rcases List.mem_append.mp hp with hp | hp
          · exact N9 _ (.tail _ (List.mem_append_left _ hp))
          rcases List.mem_cons.mp hp with rfl | hp
          · exact N9 _ (.head _)
          · exact N9 _ (.tail _ (List.mem_append_right _ hp))
        clear N9
        dsimp only [So.attrs, So.ready] at N10
        generalize hT9 : (S9.ready r ri9 rn9).objs w ++ (lS, listOf sp9.toArray sn9) :: frs6 = T9 at N10
        ((try clear pk); (try clear pk))
        have pk : PkAt 0 := trivial
        k_steps
        refine unpark ?_
        rename Fr _ _ _ _ => F11
        rename News _ _ _ _ => N11
        refine act_c S9 (rs := rs9) X' T' F11.keep (Pre.of N11 (fun p hp => .tail _ (.tail _ (hT9 ▸ List.mem_append_left _ hp))) ?nd) hri9 (by omega) (by k_room) ?_
        case nd =>
          rw [List.map_append] at ndS
          exact (List.nodup_append.mp ndS).1
        intro h12 tk12 P12
        obtain ⟨F12, N12, nd12⟩ := P12.back F11 (rest := (lS, listOf sp9.toArray sn9) :: frs6) (fun p hp => N11 p (.tail _ (.tail _ (hT9 ▸ hp)))) ndS
        clear P12 F11 N11
        dsimp only
        rw [show (decide (S9.nf < S9.po) || !rs9.isEmpty) = !rs9.isEmpty from by rw [lv9]; simp]
        cases rs9 with
        | nil =>
          clear hkin hsv hsl hlen9 hR9
          generalize hT12 : (S9.ready r ri9 rn9).objs w ++ (lS, listOf sp9.toArray sn9) :: frs6 = T12 at N12
          ((try clear pk); (try clear pk))
          k_steps
          rename Fr _ _ _ _ => F14
          rename News _ _ _ _ => N14
          rename_i D _ hD
          (try subst hbase)
          have hlSf : lS ∉ frs.map (·.1) := fun q => by
            have h1 := nd9
            rw [List.map_cons, List.nodup_cons, List.map_append] at h1
            rw [← sameUp_fst SU6] at q
            exact h1.1 (List.mem_append_right _ q)
          have hlSm : (lS, listOf sp9.toArray sn9) ∈ T12 := by rw [← hT12]; exact List.mem_append_right _ (.head _)
          have hfm : ∀ p ∈ frs6, p ∈ T12 := fun p hp => by rw [← hT12]; exact List.mem_append_right _ (.tail _ hp)
          have hDf : D ∉ frs.map (·.1) := fun q => by
            rw [← sameUp_fst SU6] at q
            obtain ⟨p, hp, e⟩ := List.mem_map.mp q
            exact absurd (hD p (hfm p hp)) (by rw [e]; exact Nat.lt_irrefl _)
          refine hret D lS sp9 sn9 spots9 refused frs6 _ _ (npAt S9.view) ?_ SU6 (fun b o hb e => F14.keep b o (hideAll_get _ e hb)) (fun p hp => (N14 p (.tail _ (hfm p hp))).1) (N14 _ (.head _)).1 (N14 _ (.tail _ hlSm)).1
            (hide_none (N14 _ (.head _)).2.2 hDf) (hide_none (N14 _ (.tail _ hlSm)).2.2 hlSf) (Ne.symm (Nat.ne_of_lt (hD _ hlSm))) hsp9
          rw [← hV]
          exact ⟨head9, fun q => by rw [← hvk]; exact hway q, fun q => by rw [← hvk]; exact hrk q⟩
        | cons y9 rs9 =>
          rw [show (!(y9 :: rs9).isEmpty) = true from rfl]
          have hri9l := hri9.length
          have N13 : News base L h12 ((S9.x, instObj 165 S9.dx) :: (S9.dx, dictOf ((S9.ready r ri9 rn9).attrs w) S9.an) :: ((S9.ready r ri9 rn9).objs w ++ (lS, listOf sp9.toArray sn9) :: frs6)) := fun p hp => by
            rcases List.mem_cons.mp hp with rfl | hp
            · exact N12 _ (.head _)
            rcases List.mem_cons.mp hp with rfl | hp
            · exact N12 _ (.tail _ (.head _))
            · exact N12 p hp
          clear N12
          dsimp only [So.attrs, So.ready] at N13
          generalize hT12 : (S9.ready r ri9 rn9).objs w ++ (lS, listOf sp9.toArray sn9) :: frs6 = T12 at N13
          ((try clear pk); (try clear pk))
          have pk : PkAt 0 := trivial
          k_steps
          refine unpark ?_
          rename Fr _ _ _ _ => F14
          rename News _ _ _ _ => N14
          refine ready_c S9 (rs := y9 :: rs9) X' T' F14.keep (Pre.of N14 (fun p hp => .tail _ (.tail _ (hT12 ▸ List.mem_append_left _ hp))) ?nd) ok9 hri9 (by omega) (fun k hk => by rw [ks9]; exact hR9 k hk) (by show A.handled = none; exact hh) (by k_room) ?_
          case nd =>
            rw [List.map_append] at nd12
            exact (List.nodup_append.mp nd12).1
          intro D S10 rn10 h15 tk15 hx10 hv10 hpo10 hnf10 ok10 P15
          obtain ⟨F15, N15, nd15⟩ := P15.back F14 (rest := (lS, listOf sp9.toArray sn9) :: frs6) (fun p hp => N14 p (.tail _ (.tail _ (hT12 ▸ hp)))) nd12
          clear P15 F14 N14
          dsimp only
          obtain ⟨DO, e1, e2, H10⟩ := round_next (v := S9.view) (R := y9 :: rs9) hkn ks9 (by rw [sc9]; exact hsv) (by rw [sc9]; exact head9) hv10
          have N16 : News base L h15 ((lS, listOf sp9.toArray sn9) :: (D, tupOf ri9.toArray) :: (S10.x, instObj 165 S10.dx) :: (S10.dx, dictOf ((S10.ready r [] rn10).attrs w) S10.an) :: ((S10.ready r [] rn10).objs w ++ frs6)) := fun p hp => by
            rcases List.mem_cons.mp hp with rfl | hp
            · exact N15 _ (List.mem_append_right _ (.head _))
            rcases List.mem_cons.mp hp with rfl | hp
            · exact N15 _ (.head _)
            rcases List.mem_cons.mp hp with rfl | hp
            · exact N15 _ (.tail _ (.head _))
            rcases List.mem_cons.mp hp with rfl | hp
            · exact N15 _ (.tail _ (.tail _ (.head _)))
            rcases List.mem_append.mp hp with hp | hp
            · exact N15 _ (.tail _ (List.mem_append_left _ hp))
            · exact N15 _ (List.mem_append_right _ (.tail _ hp))
          have hoff : ∀ p ∈ (D, tupOf ri9.toArray) :: ((S10.ready r [] rn10).objs w ++ frs6), p.1 ≠ lS := by
            have e : List.Perm (((D, tupOf ri9.toArray) :: (S10.ready r [] rn10).objs w) ++ (lS, listOf sp9.toArray sn9) :: frs6) ((lS, listOf sp9.toArray sn9) :: ((D, tupOf ri9.toArray) :: ((S10.ready r [] rn10).objs w ++ frs6))) := List.perm_middle
            have h1 := ((e.map (·.1)).nodup_iff).mp nd15
            rw [List.map_cons, List.nodup_cons] at h1
            exact fun p hp q => h1.1 (by
              have h2 := fst_mem hp
              rw [q] at h2; exact h2)
          clear N15
          dsimp only [So.attrs, So.ready] at N16
          generalize hT15 : (S10.ready r [] rn10).objs w ++ frs6 = T15 at N16
          dsimp only at F15
          rw [← hx10] at F15
          ((try clear pk); (try clear pk))
          have pk : PkAt 6 := trivial
          k_steps
          refine unpark ?_
          rename Fr _ _ _ _ => F16
          rename News _ _ _ _ => N17
          have hoff2 : ∀ p ∈ (D, tupOf ri9.toArray) :: (S10.x, instObj 165 S10.dx) :: (S10.dx, dictOf ((S10.ready r [] rn10).attrs w) S10.an) :: T15, p.1 ≠ lS := fun p hp => by
            rcases List.mem_cons.mp hp with rfl | hp
            · exact hoff _ (.head _)
            rcases List.mem_cons.mp hp with rfl | hp
            · exact hoff _ (.tail _ (.head _))
            rcases List.mem_cons.mp hp with rfl | hp
            · exact hoff _ (.tail _ (.tail _ (.head _)))
            · exact hoff _ (.tail _ (hT15 ▸ hp))
          refine extend_T F16 N17 (.tail _ (.head _)) (.head hoff2) hsp9 hri9 (by omega) (fun h18 F18 N18 hsp18 => ?_)
          clear F16 N17
          ((try clear pk); (try clear pk))
          k_steps
          refine MethodStar ?_ (by rfl)
          ((try clear pk); (try clear pk))
          k_steps
          refine callWith_MS (K := Mine.hd.heap_1 w.params) (g := 148) (self := .ref S10.x) (by k_is) ?_ (by rfl)
          ((try clear pk); (try clear pk))
          have pk : PkAt 0 := trivial
          k_steps
          refine unpark ?_
          rename Fr _ _ _ _ => F19
          rename News _ _ _ _ => N19
          rename_i bm _ hbm
          obtain ⟨hb1, hb2, hb3, hb4, hb5⟩ := hbm
          obtain ⟨_, hk10, hs10⟩ := outs (y9 :: rs9) S9.view fun k hk => by rw [ks9]; exact hR9 k hk
          rw [← hv10, ks9] at hk10
          rw [← hv10, sc9] at hs10
          have hkn10 : (S10.nodes.map (·.key)).Nodup := by
            have h1 : S10.view.map (·.1) = S10.nodes.map (·.key) := by unfold So.view; rw [List.map_map]; rfl
            rw [← h1, hk10]; exact hkn
          have ndA : (((S10.ready r [] rn10).objs w ++ (bm, methodObj (Value.ref 148) (Value.ref S10.x)) :: (lS, listOf (sp9 ++ ri9).toArray (if (sp9 ++ ri9).length = sp9.length then sn9 else sn9 + 1)) :: (D, tupOf ri9.toArray) :: frs6).map (·.1)).Nodup := by
            have e : List.Perm ((S10.ready r [] rn10).objs w ++ (bm, methodObj (Value.ref 148) (Value.ref S10.x)) :: (lS, listOf (sp9 ++ ri9).toArray (if (sp9 ++ ri9).length = sp9.length then sn9 else sn9 + 1)) :: (D, tupOf ri9.toArray) :: frs6)
                ((bm, methodObj (Value.ref 148) (Value.ref S10.x)) :: (lS, listOf (sp9 ++ ri9).toArray (if (sp9 ++ ri9).length = sp9.length then sn9 else sn9 + 1)) :: (D, tupOf ri9.toArray) :: ((S10.ready r [] rn10).objs w ++ frs6)) :=
              List.perm_middle.trans (List.Perm.cons _ (List.perm_middle.trans (List.Perm.cons _ List.perm_middle)))
            rw [(e.map (·.1)).nodup_iff]
            have h1 : ((D, tupOf ri9.toArray) :: ((S10.ready r [] rn10).objs w ++ frs6)).map (·.1) |>.Nodup := by
              have h2 : ((D, tupOf ri9.toArray) :: ((S10.ready r [] rn10).objs w ++ frs6)).Sublist ((D, tupOf ri9.toArray) :: ((S10.ready r [] rn10).objs w ++ (lS, listOf sp9.toArray sn9) :: frs6)) := ((List.Sublist.refl _).append ((List.Sublist.refl frs6).cons _)).cons_cons _
              exact List.Nodup.sublist (h2.map _) nd15
            refine List.nodup_cons.mpr ⟨fun q => ?_, List.nodup_cons.mpr ⟨fun q => ?_, h1⟩⟩
            · obtain ⟨p, hp, e⟩ := List.mem_map.mp q
              rcases List.mem_cons.mp hp with rfl | hp
              · exact Nat.ne_of_lt hb1 e
              rcases List.mem_cons.mp hp with rfl | hp
              · exact Nat.ne_of_lt hb2 e
              · rw [hT15] at hp; exact ne_of_allLt hb5 p hp e
            · obtain ⟨p, hp, e⟩ := List.mem_map.mp q
              exact hoff p hp e
          refine call_meth N19 (.head _) ?_
          refine done_k S10 (ri := []) (rn := rn10) (rs := []) (us := y9 :: rs9) (b := 50) X' T' F19.keep (Pre.of N19 (fun p hp => .tail _ (.tail _ (.tail _ (.tail _ (.tail _ (hT15 ▸ List.mem_append_left _ hp)))))) ?nd) ok10 .nil hri9 DO (by omega)
            (fun nd hnd => ?hb) (by simp) (by omega) (by show A.handled = none; exact hh) (by k_room) ?_
          case nd =>
            rw [List.map_append] at ndA
            exact (List.nodup_append.mp ndA).1
          case hb =>
            have h1 := its_succ (w := w) (S := S10) ⟨ok10.lo, ok10.dict, ok10.areInts⟩ hkn10 nd hnd
            rw [h1, hs10]; exact hsl _
          intro S11 ri11 rn11 h20 tk20 hx11 hv11 hpo11 hnf11 hri11 hb11 ok11 P20
          obtain ⟨F20, N20, nd20⟩ := P20.back F19 (rest := (bm, methodObj (Value.ref 148) (Value.ref S10.x)) :: (lS, listOf (sp9 ++ ri9).toArray (if (sp9 ++ ri9).length = sp9.length then sn9 else sn9 + 1)) :: (D, tupOf ri9.toArray) :: frs6) (fun p hp => N19 p (by
            rcases List.mem_append.mp hp with hp | hp
            · exact .tail _ (.tail _ (.tail _ (.tail _ (.tail _ (hT15 ▸ List.mem_append_left _ hp)))))
            rcases List.mem_cons.mp hp with rfl | hp
            · exact .head _
            rcases List.mem_cons.mp hp with rfl | hp
            · exact .tail _ (.head _)
            rcases List.mem_cons.mp hp with rfl | hp
            · exact .tail _ (.tail _ (.head _))
            · exact .tail _ (.tail _ (.tail _ (.tail _ (.tail _ (hT15 ▸ List.mem_append_right _ hp))))))) ndA
          clear P20 F19 N19
          ((try clear pk); (try clear pk))
          k_steps
          refine ⟨⟨S11, ri11, rn11, (doneW (y9 :: rs9) S10.view []).2, sp9 ++ ri9, (if (sp9 ++ ri9).length = sp9.length then sn9 else sn9 + 1), spots9 ++ y9 :: rs9⟩, h20, tk20, _, _, rfl, F20, N20, fun p hp => ?_, fun p hp => ?_, ⟨?_, ?_, ?_, ?_, hri11, hsp18, ok11, ?_⟩, ?_⟩
          · rcases List.mem_cons.mp hp with rfl | hp
            · exact List.mem_append_right _ (.tail _ (.head _))
            rcases List.mem_append.mp hp with hp | hp
            · exact List.mem_append_left _ hp
            · exact List.mem_append_right _ (.tail _ (.tail _ (.tail _ hp)))
          · rcases List.mem_cons.mp hp with rfl | hp
            · rfl
            rcases List.mem_cons.mp hp with rfl | hp
            · rfl
            · cases List.mem_singleton.mp hp
              dsimp only
              rw [hx11]; rfl
          · dsimp only; rw [hv11]; exact e1
          · dsimp only; rw [hv11, e2]; exact sc9
          · dsimp only; rw [hv11, ← sc9]; exact H10
          · dsimp only; rw [hnf11, hnf10, hpo11, hpo10, lv9]
          · have h2 : ((S11.ready r ri11 rn11).objs w ++ (lS, listOf (sp9 ++ ri9).toArray (if (sp9 ++ ri9).length = sp9.length then sn9 else sn9 + 1)) :: frs6).Sublist ((S11.ready r ri11 rn11).objs w ++ (bm, methodObj (Value.ref 148) (Value.ref S10.x)) :: (lS, listOf (sp9 ++ ri9).toArray (if (sp9 ++ ri9).length = sp9.length then sn9 else sn9 + 1)) :: (D, tupOf ri9.toArray) :: frs6) :=
              (List.Sublist.refl _).append ((((List.Sublist.refl frs6).cons _).cons_cons _).cons _)
            have e : List.Perm ((S11.ready r ri11 rn11).objs w ++ (lS, listOf (sp9 ++ ri9).toArray (if (sp9 ++ ri9).length = sp9.length then sn9 else sn9 + 1)) :: frs6) ((lS, listOf (sp9 ++ ri9).toArray (if (sp9 ++ ri9).length = sp9.length then sn9 else sn9 + 1)) :: ((S11.ready r ri11 rn11).objs w ++ frs6)) := List.perm_middle
            exact ((e.map (·.1)).nodup_iff).mp (List.Nodup.sublist (h2.map _) nd20)
          · dsimp only
            rw [List.length_append, List.length_cons]
            rw [List.length_cons] at hlen9
            omega
end handed_cC
section
variable {w : World} {mean : ExcName → Option Value} {mg mb : Str → Option Value} {A : Around} {hb : Heap} {s : Shared} {Q E : Value → Shared → Prop}
theorem handed_c {lw lt : Addr} {wi ti : List Value} {ws ts : List Int} {free : Int} {ft : Tok} {l : List Env} {frs : List (Addr × Obj)} (X : (hd.heap_1 w.params).In hb) (T : Top hd.view_1 (looseW hd.view_1 [Str.ofString "_NodeInfo"]) mean mg mb hb) (St : hb.StaysIn s.heap)
   (hfr : A.frames = some l) (Fs : FrsIn hb s.heap l frs) (hfn : (frs.map (·.1)).Nodup) (hh : A.handled = none)
   (hlw : s.heap.IsList lw wi.toArray) (hiw : IntsAre wi ws) (hlt : s.heap.IsList lt ti.toArray) (hit : IntsAre ti ts) (hwl : ws.length ≤ 6) (htl : ts.length = ws.length)
   (hir : ∀ x ∈ ts, 0 ≤ x ∧ x < (ws.length : Int) + 1) (hd : A.depth + 20 < recursionLimit)
    (hret : ∀ T lS sp sn spots refused frs' h' tk' np, Handed ((buildV ((ws.length : Int) + 1) free [] (ws.zip ts)).map (·.1)) (succAt (buildV ((ws.length : Int) + 1) free [] (ws.zip ts))) spots refused np → TI.SameUp frs frs' → (∀ b o, b ∉ frs.map (·.1) → s.heap.get? b = some o → h'.get? b = some o) →
      (∀ p ∈ frs', h'.get? p.1 = some p.2) → h'.get? T = some (tupOf #[.bool refused, .ref lS]) → h'.get? lS = some (listOf sp.toArray sn) → s.heap.get? T = none → s.heap.get? lS = none → T ≠ lS → IntsAre sp spots → Q (.ref T) { s with heap := h', toks := tk' }) :
    wpAny (model PySem.Challenge.rw_oh0070_01.row.prog w) A (call (.ref 202) [.ref lw, .ref lt, .int free ft]) Q E s := by
  refine Classical.byContradiction fun hz9 => ?_
  exact @Classical.epsilon_spec handed_cP (fun x => ¬ handed_cS x) ⟨⟨w, mean, mg, mb, A, hb, s, Q, E, lw, lt, wi, ti, ws, ts, free, ft, l, frs⟩, fun zz9 => hz9 (zz9 X T St hfr Fs hfn hh hlw hiw hlt hit hwl htl hir hd hret)⟩ handed_cC.key
end
end Part_M16
section Part_P14
theorem anew_P14 : True := by k_with_none; w_top off; trivial
open PySem
set_option linter.unusedVariables false
/-- the car at a table's spot -/
noncomputable abbrev carAt (ts : List Int) (x : Int) : Nat := ts.idxOf x
noncomputable abbrev rng (n : Nat) : List Int := (List.range n).map fun i : Nat => (i : Int)
/-- what the walk of _law_agrees wants of a sorting -/
structure Agreed (ws ts spots : List Int) (refused must : Bool) : Prop where
  sub : ∀ z ∈ spots, z ∈ ts
  nodup : spots.Nodup
  over : (uldR (rng ws.length).reverse (spots.map fun x => (carAt ts x : Int)) []).2 = []
  ref : refused = !((uldR (rng ws.length).reverse (spots.map fun x => (carAt ts x : Int)) []).1).isEmpty
  must : must = true → refused = false
  stands : ∀ (t : Nat) (x : Int), spots[t]? = some x → ∃ wv, ws[carAt ts x]? = some wv ∧ Mine.stands (spots.take t) wv ((ws.length : Int) + 1) = x
  lack : ∀ car ∈ (uldR (rng ws.length).reverse (spots.map fun x => (carAt ts x : Int)) []).1, ∃ (c : Nat) (wv tv : Int), car = (c : Int) ∧ ws[c]? = some wv ∧ ts[c]? = some tv ∧ Mine.stands spots wv ((ws.length : Int) + 1) ∉ spots ∧ Mine.stands spots wv ((ws.length : Int) + 1) ≠ tv
theorem uldR_spec : ∀ (es as ms : List Int), as.Nodup → es.Nodup → (∀ x ∈ as, x ∈ es) → uldR es as ms = (ms ++ es.filter (fun x => decide (x ∉ as)), [])
  | [], as, ms, _, _, h => by
    cases as with
    | nil => simp [uldR]
    | cons a as => exact nomatch h a (.head _)
  | x :: r, as, ms, ha, he, h => by
    have he' := List.nodup_cons.mp he
    unfold uldR
    by_cases q : x ∈ as
    · rw [if_pos q, uldR_spec r (as.erase x) ms (ha.erase x) he'.2 (fun y hy => (List.mem_cons.mp (h y (ha.mem_erase_iff.mp hy).2)).resolve_left (ha.mem_erase_iff.mp hy).1)]
      rw [List.filter_cons_of_neg (by simpa using q)]
      congr 2
      refine List.filter_congr fun y hy => ?_
      have hyx : y ≠ x := fun e => he'.1 (e ▸ hy)
      exact decide_eq_decide.mpr (not_congr (ha.mem_erase_iff.trans ⟨fun q => q.2, fun q => ⟨hyx, q⟩⟩))
    · rw [if_neg q, uldR_spec r as (ms ++ [x]) ha he'.2 (fun y hy => (List.mem_cons.mp (h y hy)).resolve_left (fun e => q (e ▸ hy)))]
      rw [List.filter_cons_of_pos (by simpa using q), List.append_assoc]; rfl
theorem nd_get {l : List Int} (h : l.Nodup) {i j : Nat} {x : Int} (hi : l[i]? = some x) (hj : l[j]? = some x) : i = j := by
  obtain ⟨li, ei⟩ := List.getElem?_eq_some_iff.mp hi
  obtain ⟨lj, ej⟩ := List.getElem?_eq_some_iff.mp hj
  have hp := List.pairwise_iff_getElem.mp h
  rcases Nat.lt_trichotomy i j with q | q | q
  · exact absurd (ei.trans ej.symm) (hp i j li lj q)
  · exact q
  · exact absurd (ej.trans ei.symm) (hp j i lj li q)
theorem at_idx {l : List Int} {x : Int} (h : x ∈ l) : l[l.idxOf x]? = some x := by
  have h1 := List.idxOf_lt_length_of_mem h
  rw [List.getElem?_eq_getElem h1, List.getElem_idxOf]
theorem mem_passed {N x t z : Int} : z ∈ passedOf N x t ↔ ∃ d : Nat, d < ((t - x).fmod N).toNat ∧ z = (x + (d : Int)).fmod N := by
  unfold passedOf
  rw [List.mem_map]
  constructor
  · rintro ⟨d, hd, rfl⟩; exact ⟨d, List.mem_range.mp hd, rfl⟩
  · rintro ⟨d, hd, rfl⟩; exact ⟨d, List.mem_range.mpr hd, rfl⟩
/-- the way of a car to a spot t: it passes just the spots of passedOf -/
theorem passed_way {n : Nat} {x t : Int} {j : Nat} (hj : j ≤ n) (ht : t = (x + j) % ((n : Int) + 1)) : ∀ z, z ∈ passedOf ((n : Int) + 1) x t ↔ ∃ i : Nat, i < j ∧ z = (x + i) % ((n : Int) + 1) := by
  have hN : (0 : Int) < (n : Int) + 1 := by omega
  have e : ((t - x).fmod ((n : Int) + 1)).toNat = j := by
    rw [fmod_pos hN, ht, Int.emod_sub_emod, show x + (j : Int) - x = j by omega, Int.emod_eq_of_lt (by omega) (by omega)]
    rfl
  intro z
  rw [mem_passed, e]
  constructor
  · rintro ⟨d, hd, rfl⟩; exact ⟨d, hd, fmod_pos hN⟩
  · rintro ⟨d, hd, rfl⟩; exact ⟨d, hd, (fmod_pos hN).symm⟩
/-- if all that is passed on the way to t is full and t is not, the car stands at t -/
theorem stands_way {n : Nat} {full : List Int} {x t : Int} (hlen : full.length ≤ n) (h0 : 0 ≤ x) (h1 : x < (n : Int) + 1) (t0 : 0 ≤ t) (t1 : t < (n : Int) + 1) :
    stands full x ((n : Int) + 1) = t ↔ t ∉ full ∧ ∀ z ∈ passedOf ((n : Int) + 1) x t, z ∈ full := by
  obtain ⟨j, hj, e, hn, hp⟩ := stands_spec hlen h0 h1
  have hN : (0 : Int) < (n : Int) + 1 := by omega
  constructor
  · intro q
    rw [q] at e
    refine ⟨by rw [e]; exact hn, fun z hz => ?_⟩
    obtain ⟨i, hi, rfl⟩ := (passed_way hj e z).mp hz
    exact hp i hi
  · rintro ⟨a, b⟩
    have ht : t = (x + (((t - x) % ((n : Int) + 1)).toNat : Nat)) % ((n : Int) + 1) := by
      rw [Int.toNat_of_nonneg (Int.emod_nonneg _ (by omega)), Int.add_emod_emod, show x + (t - x) = t by omega, Int.emod_eq_of_lt t0 t1]
    have hk : ((t - x) % ((n : Int) + 1)).toNat ≤ n := by
      have := Int.emod_lt_of_pos (t - x) hN
      have := Int.emod_nonneg (t - x) (b := (n : Int) + 1) (by omega)
      omega
    generalize ((t - x) % ((n : Int) + 1)).toNat = k at ht hk
    have hw := passed_way hk ht
    have e1 : j = k := by
      rcases Nat.lt_trichotomy j k with q | q | q
      · exact absurd (b _ ((hw _).mpr ⟨j, q, rfl⟩)) hn
      · exact q
      · exact absurd (hp k q) (by rw [← ht]; exact a)
    rw [e, e1]; exact ht.symm
theorem way_rank {keys : List Int} {succ : Int → List Int} {rk : Int → Nat} (h : ∀ u ∈ keys, ∀ v ∈ succ u, rk v < rk u) {a b : Int} (w : Way keys succ a b) : rk b < rk a := by
  induction w with
  | one hu hv => exact h _ hu _ hv
  | more hu hv _ ih => exact Nat.lt_trans ih (h _ hu _ hv)
theorem way_head {keys : List Int} {succ : Int → List Int} {a b : Int} (w : Way keys succ a b) : a ∈ keys := by
  cases w with
  | one hu _ => exact hu
  | more hu _ _ => exact hu
noncomputable abbrev agreed_ofP := (List Int) × (List Int) × (List Int) × (Int) × (Int → Int)
noncomputable def agreed_ofS : agreed_ofP → Prop := fun p => (fun (ws : List Int) (T : List Int) (spots : List Int) (f : Int) (np : Int → Int) => ∀ (refused : Bool)
   (must : Bool)
   (hw : InR ws.length ws)
   (hl : T.length = ws.length)
   (hn : T.Nodup)
   (hr : InR ws.length T)
   (hf0 : 0 ≤ f)
   (hf1 : f < (ws.length : Int) + 1)
   (hfT : f ∉ T)
   (hall : ∀ x : Int, 0 ≤ x → x < (ws.length : Int) + 1 → x ≠ f → x ∈ T)
   (hm : must = true → T = tableOf ws)
   (HA : Handed ((buildV ((ws.length : Int) + 1) f [] (ws.zip T)).map (·.1)) (succAt (buildV ((ws.length : Int) + 1) f [] (ws.zip T))) spots refused np),
    Agreed ws T spots refused must) p.1 p.2.1 p.2.2.1 p.2.2.2.1 p.2.2.2.2
noncomputable def agreed_ofX : agreed_ofP := @Classical.epsilon agreed_ofP ⟨⟨[], [], [], 0, fun _ => 0⟩⟩ fun x => ¬ agreed_ofS x
namespace agreed_ofC
noncomputable def ws : List Int := agreed_ofX.1
noncomputable def T : List Int := agreed_ofX.2.1
noncomputable def spots : List Int := agreed_ofX.2.2.1
noncomputable def f : Int := agreed_ofX.2.2.2.1
noncomputable def np : Int → Int := agreed_ofX.2.2.2.2
theorem key : ∀ (refused : Bool)
   (must : Bool)
   (hw : InR ws.length ws)
   (hl : T.length = ws.length)
   (hn : T.Nodup)
   (hr : InR ws.length T)
   (hf0 : 0 ≤ f)
   (hf1 : f < (ws.length : Int) + 1)
   (hfT : f ∉ T)
   (hall : ∀ x : Int, 0 ≤ x → x < (ws.length : Int) + 1 → x ≠ f → x ∈ T)
   (hm : must = true → T = tableOf ws)
   (HA : Handed ((buildV ((ws.length : Int) + 1) f [] (ws.zip T)).map (·.1)) (succAt (buildV ((ws.length : Int) + 1) f [] (ws.zip T))) spots refused np),
    Agreed ws T spots refused must := by
  intro refused must hw hl hn hr hf0 hf1 hfT hall hm HA
  have hN : (0 : Int) < (ws.length : Int) + 1 := by omega
  obtain ⟨VO, Vk, Vs⟩ := buildV_ok (size := (ws.length : Int) + 1) (free := f) (ws.zip T) [] VOk.nil
  have hz : ∀ p, p ∈ ws.zip T ↔ ∃ c, ws[c]? = some p.1 ∧ T[c]? = some p.2 := fun p => by
    rw [List.mem_iff_getElem?]
    exact ⟨fun ⟨c, h⟩ => ⟨c, List.getElem?_zip_eq_some.mp h⟩, fun ⟨c, h⟩ => ⟨c, List.getElem?_zip_eq_some.mpr h⟩⟩
  replace Vk : ∀ z, z ∈ (buildV ((ws.length : Int) + 1) f [] (ws.zip T)).map (·.1) ↔ ∃ c x t, ws[c]? = some x ∧ T[c]? = some t ∧ (z = t ∨ z ∈ passedOf ((ws.length : Int) + 1) x t) := fun z => by
    rw [Vk z]
    constructor
    · rintro (q | ⟨p, hp, q⟩)
      · exact nomatch q
      · obtain ⟨c, a, b⟩ := (hz p).mp hp
        exact ⟨c, p.1, p.2, a, b, q⟩
    · rintro ⟨c, x, t, a, b, q⟩
      exact .inr ⟨(x, t), (hz _).mpr ⟨c, a, b⟩, q⟩
  replace Vs : ∀ u y, y ∈ succAt (buildV ((ws.length : Int) + 1) f [] (ws.zip T)) u ↔ ∃ c x t, ws[c]? = some x ∧ T[c]? = some t ∧ ((y = t ∧ u ∈ passedOf ((ws.length : Int) + 1) x t) ∨ (f ∈ passedOf ((ws.length : Int) + 1) x t ∧ y = f ∧ u = f)) := fun u y => by
    rw [Vs u y]
    constructor
    · rintro (q | ⟨p, hp, q⟩)
      · exact nomatch (show y ∈ ([] : List Int) from q)
      · obtain ⟨c, a, b⟩ := (hz p).mp hp
        exact ⟨c, p.1, p.2, a, b, q⟩
    · rintro ⟨c, x, t, a, b, q⟩
      exact .inr ⟨(x, t), (hz _).mpr ⟨c, a, b⟩, q⟩
  obtain ⟨H, hway, hrank⟩ := HA
  generalize (buildV ((ws.length : Int) + 1) f [] (ws.zip T)).map (·.1) = keys at Vk H hway hrank VO
  generalize succAt (buildV ((ws.length : Int) + 1) f [] (ws.zip T)) = succ at Vs H hway hrank VO
  clear VO hz
  have wsOf : ∀ {c : Nat} {t : Int}, T[c]? = some t → ∃ x, ws[c]? = some x := fun {c t} h => by
    have := (List.getElem?_eq_some_iff.mp h).1
    exact ⟨ws[c]'(by omega), List.getElem?_eq_getElem (by omega)⟩
  have K1 : ∀ z ∈ keys, z = f ∨ z ∈ T := fun z h => by
    obtain ⟨c, x, t, a, b, q⟩ := (Vk z).mp h
    rcases q with rfl | q
    · exact .inr (List.mem_of_getElem? b)
    · obtain ⟨d, _, rfl⟩ := mem_passed.mp q
      by_cases e : (x + (d : Int)).fmod ((ws.length : Int) + 1) = f
      · exact .inl e
      · exact .inr (hall _ (Int.fmod_nonneg_of_pos _ hN) (Int.fmod_lt_of_pos _ hN) e)
  have K2 : ∀ t ∈ T, t ∈ keys := fun t h => by
    obtain ⟨c, hc⟩ := List.getElem?_of_mem h
    obtain ⟨x, hx⟩ := wsOf hc
    exact (Vk t).mpr ⟨c, x, t, hx, hc, .inl rfl⟩
  have S1 : ∀ u y, y ∈ succ u → y ≠ f → ∃ c x, ws[c]? = some x ∧ T[c]? = some y ∧ u ∈ passedOf ((ws.length : Int) + 1) x y := fun u y h hy => by
    obtain ⟨c, x, t, a, b, q⟩ := (Vs u y).mp h
    rcases q with ⟨rfl, q⟩ | ⟨_, q, _⟩
    · exact ⟨c, x, a, b, q⟩
    · exact absurd q hy
  have S2 : ∀ {c x t}, ws[c]? = some x → T[c]? = some t → ∀ u ∈ passedOf ((ws.length : Int) + 1) x t, u ∈ keys ∧ t ∈ succ u := fun {c x t} a b u hu =>
    ⟨(Vk u).mpr ⟨c, x, t, a, b, .inr hu⟩, (Vs u t).mpr ⟨c, x, t, a, b, .inl ⟨rfl, hu⟩⟩⟩
  have S3 : f ∈ keys → f ∈ succ f ∧ ∃ t ∈ T, t ∈ succ f := fun h => by
    obtain ⟨c, x, t, a, b, q⟩ := (Vk f).mp h
    rcases q with q | q
    · exact absurd (List.mem_of_getElem? b) (q ▸ hfT)
    · exact ⟨(Vs f f).mpr ⟨c, x, t, a, b, .inr ⟨q, rfl, rfl⟩⟩, t, List.mem_of_getElem? b, (S2 a b f q).2⟩
  have hfS : f ∉ spots := fun h => H.round (.one (H.sub f h) (S3 (H.sub f h)).1) h
  have hsub : ∀ z ∈ spots, z ∈ T := fun z h => (K1 z (H.sub z h)).resolve_left fun e => hfS (e ▸ h)
  have hnd : spots.Nodup := by have := H.nodup; rw [List.append_nil] at this; exact this
  have hsl : spots.length ≤ ws.length := by
    have h1 := php2 (ws.length + 1) (f :: spots) (List.nodup_cons.mpr ⟨hfS, hnd⟩) fun z h => by
      push_cast
      rcases List.mem_cons.mp h with rfl | h
      · exact ⟨hf0, hf1⟩
      · exact hr z (hsub z h)
    rw [List.length_cons] at h1
    omega
  have hinj : ∀ {a b : Int}, a ∈ T → b ∈ T → carAt T a = carAt T b → a = b := fun {a b} ha hb e => by
    have h1 := at_idx ha
    rw [show T.idxOf a = T.idxOf b from e, at_idx hb] at h1
    exact (Option.some.inj h1).symm
  have hcnd : (spots.map fun x => (carAt T x : Int)).Nodup := by
    show List.Pairwise _ _
    rw [List.pairwise_map]
    refine List.Pairwise.imp_of_mem (fun {a b} ha hb hab e => hab (hinj (hsub a ha) (hsub b hb) ?_)) hnd
    exact Int.ofNat.inj e
  have hrnd : (rng ws.length).reverse.Nodup := by
    show List.Pairwise _ _
    rw [List.pairwise_reverse, List.pairwise_map]
    exact List.Pairwise.imp (fun {a b} hab e => hab (Int.ofNat.inj e).symm) List.nodup_range
  have hcr : ∀ x ∈ spots.map fun x => (carAt T x : Int), x ∈ (rng ws.length).reverse := fun z h => by
    obtain ⟨y, hy, rfl⟩ := List.mem_map.mp h
    rw [List.mem_reverse]
    refine List.mem_map.mpr ⟨carAt T y, List.mem_range.mpr ?_, rfl⟩
    have h1 : T.idxOf y < T.length := List.idxOf_lt_length_of_mem (hsub y hy)
    rw [hl] at h1
    exact h1
  have U := uldR_spec (rng ws.length).reverse (spots.map fun x => (carAt T x : Int)) [] hcnd hrnd hcr
  have hlack : ∀ car, car ∈ (uldR (rng ws.length).reverse (spots.map fun x => (carAt T x : Int)) []).1 ↔ ∃ (c : Nat) (t : Int), car = (c : Int) ∧ T[c]? = some t ∧ t ∉ spots := fun car => by
    rw [U]
    show car ∈ [] ++ _ ↔ _
    rw [List.nil_append, List.mem_filter, List.mem_reverse, decide_eq_true_eq]
    constructor
    · rintro ⟨a, b⟩
      obtain ⟨c, hc, rfl⟩ := List.mem_map.mp a
      have hc' : c < T.length := by rw [hl]; exact List.mem_range.mp hc
      refine ⟨c, T[c], rfl, List.getElem?_eq_getElem hc', fun q => b (List.mem_map.mpr ⟨_, q, ?_⟩)⟩
      exact congrArg Int.ofNat (nd_get hn (at_idx (List.getElem_mem hc')) (List.getElem?_eq_getElem hc'))
    · rintro ⟨c, t, rfl, hc, ht⟩
      have hc' := (List.getElem?_eq_some_iff.mp hc).1
      refine ⟨List.mem_map.mpr ⟨c, List.mem_range.mpr (by omega), rfl⟩, fun q => ?_⟩
      obtain ⟨y, hy, e⟩ := List.mem_map.mp q
      have e' : carAt T y = c := Int.ofNat.inj e
      have h1 := at_idx (hsub y hy)
      rw [show T.idxOf y = c from e', hc] at h1
      exact ht (Option.some.inj h1 ▸ hy)
  refine ⟨hsub, hnd, by rw [U], ?_, ?_, ?_, ?_⟩
  · generalize (uldR (rng ws.length).reverse (spots.map fun x => (carAt T x : Int)) []).1 = lk at hlack
    cases refused with
    | false =>
      obtain ⟨rk, hrk⟩ := hrank rfl
      have hout := H.allOut rk hrk
      cases lk with
      | nil => rfl
      | cons a l =>
        obtain ⟨c, t, _, hc, ht⟩ := (hlack a).mp (.head _)
        exact absurd (hout t (K2 t (List.mem_of_getElem? hc))) ht
    | true =>
      obtain ⟨x, hx⟩ := hway rfl
      have hxS := H.round hx
      have hT : ∃ t ∈ T, t ∉ spots := by
        rcases K1 x (way_head hx) with rfl | h
        · obtain ⟨h1, t, ht, h2⟩ := S3 (way_head hx)
          refine ⟨t, ht, fun q => ?_⟩
          obtain ⟨i, hi⟩ := List.getElem?_of_mem q
          exact hfS (List.mem_of_mem_take (H.before hi _ (way_head hx) h2))
        · exact ⟨x, h, hxS⟩
      obtain ⟨t, ht, htS⟩ := hT
      cases lk with
      | nil => exact nomatch (hlack _).mpr ⟨_, t, rfl, at_idx ht, htS⟩
      | cons a l => rfl
  · intro h
    cases refused with
    | false => rfl
    | true =>
      obtain ⟨x, hx⟩ := hway rfl
      have hT := hm h
      have hpt : ∀ {c x t}, ws[c]? = some x → T[c]? = some t → ∀ z ∈ passedOf ((ws.length : Int) + 1) x t, z ∈ T.take c := fun {c x t} a b z hz' => by
        obtain ⟨j, t', hj, ht', et, hnt, hpass⟩ := table_car hw a
        rw [← hT, b] at ht'
        obtain rfl := Option.some.inj ht'
        obtain ⟨i, hi, rfl⟩ := (passed_way hj et z).mp hz'
        rw [hT]; exact hpass i hi
      have := way_rank (rk := fun u => ws.length - carAt T u) (fun u hu v hv => by
        obtain ⟨c, x, t, a, b, q⟩ := (Vs u v).mp hv
        rcases q with ⟨rfl, q⟩ | ⟨q, _⟩
        · have h1 := hpt a b u q
          obtain ⟨i, hi⟩ := List.getElem?_of_mem h1
          rw [List.getElem?_take] at hi
          split at hi
          · rename_i hic
            have h2 : carAt T u = i := nd_get hn (at_idx (List.mem_of_getElem? hi)) hi
            have h3 : carAt T v = c := nd_get hn (at_idx (List.mem_of_getElem? b)) b
            have h4 := (List.getElem?_eq_some_iff.mp b).1
            show ws.length - carAt T v < ws.length - carAt T u
            omega
          · cases hi
        · exact absurd (List.mem_of_mem_take (hpt a b f q)) hfT) hx
      exact absurd this (Nat.lt_irrefl _)
  · intro t x hx
    have hxS := List.mem_of_getElem? hx
    have hxT := hsub x hxS
    have hc := at_idx hxT
    obtain ⟨wv, hwv⟩ := wsOf hc
    refine ⟨wv, hwv, (stands_way (by rw [List.length_take]; omega) (hw wv (List.mem_of_getElem? hwv)).1 (hw wv (List.mem_of_getElem? hwv)).2 (hr x hxT).1 (hr x hxT).2).mpr ⟨fun q => ?_, fun z hz' => ?_⟩⟩
    · obtain ⟨i, hi⟩ := List.getElem?_of_mem q
      rw [List.getElem?_take] at hi
      split at hi
      · rename_i h; exact absurd (nd_get hnd hi hx) (Nat.ne_of_lt h)
      · cases hi
    · obtain ⟨a, b⟩ := S2 hwv hc z hz'
      exact H.before hx z a b
  · intro car hcar
    obtain ⟨c, t, rfl, hc, ht⟩ := (hlack car).mp hcar
    obtain ⟨wv, hwv⟩ := wsOf hc
    have htT := List.mem_of_getElem? hc
    have hw' := hw wv (List.mem_of_getElem? hwv)
    refine ⟨c, wv, t, rfl, hwv, hc, (stands_in hsl hw'.1 hw'.2).2.2, fun q => ?_⟩
    have h1 := ((stands_way hsl hw'.1 hw'.2 (hr t htT).1 (hr t htT).2).mp q).2
    obtain ⟨u, hu, huS, huv⟩ := H.fin t (K2 t htT) ht
    obtain ⟨c', x', a', b', q'⟩ := S1 u t huv fun e => hfT (e ▸ htT)
    obtain rfl := nd_get hn b' hc
    rw [a'] at hwv
    obtain rfl := Option.some.inj hwv
    exact huS (h1 u q')
end agreed_ofC
section
variable {dmy : Nat}
theorem agreed_of {ws T spots : List Int} {f : Int} {refused : Bool} {must : Bool} {np : Int → Int} (hw : InR ws.length ws) (hl : T.length = ws.length) (hn : T.Nodup) (hr : InR ws.length T) (hf0 : 0 ≤ f) (hf1 : f < (ws.length : Int) + 1) (hfT : f ∉ T)
    (hall : ∀ x : Int, 0 ≤ x → x < (ws.length : Int) + 1 → x ≠ f → x ∈ T) (hm : must = true → T = tableOf ws)
    (HA : Handed ((buildV ((ws.length : Int) + 1) f [] (ws.zip T)).map (·.1)) (succAt (buildV ((ws.length : Int) + 1) f [] (ws.zip T))) spots refused np) : Agreed ws T spots refused must := by
  refine Classical.byContradiction fun hz9 => ?_
  exact @Classical.epsilon_spec agreed_ofP (fun x => ¬ agreed_ofS x) ⟨⟨ws, T, spots, f, np⟩, fun zz9 => hz9 (zz9 refused must hw hl hn hr hf0 hf1 hfT hall hm HA)⟩ agreed_ofC.key
end
end Part_P14
section Part_M17
theorem rules_M17 : True := by
  k_with_none
  w_top off
  k_with "exec If" => refine parkAt (n := 0) (by with_reducible assumption) ?_
  k_with "getMethod ref" => refine parkAt (n := 1) (by with_reducible assumption) ?_
  k_with "call builtin:list.index" => refine parkAt (n := 2) (by with_reducible assumption) ?_
  k_with "m mine list" => first | exact isL (by k_asm) (by k_mem) | exact isB (by k_asm) (by assumption)
  k_with "m call builtin:len" => (k_here; (try dsimp only); (with_reducible show wpAny _ _ (call (Value.builtin "len") [Value.ref _]) _ _ _); k_dflt (refine' len_L ?zqk1 ?zqk3 ?zqk4 ?_; (case zqk1 => walk_at "mine list"); (case zqk3 => assumption); (case zqk4 => omega)))
  k_with "m subscriptTail" => (k_here; (try dsimp only); (with_reducible show wpAny _ _ (subscriptTail _ _ (Value.ref _) (Value.int _ _)) _ _ _); k_dflt (first | (refine' item_L ?zqk1 ?zqk3 ?zqk4 ?zqk5 ?zqk6 ?_ ?zqk8; (case zqk1 => walk_at "mine list"); (case zqk3 => assumption); (case zqk5 => with_reducible assumption); (case zqk4 => omega); (case zqk6 => omega); (case zqk8 => with_unfolding_all rfl); k_whole; intro t9) | (refine' out_L ?zqk0 ?zqk1 ?zqk3 ?zqk4 ?zqk5 ?_ ?zqk8; (case zqk0 => first | rfl | assumption); (case zqk1 => walk_at "mine list"); (case zqk3 => assumption); (case zqk4 => omega); (case zqk5 => omega); (case zqk8 => with_unfolding_all rfl); k_whole; intro h9 tk9 e9 x9)))
  k_with "m subscriptTail Name Name ref int" => (k_here; (try dsimp only); (with_reducible show wpAny _ _ (subscriptTail _ _ (Value.ref _) (Value.int _ _)) _ _ _); k_dflt (first | (refine' item_L ?zqk1 ?zqk3 ?zqk4 ?zqk5 ?zqk6 ?_ ?zqk8; (case zqk1 => walk_at "mine list"); (case zqk3 => assumption); (case zqk5 => with_reducible assumption); (case zqk4 => omega); (case zqk6 => omega); (case zqk8 => with_unfolding_all rfl); k_whole; intro t9) | (refine' out_L ?zqk0 ?zqk1 ?zqk3 ?zqk4 ?zqk5 ?_ ?zqk8; (case zqk0 => first | rfl | assumption); (case zqk1 => walk_at "mine list"); (case zqk3 => assumption); (case zqk4 => omega); (case zqk5 => omega); (case zqk8 => with_unfolding_all rfl); k_whole; intro h9 tk9 e9 x9) | (refine' out_over ?zqk0 ?zqkN ?zqkm ?zqkb ?zqk1 ?zqk3 ?zqk4 ?zqk5 ?_ ?zqk8; (case zqk0 => rfl); (case zqkN => k_asm); (case zqkm => k_mem); (case zqkb => assumption); (case zqk1 => walk_at "mine list"); (case zqk3 => assumption); (case zqk4 => omega); (case zqk5 => omega); (case zqk8 => with_unfolding_all rfl); k_whole; intro h9 tk9 e9 x9)))
  k_with "m subscriptTail Name Slice ref ref" => (k_here; k_dflt (refine' kmk_slice_ints ?zqF ?zqN ?zql ?zqpl ?zqpu ?zqhi ?zqhm rfl ?_ ?zqhs ?zqht ?zqhz; (case zqF => k_asm); (case zqN => k_asm); (case zql => walk_at "mine list"); (case zqpl => kmk_part); (case zqpu => kmk_part); (case zqhi => assumption); (case zqhm => first | (with_reducible refine kmk_from (by assumption) ?_; omega) | (with_reducible refine kmk_upto (by assumption) ?_; omega) | with_reducible exact kmk_all (by assumption)); (case zqhs => with_unfolding_all rfl); (case zqht => kmk_pure); (case zqhz => exact kmk_sz (by assumption) (by simp only [sizeLine_eq]; omega)); k_whole; intro _ _ _ F9 N9 l9 _ _ _; (try k_lt l9)))
  k_with "m call builtin:list.extend" => (k_here; k_dflt (refine' extend_L ?zqF ?zqN ?zqm ?zqU ?zqi1 ?zqi2 ?zqz ?_; (case zqF => k_asm); (case zqN => k_asm); (case zqU => k_upd); (case zqm => k_mem); (case zqi1 => walk_at "mine ints"); (case zqi2 => walk_at "mine ints"); (case zqz => walk_at "mine len"); k_whole; intro h9 F9 N9 I9))
  k_with "m mine len" => first | omega | (simp only [List.length_append, List.length_drop, List.length_take, List.length_nil, List.length_cons] at *; omega)
  k_with "m mine ints" => first | exact IntsAre.nil | assumption
  k_with "m compareOp In int ref" => (k_here; (try dsimp only); k_dflt (refine' in_L ?zqm ?zqi ?_; (case zqm => walk_at "mine list"); (case zqi => assumption)))
  k_with "m subscriptTail Name Subscript ref int" => (k_here; (try dsimp only); (with_reducible show wpAny _ _ (subscriptTail _ _ (Value.ref _) (Value.int _ _)) _ _ _); k_dflt (first | (refine' item_L ?zqk1 ?zqk3 ?zqk4 ?zqk5 ?zqk6 ?_ ?zqk8; (case zqk1 => walk_at "mine list"); (case zqk3 => assumption); (case zqk5 => with_reducible assumption); (case zqk4 => omega); (case zqk6 => omega); (case zqk8 => with_unfolding_all rfl); k_whole; intro t9) | (refine' out_L ?zqk0 ?zqk1 ?zqk3 ?zqk4 ?zqk5 ?_ ?zqk8; (case zqk0 => first | rfl | assumption); (case zqk1 => walk_at "mine list"); (case zqk3 => assumption); (case zqk4 => omega); (case zqk5 => omega); (case zqk8 => with_unfolding_all rfl); k_whole; intro h9 tk9 e9 x9)))
  k_with "m call type:list" => (k_here; refine park ?_)
  k_with "m mine list" => first | exact isB (by k_asm) (by with_reducible assumption) | exact isL (by k_asm) (by k_mem)
  k_with "m call ref" => (k_here; refine park ?_)
  k_with "m compareOp NotEq ref ref" => (k_here; k_dflt (refine' ne_intsK ?zqa ?zqi ?zqb ?zqj ?zqu ?_; (case zqa => walk_at "mine list"); (case zqb => walk_at "mine list"); (case zqi => walk_at "mine ints"); (case zqj => walk_at "mine ints"); (case zqu => (have := cl100; simp only [units_deeper]; omega))))
  k_with "m compareOp Eq ref ref" => (k_here; k_dflt (refine' eq_intsK ?zqa ?zqi ?zqb ?zqj ?zqu ?_; (case zqa => walk_at "mine list"); (case zqb => walk_at "mine list"); (case zqi => walk_at "mine ints"); (case zqj => walk_at "mine ints"); (case zqu => (have := cl100; simp only [units_deeper]; omega))))
  trivial
section
variable {prog : Program} {w : World} {A : Around} {E : Value → Shared → Prop} {s : Shared} {D : Addr} {its : List Value} {ns : List Int} {n : Nat}
theorem method_B {name : Str} {id : String} {pl : Sem Bool} {Q : Value × List Value → Shared → Prop} {its : Array Value} (hl : s.heap.get? D = some (listOf its n)) (slot : Slot "list" name id) (hty : typeOf (.builtin id) = pure (.type "method_descriptor"))
    (h : Q (.builtin id, [.ref D]) s) : wpAny (model prog w) A (getMethod (.ref D) name pl) Q E s :=
  getMethod_builtin ⟨_, hl, rfl⟩ PySem.F.plainAttrs_list slot hty (fun a e => by cases e; exact ⟨_, hl, rfl⟩) h
theorem index_B {k : Int} {t : Tok} {Q : Value → Shared → Prop} (hl : s.heap.get? D = some (listOf its.toArray n)) (hi : IntsAre its ns) (hk : k ∈ ns) (hz : ns.length ≤ 100000)
    (h : Q (.int ((ns.idxOf k : Nat) : Int) s.toks) { s with toks := s.toks + 1 }) : wpAny (model prog w) A (call (.builtin "list.index") [.ref D, .int k t]) Q E s := by
  obtain ⟨a, b, c⟩ := kf_at_spec (ints_at hi k hk)
  have q := hi.length
  refine call_meets PySem.F.slot_list_index ⟨_, hl, rfl⟩ PySem.F.entry_list_index (PySem.F.args_list_index_2 _ _)
    (MeetsSeq.list_index D its.toArray n (.int k t) (isInt k) (fun y hy => kf_eq (ints_kf hi) y (by simpa using hy)) (ns.idxOf k) (by simpa using a) (by have := List.idxOf_lt_length_of_mem hk; omega) (by simpa using b) (fun i hi hlt => ?_)) ⟨hl, h⟩
  have := c i (by simpa using hi) hlt
  simpa using this
end
theorem get_hide {h : Heap} {D : Addr} {its : List Value} {n : Nat} {hb : Heap} {l : List Env} {frs : List (Addr × Obj)} (hl : h.get? D = some (listOf its.toArray n)) (Fs : FrsIn hb h l frs) : (hideAll h (frs.map (·.1))).get? D = some (listOf its.toArray n) := by
  refine hideAll_get _ hl fun q => ?_
  obtain ⟨p, hp, e⟩ := List.mem_map.mp q
  obtain ⟨es, ep, hd⟩ := frs_dict Fs.1 p hp
  have h1 := (Fs.2 p hp).1
  rw [e, hl] at h1
  injection h1 with h1
  rw [← h1] at hd
  cases hd
theorem uld_frame {base h h' : Heap} {L le la lt lm : Addr} {m : Str → Option Value} {oL oe oa : Obj} {frs frs3 : List (Addr × Obj)} {mi ai : List Value} {mn an : Nat} {res : List Int × List Int} (F : Fr base L h m) (hoL : h.get? L = some oL)
    (N : News base L h ((le, oe) :: (la, oa) :: frs)) (hf : ∀ p ∈ frs, p.1 ≠ la) (hfn : (frs.map (·.1)).Nodup) (P : UldPost h h' le la ((L, oL) :: frs) frs3 lt lm mi ai mn an res) :
    ∃ oL' frsT, frs3 = (L, oL') :: frsT ∧ TI.SameUp frs frsT ∧ Fr base L h' m ∧ News base L h' ((lt, tupOf #[.ref lm, .ref la]) :: (lm, listOf mi.toArray mn) :: (la, listOf ai.toArray an) :: frsT) ∧ h'.get? L = some oL' ∧
      (∀ x o, (x, o) ∈ (lt, tupOf #[.ref lm, .ref la]) :: (lm, listOf mi.toArray mn) :: (la, listOf ai.toArray an) :: frsT → x = la ∨ h.get? x = none ∨ x ∈ frs.map (·.1)) := by
  have hm : ∀ x, h.get? x = none → x ∉ ((L, oL) :: frs).map (·.1) ∧ x ≠ la := fun x e => by
    refine ⟨fun q => ?_, fun q => by rw [q, (N _ (.tail _ (.head _))).1] at e; cases e⟩
    rcases List.mem_cons.mp q with q | q
    · rw [q] at e
      have e' : h.get? L = none := e
      rw [hoL] at e'; cases e'
    · obtain ⟨p, hp, e2⟩ := List.mem_map.mp q
      rw [← e2, (N p (.tail _ (.tail _ hp))).1] at e; cases e
  have htm : lt ≠ lm := fun q => by
    have h1 := P.tup
    rw [q, P.mis] at h1
    have h2 := Option.some.inj h1
    have h3 : (.type "list" : Value) = .type "tuple" := congrArg Obj.cls h2
    injection h3 with h4
    exact absurd h4 (by decide)
  have hLa : la ≠ L := (N _ (.tail _ (.head _))).2.1
  have hLf : L ∉ frs.map (·.1) := fun q => by
    obtain ⟨p, hp, e⟩ := List.mem_map.mp q
    exact (N p (.tail _ (.tail _ hp))).2.1 e
  have haf : la ∉ frs.map (·.1) := fun q => by
    obtain ⟨p, hp, e⟩ := List.mem_map.mp q
    exact hf p hp e
  have e3 : frs3.map (·.1) = L :: frs.map (·.1) := sameUp_fst P.up
  have PP : Post h h' ([(le, oe), (la, oa)] ++ (L, oL) :: frs) ([(lt, tupOf #[.ref lm, .ref la]), (lm, listOf mi.toArray mn), (la, listOf ai.toArray an)] ++ frs3) := by
    refine ⟨fun b o hb e => P.keep b o hb e, fun p hp => ?_, fun p hp => ?_, ?_⟩
    · rcases List.mem_cons.mp hp with rfl | hp
      · exact P.tup
      rcases List.mem_cons.mp hp with rfl | hp
      · exact P.mis
      rcases List.mem_cons.mp hp with rfl | hp
      · exact P.act
      · exact P.frames p hp
    · rcases List.mem_cons.mp hp with rfl | hp
      · exact .inr P.newT
      rcases List.mem_cons.mp hp with rfl | hp
      · exact .inr P.newM
      rcases List.mem_cons.mp hp with rfl | hp
      · exact .inl (.tail _ (.head _))
      · have h1 : p.1 ∈ frs3.map (·.1) := List.mem_map_of_mem hp
        rw [e3] at h1
        exact .inl (.tail _ (.tail _ h1))
    · show (lt :: lm :: la :: frs3.map (·.1)).Nodup
      rw [e3]
      have t := hm lt P.newT
      have u := hm lm P.newM
      refine List.nodup_cons.mpr ⟨fun q => ?_, List.nodup_cons.mpr ⟨fun q => ?_, List.nodup_cons.mpr ⟨fun q => ?_, List.nodup_cons.mpr ⟨hLf, hfn⟩⟩⟩⟩
      · rcases List.mem_cons.mp q with q | q
        · exact htm q
        rcases List.mem_cons.mp q with q | q
        · exact t.2 q
        · exact t.1 q
      · rcases List.mem_cons.mp q with q | q
        · exact u.2 q
        · exact u.1 q
      · rcases List.mem_cons.mp q with q | q
        · exact hLa q
        · exact haf q
  obtain ⟨oL', frsT, rfl, SU, F', N', _, hL'⟩ := Post.frame (objs := [(le, oe), (la, oa)]) (new := [(lt, tupOf #[.ref lm, .ref la]), (lm, listOf mi.toArray mn), (la, listOf ai.toArray an)]) F hoL N PP P.up
  refine ⟨oL', frsT, rfl, SU, F', N', hL', fun x o hx => ?_⟩
  rcases List.mem_cons.mp hx with e | hx
  · cases e; exact .inr (.inl P.newT)
  rcases List.mem_cons.mp hx with e | hx
  · cases e; exact .inr (.inl P.newM)
  rcases List.mem_cons.mp hx with e | hx
  · cases e; exact .inl rfl
  · refine .inr (.inr ?_)
    rw [← sameUp_fst SU]; exact List.mem_map_of_mem hx
/-- behind a test: the state, the frame and the ledger stand -/
noncomputable def MidF (base : Heap) (L : Addr) (s : Shared) (m : Str → Option Value) (news : List (Addr × Obj)) (s3 : Shared) : Prop := ∃ h tk, s3 = { s with heap := h, toks := tk } ∧ Fr base L h m ∧ News base L h news
theorem uldR_len : ∀ (es as ms : List Int), (uldR es as ms).1.length ≤ es.length + ms.length
  | [], as, ms => by simp [uldR]
  | x :: r, as, ms => by
    unfold uldR
    split
    · have := uldR_len r (as.erase x) ms
      rw [List.length_cons]; omega
    · have := uldR_len r as (ms ++ [x])
      rw [List.length_append, List.length_singleton] at this
      rw [List.length_cons]; omega
theorem mid_cut {prog : Program} {w : World} {A : Around} {E : Value → Shared → Prop} {s : Shared} {base : Heap} {L : Addr} {m : Str → Option Value} {news : List (Addr × Obj)} {t : Sem Flow} {Q : Flow → Shared → Prop} (_ : Fr base L s.heap m) (_ : News base L s.heap news)
    (h1 : wpAny (model prog w) A t (fun f s' => f = .next ∧ MidF base L s m news s') E s) (h2 : ∀ h tk, Fr base L h m → News base L h news → Q .next { s with heap := h, toks := tk }) : wpAny (model prog w) A t Q E s :=
  wpAny_mono h1 (fun f s' hf => by obtain ⟨rfl, h, tk, rfl, F, N⟩ := hf; exact h2 h tk F N) fun _ _ e => e
theorem mid_end {base : Heap} {L : Addr} {s : Shared} {m : Str → Option Value} {news all : List (Addr × Obj)} {h : Heap} {tk : Nat} (F : Fr base L h m) (N : News base L h all) (sub : ∀ p ∈ news, p ∈ all) : Flow.next = .next ∧ MidF base L s m news { s with heap := h, toks := tk } :=
  ⟨rfl, h, tk, rfl, F, fun p hp => N p (sub p hp)⟩
theorem fillM17 (w : World) (h : Heap) : PySem.Challenge.rw_oh0070_01.foot = 5 → (hd.heap_1 w.params).In h → True := by
  k_fill
  intro _ _
  trivial
theorem cl100 : 120 ≤ cLine := by decide
noncomputable abbrev agrees_cP := (World) × (ExcName → Option Value) × (Str → Option Value) × (Str → Option Value) × (Around) × (Heap) × (Shared) × (Value → Shared → Prop) × (Value → Shared → Prop) × (Addr) × (Addr) × (List Value) × (List Value) × (Nat) × (Nat) × (List Int) × (List Int) × (Int) × (Tok) × (List Env) × (List (Addr × Obj))
noncomputable def agrees_cS : agrees_cP → Prop := fun p => (fun (w : World) (mean : ExcName → Option Value) (mg : Str → Option Value) (mb : Str → Option Value) (A : Around) (hb : Heap) (s : Shared) (Q : Value → Shared → Prop) (E : Value → Shared → Prop) (lw : Addr) (lt : Addr) (wi : List Value) (ti : List Value) (wn : Nat) (tn : Nat) (ws : List Int) (ts : List Int) (free : Int) (ft : Tok) (l : List Env) (frs : List (Addr × Obj)) => ∀ (must : Bool)
   (X : (hd.heap_1 w.params).In hb)
   (T : Top hd.view_1 (looseW hd.view_1 [Str.ofString "_NodeInfo"]) mean mg mb hb)
   (St : hb.StaysIn s.heap)
   (hfr : A.frames = some l)
   (Fs : FrsIn hb s.heap l frs)
   (hfn : (frs.map (·.1)).Nodup)
   (hh : A.handled = none)
   (hlw : s.heap.get? lw = some (listOf wi.toArray wn))
   (hiw : IntsAre wi ws)
   (hlt : s.heap.get? lt = some (listOf ti.toArray tn))
   (hit : IntsAre ti ts)
   (hwl : ws.length ≤ 6)
   (htl : ts.length = ws.length)
   (hir : ∀ x ∈ ts, 0 ≤ x ∧ x < (ws.length : Int) + 1)
   (hd : A.depth + 22 < recursionLimit)
   (hun : A.units ≤ 10)
   (hag : ∀ spots refused np, Handed ((buildV ((ws.length : Int) + 1) free [] (ws.zip ts)).map (·.1)) (succAt (buildV ((ws.length : Int) + 1) free [] (ws.zip ts))) spots refused np → Agreed ws ts spots refused must)
   (hret : ∀ frs' h' tk', TI.SameUp frs frs' → (∀ b o, b ∉ frs.map (·.1) → s.heap.get? b = some o → h'.get? b = some o) → (∀ p ∈ frs', h'.get? p.1 = some p.2) → Q (.bool true) { s with heap := h', toks := tk' }),
    wpAny (model PySem.Challenge.rw_oh0070_01.row.prog w) A (call (.ref 207) [.ref lw, .ref lt, .int free ft, .bool must]) Q E s) p.1 p.2.1 p.2.2.1 p.2.2.2.1 p.2.2.2.2.1 p.2.2.2.2.2.1 p.2.2.2.2.2.2.1 p.2.2.2.2.2.2.2.1 p.2.2.2.2.2.2.2.2.1 p.2.2.2.2.2.2.2.2.2.1 p.2.2.2.2.2.2.2.2.2.2.1 p.2.2.2.2.2.2.2.2.2.2.2.1 p.2.2.2.2.2.2.2.2.2.2.2.2.1 p.2.2.2.2.2.2.2.2.2.2.2.2.2.1 p.2.2.2.2.2.2.2.2.2.2.2.2.2.2.1 p.2.2.2.2.2.2.2.2.2.2.2.2.2.2.2.1 p.2.2.2.2.2.2.2.2.2.2.2.2.2.2.2.2.1 p.2.2.2.2.2.2.2.2.2.2.2.2.2.2.2.2.2.1 p.2.2.2.2.2.2.2.2.2.2.2.2.2.2.2.2.2.2.1 p.2.2.2.2.2.2.2.2.2.2.2.2.2.2.2.2.2.2.2.1 p.2.2.2.2.2.2.2.2.2.2.2.2.2.2.2.2.2.2.2.2
noncomputable def agrees_cX : agrees_cP := @Classical.epsilon agrees_cP ⟨⟨⟨fun _ _ => 0, { strHash := fun _ => 0, shareClass := fun _ => 0, mergeTok := fun t => t, idOf := fun _ => 0, idOfShared := fun _ _ => 0, followText := fun _ => false, idOfImm := fun _ => 0 }⟩, fun _ => none, fun _ => none, fun _ => none, callerA, {}, {}, fun _ _ => True, fun _ _ => True, 0, 0, [], [], 0, 0, [], [], 0, 0, [], []⟩⟩ fun x => ¬ agrees_cS x
namespace agrees_cC
noncomputable def w : World := agrees_cX.1
noncomputable def mean : ExcName → Option Value := agrees_cX.2.1
noncomputable def mg : Str → Option Value := agrees_cX.2.2.1
noncomputable def mb : Str → Option Value := agrees_cX.2.2.2.1
noncomputable def A : Around := agrees_cX.2.2.2.2.1
noncomputable def hb : Heap := agrees_cX.2.2.2.2.2.1
noncomputable def s : Shared := agrees_cX.2.2.2.2.2.2.1
noncomputable def Q : Value → Shared → Prop := agrees_cX.2.2.2.2.2.2.2.1
noncomputable def E : Value → Shared → Prop := agrees_cX.2.2.2.2.2.2.2.2.1
noncomputable def lw : Addr := agrees_cX.2.2.2.2.2.2.2.2.2.1
noncomputable def lt : Addr := agrees_cX.2.2.2.2.2.2.2.2.2.2.1
noncomputable def wi : List Value := agrees_cX.2.2.2.2.2.2.2.2.2.2.2.1
noncomputable def ti : List Value := agrees_cX.2.2.2.2.2.2.2.2.2.2.2.2.1
noncomputable def wn : Nat := agrees_cX.2.2.2.2.2.2.2.2.2.2.2.2.2.1
noncomputable def tn : Nat := agrees_cX.2.2.2.2.2.2.2.2.2.2.2.2.2.2.1
noncomputable def ws : List Int := agrees_cX.2.2.2.2.2.2.2.2.2.2.2.2.2.2.2.1
noncomputable def ts : List Int := agrees_cX.2.2.2.2.2.2.2.2.2.2.2.2.2.2.2.2.1
noncomputable def free : Int := agrees_cX.2.2.2.2.2.2.2.2.2.2.2.2.2.2.2.2.2.1
noncomputable def ft : Tok := agrees_cX.2.2.2.2.2.2.2.2.2.2.2.2.2.2.2.2.2.2.1
noncomputable def l : List Env := agrees_cX.2.2.2.2.2.2.2.2.2.2.2.2.2.2.2.2.2.2.2.1
noncomputable def frs : List (Addr × Obj) := agrees_cX.2.2.2.2.2.2.2.2.2.2.2.2.2.2.2.2.2.2.2.2
noncomputable def base : Heap := hideAll s.heap (frs.map (·.1))
noncomputable def L : Addr := s.heap.objs.size
theorem key : ∀ (must : Bool)
   (X : (hd.heap_1 w.params).In hb)
   (T : Top hd.view_1 (looseW hd.view_1 [Str.ofString "_NodeInfo"]) mean mg mb hb)
   (St : hb.StaysIn s.heap)
   (hfr : A.frames = some l)
   (Fs : FrsIn hb s.heap l frs)
   (hfn : (frs.map (·.1)).Nodup)
   (hh : A.handled = none)
   (hlw : s.heap.get? lw = some (listOf wi.toArray wn))
   (hiw : IntsAre wi ws)
   (hlt : s.heap.get? lt = some (listOf ti.toArray tn))
   (hit : IntsAre ti ts)
   (hwl : ws.length ≤ 6)
   (htl : ts.length = ws.length)
   (hir : ∀ x ∈ ts, 0 ≤ x ∧ x < (ws.length : Int) + 1)
   (hd : A.depth + 22 < recursionLimit)
   (hun : A.units ≤ 10)
   (hag : ∀ spots refused np, Handed ((buildV ((ws.length : Int) + 1) free [] (ws.zip ts)).map (·.1)) (succAt (buildV ((ws.length : Int) + 1) free [] (ws.zip ts))) spots refused np → Agreed ws ts spots refused must)
   (hret : ∀ frs' h' tk', TI.SameUp frs frs' → (∀ b o, b ∉ frs.map (·.1) → s.heap.get? b = some o → h'.get? b = some o) → (∀ p ∈ frs', h'.get? p.1 = some p.2) → Q (.bool true) { s with heap := h', toks := tk' }),
    wpAny (model PySem.Challenge.rw_oh0070_01.row.prog w) A (call (.ref 207) [.ref lw, .ref lt, .int free ft, .bool must]) Q E s := by
  intro must X T St hfr Fs hfn hh hlw hiw hlt hit hwl htl hir hd hun hag hret
  refine wpAny_call ?_
  have hH : ∀ a ∈ frs.map (·.1), hb.get? a = none := frs_off Fs
  k_dflt (refine' enter_cells (H := frs.map (·.1)) (binds := [(Str.ofString "wishes", .ref lw), (Str.ofString "table", .ref lt), (Str.ofString "free", .int free ft), (Str.ofString "must", .bool must)]) ?k1 ?k2 ?k3 ?k4 ?k6 ?k7 ?k8 ?k9 ?kB ?kD ?_ ?c2 ?c3 ?c4; (case k1 => k_asm); (case k2 => k_asm); (case k3 => k_asm); (case k4 => first | assumption | (intro a ha; cases ha)); (case k6 => k_is); (case k7 => k_is); (case k8 => k_room); (case k9 => exact BindsTo.of_eq rfl); (case kB => exact rfl); (case kD => decide +kernel); (case c2 => exact rfl); (case c3 => exact rfl); (case c4 => exact rfl); k_whole; intro g L' h' tk' cells' hg hL' F' N' Y' K' X' T' S')
  subst hg hL'
  have hlwb := get_hide hlw Fs
  have hltb := get_hide hlt Fs
  have NF := frs_news Fs K'
  generalize hbase : hideAll s.heap (frs.map (·.1)) = base at *
  obtain rfl : base = agrees_cC.base := hbase.symm
  generalize hLL : s.heap.objs.size = L at *
  obtain rfl : L = agrees_cC.L := hLL.symm
  obtain ⟨oc, op, os, ot, ow, hcl, dc, dp, ds, dt, dw⟩ := PyProof.Rows.kc_five Y'
  subst hcl
  clear Y'
  replace dc : oc.data = .cell none := dc
  replace dp : op.data = .cell none := dp
  replace ds : os.data = .cell none := ds
  replace dt : ot.data = .cell (some (.ref lt)) := dt
  replace dw : ow.data = .cell (some (.ref lw)) := dw
  obtain ⟨m0, F1⟩ : ∃ m0, Fr base L h' (kstB m0 [(Str.ofString "free", .int free ft), (Str.ofString "must", .bool must)]) := ⟨_, by
    rw [kstB_same]
    · exact F'
    · intro p hp
      rcases List.mem_cons.mp hp with rfl | hp
      · rfl
      · cases List.mem_singleton.mp hp; rfl⟩
  clear F'
  have N1 : News base L h' ((L + 1 + 1 + 1 + 1 + 1, oc) :: (L + 1 + 1 + 1 + 1, op) :: (L + 1 + 1 + 1, os) :: (L + 1 + 1, ot) :: (L + 1, ow) :: frs) := fun p hp => by
    rcases List.mem_cons.mp hp with rfl | hp
    · exact N' _ (.head _)
    rcases List.mem_cons.mp hp with rfl | hp
    · exact N' _ (.tail _ (.head _))
    rcases List.mem_cons.mp hp with rfl | hp
    · exact N' _ (.tail _ (.tail _ (.head _)))
    rcases List.mem_cons.mp hp with rfl | hp
    · exact N' _ (.tail _ (.tail _ (.tail _ (.head _))))
    rcases List.mem_cons.mp hp with rfl | hp
    · exact N' _ (.tail _ (.tail _ (.tail _ (.tail _ (.head _)))))
    · exact NF p hp
  clear N' NF
  have hfl : ∀ p ∈ frs, @LT.lt Nat _ p.1 L := fun p hp => by rw [← hLL]; exact Heap.lt_size (Fs.2 p hp).1
  have hlwB : base.IsList lw wi.toArray := ⟨_, hlwb, rfl, _, rfl⟩
  have hltB : base.IsList lt ti.toArray := ⟨_, hltb, rfl, _, rfl⟩
  have f1 : ∀ p ∈ frs, p.1 ≠ L + 1 := fun p hp => Nat.ne_of_lt (Nat.lt_succ_of_lt (hfl p hp))
  have f2 : ∀ p ∈ frs, p.1 ≠ L + 1 + 1 := fun p hp => Nat.ne_of_lt (Nat.lt_succ_of_lt (Nat.lt_succ_of_lt (hfl p hp)))
  have f3 : ∀ p ∈ frs, p.1 ≠ L + 1 + 1 + 1 := fun p hp => Nat.ne_of_lt (Nat.lt_succ_of_lt (Nat.lt_succ_of_lt (Nat.lt_succ_of_lt (hfl p hp))))
  have f4 : ∀ p ∈ frs, p.1 ≠ L + 1 + 1 + 1 + 1 := fun p hp => Nat.ne_of_lt (Nat.lt_succ_of_lt (Nat.lt_succ_of_lt (Nat.lt_succ_of_lt (Nat.lt_succ_of_lt (hfl p hp)))))
  have f5 : ∀ p ∈ frs, p.1 ≠ L + 1 + 1 + 1 + 1 + 1 := fun p hp => Nat.ne_of_lt (Nat.lt_succ_of_lt (Nat.lt_succ_of_lt (Nat.lt_succ_of_lt (Nat.lt_succ_of_lt (Nat.lt_succ_of_lt (hfl p hp))))))
  ((try clear pk); (try clear pk))
  skip
  k_steps
  refine unpark ?_
  rename Fr _ _ _ _ => F2
  rename News _ _ _ _ => N2
  rename Obj => o2
  have ds2 : ∃ sz, o2.data = .cell (some (.int ((ws.length : Int) + 1) sz)) := ⟨_, by assumption⟩
  obtain ⟨szt, ds2⟩ := ds2
  have NC : News base L _ ((L + 1 + 1 + 1 + 1 + 1, oc) :: (L + 1 + 1 + 1 + 1, op) :: (L + 1 + 1 + 1, o2) :: (L + 1 + 1, ot) :: (L + 1, ow) :: frs) := N2
  obtain ⟨oL, esL, epL, hoL, hdL, rL⟩ := id F2.ns
  have NF2 : News base L _ frs := fun p hp => N2 p (.tail _ (.tail _ (.tail _ (.tail _ (.tail _ hp)))))
  have hLb : base.get? L = none := Heap.get?_none_of_le F2.above
  refine handed_c (l := _ :: l) (frs := (L, oL) :: frs) X' T' F2.keep (Around.frames_deeper hfr) ⟨⟨(by show ScopeKind.function ≠ ScopeKind.module; decide), rfl, ⟨esL, epL, hdL⟩, Fs.1⟩, fun p hp => by
    rcases List.mem_cons.mp hp with rfl | hp
    · exact ⟨hoL, hLb⟩
    · exact ⟨(NF2 p hp).1, (NF2 p hp).2.2⟩⟩ ?nd (by show A.handled = none; exact hh) (isB F2 hlwB) hiw (isB F2 hltB) hit hwl htl hir (by k_room) ?_
  case nd => exact List.nodup_cons.mpr ⟨fun q => by
    obtain ⟨p, hp, e⟩ := List.mem_map.mp q
    exact absurd (hfl p hp) (by rw [e]; exact Nat.lt_irrefl _), hfn⟩
  intro T lS sp sn spots refused frs2 h3 tk3 np HA SU keep3 there3 hT hlS nT nlS nTS isp
  have AG := hag spots refused np HA
  have ndL : (((L, oL) :: frs).map (·.1)).Nodup := List.nodup_cons.mpr ⟨fun q => by
    obtain ⟨p, hp, e⟩ := List.mem_map.mp q
    exact absurd (hfl p hp) (by rw [e]; exact Nat.lt_irrefl _), hfn⟩
  have P3 : Post _ h3 ([] ++ (L, oL) :: frs) ([] ++ frs2) := ⟨keep3, there3, fun p hp => .inl (by
    show p.1 ∈ ((L, oL) :: frs).map (·.1)
    rw [← sameUp_fst SU]; exact List.mem_map_of_mem hp), by
    show (frs2.map (·.1)).Nodup
    rw [sameUp_fst SU]; exact ndL⟩
  obtain ⟨oL', frsT, rfl, SU', F3, N3, nd3, _⟩ := Post.frame (objs := []) (new := []) F2 hoL NF2 P3 SU
  have hTL : T ≠ L := fun q => by rw [q, hoL] at nT; cases nT
  have hSL : lS ≠ L := fun q => by rw [q, hoL] at nlS; cases nlS
  have hb0 : ∀ {x : Addr}, Heap.get? _ x = none → base.get? x = none := fun {x} e => by
    cases q : base.get? x with
    | none => rfl
    | some o => rw [F2.keep _ _ q] at e; cases e
  have kc : ∀ c o, (c, o) ∈ (L + 1 + 1 + 1 + 1 + 1, oc) :: (L + 1 + 1 + 1 + 1, op) :: (L + 1 + 1 + 1, o2) :: (L + 1 + 1, ot) :: (L + 1, ow) :: frs → (∀ q ∈ frs, q.1 ≠ c) → h3.get? c = some o ∧ c ≠ L ∧ base.get? c = none := fun c o hc hq =>
    ⟨keep3 _ _ (fun q => by
      rcases List.mem_cons.mp q with e | q
      · exact (NC _ hc).2.1 e
      · obtain ⟨p, hp, e⟩ := List.mem_map.mp q
        exact hq p hp e) (NC _ hc).1, (NC _ hc).2⟩
  have N4 : News base L h3 ((T, tupOf #[.bool refused, .ref lS]) :: (lS, listOf sp.toArray sn) :: (L + 1 + 1 + 1 + 1 + 1, oc) :: (L + 1 + 1 + 1 + 1, op) :: (L + 1 + 1 + 1, o2) :: (L + 1 + 1, ot) :: (L + 1, ow) :: frsT) := fun p hp => by
    rcases List.mem_cons.mp hp with rfl | hp
    · exact ⟨hT, hTL, hb0 nT⟩
    rcases List.mem_cons.mp hp with rfl | hp
    · exact ⟨hlS, hSL, hb0 nlS⟩
    rcases List.mem_cons.mp hp with rfl | hp
    · exact kc _ _ (.head _) f5
    rcases List.mem_cons.mp hp with rfl | hp
    · exact kc _ _ (.tail _ (.head _)) f4
    rcases List.mem_cons.mp hp with rfl | hp
    · exact kc _ _ (.tail _ (.tail _ (.head _))) f3
    rcases List.mem_cons.mp hp with rfl | hp
    · exact kc _ _ (.tail _ (.tail _ (.tail _ (.head _)))) f2
    rcases List.mem_cons.mp hp with rfl | hp
    · exact kc _ _ (.tail _ (.tail _ (.tail _ (.tail _ (.head _))))) f1
    · exact N3 p hp
  have eF : frsT.map (·.1) = frs.map (·.1) := sameUp_fst SU'
  have g0 : ∀ p ∈ frsT, ∃ q ∈ frs, q.1 = p.1 := fun p hp => by
    have h1 := fst_mem hp
    rw [eF] at h1
    obtain ⟨q, hq, e⟩ := List.mem_map.mp h1
    exact ⟨q, hq, e⟩
  have g1 : ∀ p ∈ frsT, p.1 ≠ L + 1 + 1 + 1 + 1 + 1 ∧ p.1 ≠ L + 1 + 1 + 1 + 1 ∧ p.1 ≠ T ∧ p.1 ≠ lS := fun p hp => by
    obtain ⟨q, hq, e⟩ := g0 p hp
    refine ⟨by rw [← e]; exact f5 q hq, by rw [← e]; exact f4 q hq, fun k => ?_, fun k => ?_⟩
    · rw [← k, ← e, (NF2 q hq).1] at nT; cases nT
    · rw [← k, ← e, (NF2 q hq).1] at nlS; cases nlS
  have c1 : T ≠ L + 1 + 1 + 1 + 1 + 1 := fun q => by rw [q, (NC _ (.head _)).1] at nT; cases nT
  have c2 : T ≠ L + 1 + 1 + 1 + 1 := fun q => by rw [q, (NC _ (.tail _ (.head _))).1] at nT; cases nT
  have c3 : lS ≠ L + 1 + 1 + 1 + 1 + 1 := fun q => by rw [q, (NC _ (.head _)).1] at nlS; cases nlS
  have c4 : lS ≠ L + 1 + 1 + 1 + 1 := fun q => by rw [q, (NC _ (.tail _ (.head _))).1] at nlS; cases nlS
  have c5 : @Ne Addr (L + 1 + 1 + 1 + 1) (L + 1 + 1 + 1 + 1 + 1) := Ne.symm (Nat.succ_ne_self _)
  have c6 : @Ne Addr (L + 1 + 1 + 1) (L + 1 + 1 + 1 + 1) := Ne.symm (Nat.succ_ne_self _)
  have c7 : @Ne Addr (L + 1 + 1) (L + 1 + 1 + 1 + 1) := Nat.ne_of_lt (Nat.lt_succ_of_lt (Nat.lt_succ_self _))
  have c8 : @Ne Addr (L + 1) (L + 1 + 1 + 1 + 1) := Nat.ne_of_lt (Nat.lt_succ_of_lt (Nat.lt_succ_of_lt (Nat.lt_succ_self _)))
  have c9 : @Ne Addr (L + 1 + 1 + 1) (L + 1 + 1 + 1 + 1 + 1) := Nat.ne_of_lt (Nat.lt_succ_of_lt (Nat.lt_succ_self _))
  have ca : @Ne Addr (L + 1 + 1) (L + 1 + 1 + 1 + 1 + 1) := Nat.ne_of_lt (Nat.lt_succ_of_lt (Nat.lt_succ_of_lt (Nat.lt_succ_self _)))
  have cb : @Ne Addr (L + 1) (L + 1 + 1 + 1 + 1 + 1) := Nat.ne_of_lt (Nat.lt_succ_of_lt (Nat.lt_succ_of_lt (Nat.lt_succ_of_lt (Nat.lt_succ_self _))))
  have ga : ∀ p ∈ frsT, p.1 ≠ L + 1 + 1 + 1 + 1 := fun p hp => (g1 p hp).2.1
  have gb : ∀ p ∈ frsT, p.1 ≠ L + 1 + 1 + 1 + 1 + 1 := fun p hp => (g1 p hp).1
  clear N2 NC NF2 N3 keep3 P3 there3 hT hlS kc hag
  refine unpackN_ F3 N4 (News.isTup N4 (.head _)) (by show A.handled = none; exact hh) rfl rfl fun h5 F5 N5 => ?_
  clear F3 N4
  ((try clear pk); (try clear pk))
  k_steps
  rename Fr _ _ _ _ => F6
  rename News _ _ _ _ => N6
  rename_i op2 dp2
  have hspl : spots.length ≤ 7 := by
    have h1 := php2 (ws.length + 1) spots AG.nodup fun x hx => by
      have := hir x (AG.sub x hx)
      exact ⟨this.1, by have := this.2; push_cast; omega⟩
    omega
  have hspi := isp.length
  refine LCg.CompSrc.ledger (by show A.handled = none; exact hh) F6 N6 (.tail _ (.head _)) (by rw [sizeLine_eq, List.size_toArray]; omega)
    (fun g => restU (fun i ys => IntsAre ys ((spots.take i).map fun x => (carAt ts x : Int))) (.inr ⟨_, .tail _ (.head _), rfl, _, rfl⟩) .nil ?_ ?_)
  · intro ys hys
    unfold LCg.FinE
    intro D h8 tk8 F8 N8 o8
    rw [show spots.take sp.toArray.size = spots from by rw [List.size_toArray, hspi, List.take_length]] at hys
    have hysl := hys.length
    rw [List.length_map] at hysl
    clear F6 N6
    have d1 : D ≠ L + 1 + 1 + 1 + 1 + 1 := Ne.symm (off1_mem o8 _ (.tail _ (.tail _ (.head _))))
    ((try clear pk); (try clear pk))
    k_steps
    refine unpark ?_
    rename IsRange _ _ _ _ _ _ _ _ => hR10
    rename Fr _ _ _ _ => F10
    rename News _ _ _ _ => N10
    rename Obj => oc2
    have dc2 : oc2.data = .cell (some (.ref D)) := by assumption
    refine kll_range (n := ws.length) (by show A.handled = none; exact hh) F10 N10 hR10 (small_one (by decide) (by decide) (by omega) (by omega)) (by rw [rangeSize_nat]; simp) (by omega) ?_
    intro lr us cr h11 tk11 F11 N11 lt11 ius
    have eR : rangeKs 0 ws.length = rng ws.length := by
      unfold rangeKs
      exact List.map_congr_left fun i _ => Int.zero_add _
    rw [eR] at ius
    have hcm : (spots.map fun x => (carAt ts x : Int)).length ≤ 7 := by rw [List.length_map]; exact hspl
    have usl := ius.length
    rw [List.length_map, List.length_range] at usl
    clear F10 N10 hR10
    ((try clear pk); (try clear pk))
    skip
    k_steps
    refine unpark ?_
    rename Fr _ _ _ _ => F12
    rename News _ _ _ _ => N12
    rename_i D2 cs2 h12' i12 l12 c12
    have lt12 := l9
    clear l9
    obtain ⟨oL2, esL2, epL2, hoL2, hdL2, rL2⟩ := id F12.ns
    have q1 : lr ≠ D2 := Nat.ne_of_lt lt12.1
    have q2 := lt12.2
    have fD : ∀ p ∈ frsT, p.1 ≠ D2 := ne_of_allLt lt12.2.2.2.2.2.2.2.2.2
    have NF12 : News base L _ frsT := fun p hp => N12 p (.tail _ (.tail _ (.tail _ (.tail _ (.tail _ (.tail _ (.tail _ (.tail _ (.tail _ (.tail _ hp))))))))))
    have hfnT : (frsT.map (·.1)).Nodup := by rw [eF]; exact hfn
    have hLf : L ∉ frsT.map (·.1) := fun q => by
      obtain ⟨p, hp, e⟩ := List.mem_map.mp q
      exact (NF12 p hp).2.1 e
    have hcl : (spots.map fun x => (carAt ts x : Int)).length ≤ 63 := by rw [List.length_map]; omega
    refine uld_c (l := _ :: l) (frs := (L, oL2) :: frsT) X' T' F12.keep (Around.frames_deeper hfr) ⟨⟨(by show ScopeKind.function ≠ ScopeKind.module; decide), rfl, ⟨esL2, epL2, hdL2⟩, Fs.1.up SU'⟩, fun p hp => by
      rcases List.mem_cons.mp hp with rfl | hp
      · exact ⟨hoL2, hLb⟩
      · exact ⟨(NF12 p hp).1, (NF12 p hp).2.2⟩⟩ (by show A.handled = none; exact hh) (N12 _ (.tail _ (.head _))).1 (N12 _ (.tail _ (.head _))).2.2 (N12 _ (.head _)).1 (N12 _ (.head _)).2.2 q1 ius i12 (by rw [List.length_map, List.length_range]; omega) hcl (by k_room) ?_
    intro lt2 lm mi mn ai an frs3 h13 tk13 P
    obtain ⟨oL3, frsU, rfl, SU3, F13, N13, hoL3, new13⟩ := uld_frame (frs := frsT) F12 hoL2 (fun p hp => by
      rcases List.mem_cons.mp hp with rfl | hp
      · exact N12 _ (.tail _ (.head _))
      rcases List.mem_cons.mp hp with rfl | hp
      · exact N12 _ (.head _)
      · exact NF12 p hp) fD hfnT P
    have kept : ∀ x o, (x, o) ∈ (D, LCg.lst ys) :: (T, tupOf #[.bool refused, .ref lS]) :: (lS, listOf sp.toArray sn) :: (L + 1 + 1 + 1 + 1 + 1, oc2) :: (L + 1 + 1 + 1 + 1, op2) :: (L + 1 + 1 + 1, o2) :: (L + 1 + 1, ot) :: (L + 1, ow) :: frsT → x ≠ D2 → (∀ p ∈ frsT, p.1 ≠ x) → h13.get? x = some o ∧ x ≠ L ∧ base.get? x = none := fun x o hx hD hf =>
      ⟨P.keep x o (fun q => by
        rcases List.mem_cons.mp q with q | q
        · exact absurd q (Nat.ne_of_lt (lt11 _ hx))
        rcases List.mem_cons.mp q with q | q
        · exact hD q
        rcases List.mem_cons.mp q with q | q
        · exact (N12 _ (.tail _ (.tail _ hx))).2.1 q
        · obtain ⟨p, hp, e⟩ := List.mem_map.mp q
          exact hf p hp e) (N12 _ (.tail _ (.tail _ hx))).1, (N12 _ (.tail _ (.tail _ hx))).2⟩
    have gf : ∀ p ∈ frsT, p.1 ≠ L + 1 ∧ p.1 ≠ L + 1 + 1 ∧ p.1 ≠ L + 1 + 1 + 1 := fun p hp => by
      obtain ⟨q, hq, e⟩ := g0 p hp
      rw [← e]; exact ⟨f1 q hq, f2 q hq, f3 q hq⟩
    have N14 : News base L h13 ((lt2, tupOf #[.ref lm, .ref D2]) :: (lm, listOf mi.toArray mn) :: (D2, listOf ai.toArray an) :: (D, LCg.lst ys) :: (lS, listOf sp.toArray sn) :: (L + 1 + 1 + 1 + 1 + 1, oc2) :: (L + 1 + 1 + 1 + 1, op2) :: (L + 1 + 1 + 1, o2) :: (L + 1 + 1, ot) :: (L + 1, ow) :: frsU) := fun p hp => by
      rcases List.mem_cons.mp hp with rfl | hp
      · exact N13 _ (.head _)
      rcases List.mem_cons.mp hp with rfl | hp
      · exact N13 _ (.tail _ (.head _))
      rcases List.mem_cons.mp hp with rfl | hp
      · exact N13 _ (.tail _ (.tail _ (.head _)))
      rcases List.mem_cons.mp hp with rfl | hp
      · exact kept _ _ (.head _) (Nat.ne_of_lt q2.1) fun p hp => off1_mem o8 p (.tail _ (.tail _ (.tail _ (.tail _ (.tail _ (.tail _ (.tail _ hp)))))))
      rcases List.mem_cons.mp hp with rfl | hp
      · exact kept _ _ (.tail _ (.tail _ (.head _))) (Nat.ne_of_lt q2.2.2.1) fun p hp => (g1 p hp).2.2.2
      rcases List.mem_cons.mp hp with rfl | hp
      · exact kept _ _ (.tail _ (.tail _ (.tail _ (.head _)))) (Nat.ne_of_lt q2.2.2.2.1) fun p hp => (g1 p hp).1
      rcases List.mem_cons.mp hp with rfl | hp
      · exact kept _ _ (.tail _ (.tail _ (.tail _ (.tail _ (.head _))))) (Nat.ne_of_lt q2.2.2.2.2.1) fun p hp => (g1 p hp).2.1
      rcases List.mem_cons.mp hp with rfl | hp
      · exact kept _ _ (.tail _ (.tail _ (.tail _ (.tail _ (.tail _ (.head _)))))) (Nat.ne_of_lt q2.2.2.2.2.2.1) fun p hp => (gf p hp).2.2
      rcases List.mem_cons.mp hp with rfl | hp
      · exact kept _ _ (.tail _ (.tail _ (.tail _ (.tail _ (.tail _ (.tail _ (.head _))))))) (Nat.ne_of_lt q2.2.2.2.2.2.2.1) fun p hp => (gf p hp).2.1
      rcases List.mem_cons.mp hp with rfl | hp
      · exact kept _ _ (.tail _ (.tail _ (.tail _ (.tail _ (.tail _ (.tail _ (.tail _ (.head _)))))))) (Nat.ne_of_lt q2.2.2.2.2.2.2.2.1) fun p hp => (gf p hp).1
      · exact N13 p (.tail _ (.tail _ (.tail _ hp)))
    have keepS : ∀ b o, b ∉ frs.map (·.1) → s.heap.get? b = some o → base.get? b = some o := fun b o hb e => by rw [← hbase]; exact hideAll_get _ e hb
    have SUX : TI.SameUp frs frsU := SU'.trans SU3
    have mis := P.misInts
    obtain rfl : ai = [] := by have h1 := P.actInts; rw [AG.over] at h1; cases h1; rfl
    clear F12 N12 N13 kept gf P new13 q2 fD NF12 hfnT hLf hcl rL2 hdL2 hoL2 lt12 l12 c12 q1 lt11 eR usl ius d1 o8 ga gb g1 g0 eF f1 f2 f3 f4 f5 c1 c2 c3 c4 c5 c6 c7 c8 c9 ca cb hb0 nT nlS nTS hTL hSL ndL nd3 SU hoL hdL rL hoL3 hbase hLL hfn hfl hLb dp ds hlt hlw hH K' Fs HA
    refine unpackN_ F13 N14 (News.isTup N14 (.head _)) (by show A.handled = none; exact hh) rfl rfl fun h15 F15 N15 => ?_
    clear F13 N14
    ((try clear pk); (try clear pk))
    have pk : PkAt 0 := trivial
    k_steps
    refine unpark ?_
    rename Fr _ _ _ _ => F16
    rename News _ _ _ _ => N16
    refine mid_cut F16 N16 ?_ fun h17 tk17 F17 N17 => ?_
    · have hr := AG.ref
      have hmu := AG.must
      generalize (uldR (rng ws.length).reverse (spots.map fun x => (carAt ts x : Int)) []).1 = LK at mis hr
      clear AG hret keepS hir htl hit hiw hys isp
      cases LK with
      | nil =>
        obtain rfl : refused = false := hr
        obtain rfl : mi = [] := by cases mis; rfl
        ((try clear pk); (try clear pk))
        k_steps
        all_goals (rename Fr _ _ _ _ => fE; rename News _ _ _ _ => nE; exact ⟨_, _, rfl, fE, fun p hp => nE p (.tail _ (.tail _ hp))⟩)
      | cons a lk =>
        obtain rfl : refused = true := hr
        obtain rfl : must = false := by cases must with
          | false => rfl
          | true => exact nomatch hmu rfl
        ((try clear pk); (try clear pk))
        k_steps
        all_goals first
          | exact absurd (by assumption : (true != !decide (a :: lk = [])) = true) (by simp)
          | (rename Fr _ _ _ _ => fE; rename News _ _ _ _ => nE; exact ⟨_, _, rfl, fE, fun p hp => nE p (.tail _ (.tail _ hp))⟩)
    · clear F16 N16
      ((try clear pk); (try clear pk))
      k_steps
      rename IsRange _ _ _ _ _ _ _ _ => hR18
      rename_i F18 N18 K18
      rw [List.length_map] at hR18
      refine LCg.CompSrc.range (n := spots.length) (by show A.handled = none; exact hh) F18 N18 hR18 (small_one (by decide) (by decide) (by omega) (by omega)) (by rw [rangeSize_nat]; simp) (by rw [sizeLine_eq]; omega)
        (fun g => restU (fun i zs => IntsAre zs (spots.take i)) trivial .nil ?_ ?_)
      · intro zs hzs
        clear F18 N18 K18 hR18
        unfold LCg.FinE
        intro Z h20 tk20 F20 N20 o20
        rw [List.take_length] at hzs
        ((try clear pk); (try clear pk))
        k_steps
        rotate_left
        · exact absurd rfl (by assumption : ¬ spots = spots)
        · have mil := mis.length
          have lkl := uldR_len (rng ws.length).reverse (spots.map fun x => (carAt ts x : Int)) []
          rw [List.length_reverse, List.length_map, List.length_range, List.length_nil] at lkl
          refine LCt.ListComp_T (F₀ := F20) (by with_unfolding_all rfl) (by decide) (by rfl) (by decide) (by rfl) ?_
          ((try clear pk); (try clear pk))
          k_steps
          refine LCt.CompSrcT.ledger (by show A.handled = none; exact hh) F20 N20 (.tail _ (.tail _ (.head _))) (by rw [sizeLine_eq, List.size_toArray]; omega)
            (fun g2 => restT (fun i ys => ys = []) (.inr ⟨_, .tail _ (.tail _ (.head _)), rfl, _, rfl⟩) rfl ?_ ?_)
          · intro zz hzz
            subst hzz
            clear F20 N20 hzs AG mis
            unfold LCg.FinE
            intro Z2 h24 tk24 F24 N24 o24
            ((try clear pk); (try clear pk))
            k_steps
            rename Fr _ _ _ _ => fE
            rename News _ _ _ _ => nE
            exact hret frsU _ _ SUX (fun b o hb e => fE.keep b o (keepS b o hb e)) fun p hp => (nE p (by repeat first | exact hp | apply List.mem_cons_of_mem)).1
          · clear F20 N20 hzs o20 keepS SUX SU3 SU' hret
            intro i zz v I oI C oC Z2 m2 h24 tk24 E24 hi hv hJ24 hC24 hx24 F24 N24 off24 ne24
            subst hJ24
            rw [List.size_toArray, mil] at hi
            obtain ⟨t, ht⟩ := mis.get i _ (List.getElem?_eq_getElem hi)
            obtain ⟨c, wv, tv, hc, hwc, htc, hn1, hn2⟩ := AG.lack _ (List.getElem_mem hi)
            rw [hc] at ht
            obtain rfl : v = .int (c : Int) t := by
              rw [List.getElem?_toArray] at hv
              rw [ht] at hv
              exact (Option.some.inj hv).symm
            have hwi : ws[((c : Nat) : Int).toNat]? = some wv := by rw [Int.toNat_natCast]; exact hwc
            have hti : ts[((c : Nat) : Int).toNat]? = some tv := by rw [Int.toNat_natCast]; exact htc
            clear hv ht hc mis mil lkl hi AG
            ((try clear pk); (try clear pk))
            k_steps
            refine unpark ?_
            rename Fr _ _ _ _ => F25
            rename News _ _ _ _ => N25
            refine stands_c X' T' (fun b o e => F25.keep b o e) (isL N25 (.tail _ (.tail _ (.tail _ (.tail _ (.tail _ (.tail _ (.tail _ (.tail _ (.head _))))))))) ) isp (by omega) hn1 (by k_room) fun t9 h26 tk26 K26 => ?_
            have F27 := fr_keeps F25 K26
            have N27 := news_keeps N25 K26
            clear F25 N25 K26
            ((try clear pk); (try clear pk))
            k_steps
            · exact absurd (by assumption) hn2
            · rename News _ _ _ _ => nE
              exact cend (by assumption) nE rfl
      · clear F18 N18 K18 hR18 keepS SUX SU3 SU' mis hret
        intro i zs v I oI C oC Z m2 h20 tk20 E20 hi hv hJ20 hC20 hx20 F20 N20 off20 ne20
        obtain ⟨tv, rfl⟩ := hv
        rw [Int.zero_add] at hx20
        have hxs : spots[i]? = some spots[i] := List.getElem?_eq_getElem hi
        obtain ⟨wv, hwv, hst⟩ := AG.stands i _ hxs
        have hci : (spots.map fun x => (carAt ts x : Int))[((i : Nat) : Int).toNat]? = some (carAt ts spots[i] : Int) := by rw [Int.toNat_natCast, List.getElem?_map, hxs]; rfl
        have hwi : ws[((carAt ts spots[i] : Nat) : Int).toNat]? = some wv := by rw [Int.toNat_natCast]; exact hwv
        have hcl : carAt ts spots[i] < ws.length := (List.getElem?_eq_some_iff.mp hwv).1
        have hno : stands (spots.take i) wv ((ws.length : Int) + 1) ∉ spots.take i := by
          rw [hst]
          intro q
          obtain ⟨j, hj⟩ := List.getElem?_of_mem q
          rw [List.getElem?_take] at hj
          split at hj
          · rename_i hji; exact absurd (nd_get AG.nodup hj hxs) (Nat.ne_of_lt hji)
          · cases hj
        have hsl : (spots.map fun x => (carAt ts x : Int)).length = spots.length := List.length_map ..
        ((try clear pk); (try clear pk))
        skip
        k_steps
        refine unpark ?_
        rename Fr _ _ _ _ => F21
        rename News _ _ _ _ => N21
        rename_i D9 ws9 h9 I9 e9 e9b ta
        rw [Int.toNat_natCast] at I9
        refine stands_c X' T' (fun b o e => F21.keep b o e) (isL N21 (.head _)) I9 (by omega) hno (by k_room) fun t9 h22 tk22 K22 => ?_
        have F23 := fr_keeps F21 K22
        have N23 := news_keeps N21 K22
        clear F21 N21 K22
        ((try clear pk); (try clear pk))
        k_steps
        rename News _ _ _ _ => nE
        refine cend (by assumption) (fun p hp => nE p (.tail _ hp)) ?_
        rw [List.take_add_one, hxs, hst]
        exact ints_snoc hJ20 _ _
  · clear F6 N6 c1 c2 c3 c4 c5 c6 c7 c8 c9 ca cb ga gb g1 g0 f1 f2 f3 f4 f5 eF SU SU' nd3 rL hdL hoL HA nT nlS hTL hSL hb0 hret hH hfl hlwB hiw
    intro i ys v I oI C oC D m2 h9 tk9 E9 hi hv hJ9 hC9 hx9 F9 N9 off9 ne9
    have hi' : i < spots.length := by rw [List.size_toArray] at hi; omega
    obtain ⟨t, ht⟩ := isp.get i spots[i] (List.getElem?_eq_getElem hi')
    obtain rfl : v = .int spots[i] t := by
      rw [List.getElem?_toArray] at hv
      rw [ht] at hv
      exact (Option.some.inj hv).symm
    ((try clear pk); (try clear pk))
    have pk : PkAt 1 := trivial
    k_steps
    refine unpark ?_
    refine method_B (F9.keep _ _ hltb) PySem.F.slot_list_index PySem.F.type_list_index ?_
    ((try clear pk); (try clear pk))
    have pk : PkAt 2 := trivial
    k_steps
    refine unpark ?_
    refine index_B (F9.keep _ _ hltb) hit (AG.sub _ (List.getElem_mem hi')) (by omega) ?_
    ((try clear pk); (try clear pk))
    k_steps
    rename News _ _ _ _ => nE
    refine cend (by assumption) nE ?_
    rw [List.take_add_one, List.getElem?_eq_getElem hi', List.map_append]
    exact ints_snoc hJ9 _ _
end agrees_cC
section
variable {w : World} {mean : ExcName → Option Value} {mg mb : Str → Option Value} {A : Around} {hb : Heap} {s : Shared} {Q E : Value → Shared → Prop}
theorem agrees_c {lw lt : Addr} {wi ti : List Value} {wn tn : Nat} {ws ts : List Int} {free : Int} {ft : Tok} {must : Bool} {l : List Env} {frs : List (Addr × Obj)} (X : (hd.heap_1 w.params).In hb) (T : Top hd.view_1 (looseW hd.view_1 [Str.ofString "_NodeInfo"]) mean mg mb hb) (St : hb.StaysIn s.heap)
   (hfr : A.frames = some l) (Fs : FrsIn hb s.heap l frs) (hfn : (frs.map (·.1)).Nodup) (hh : A.handled = none)
   (hlw : s.heap.get? lw = some (listOf wi.toArray wn)) (hiw : IntsAre wi ws) (hlt : s.heap.get? lt = some (listOf ti.toArray tn)) (hit : IntsAre ti ts) (hwl : ws.length ≤ 6) (htl : ts.length = ws.length)
   (hir : ∀ x ∈ ts, 0 ≤ x ∧ x < (ws.length : Int) + 1) (hd : A.depth + 22 < recursionLimit) (hun : A.units ≤ 10)
   (hag : ∀ spots refused np, Handed ((buildV ((ws.length : Int) + 1) free [] (ws.zip ts)).map (·.1)) (succAt (buildV ((ws.length : Int) + 1) free [] (ws.zip ts))) spots refused np → Agreed ws ts spots refused must)
    (hret : ∀ frs' h' tk', TI.SameUp frs frs' → (∀ b o, b ∉ frs.map (·.1) → s.heap.get? b = some o → h'.get? b = some o) → (∀ p ∈ frs', h'.get? p.1 = some p.2) → Q (.bool true) { s with heap := h', toks := tk' }) :
    wpAny (model PySem.Challenge.rw_oh0070_01.row.prog w) A (call (.ref 207) [.ref lw, .ref lt, .int free ft, .bool must]) Q E s := by
  refine Classical.byContradiction fun hz9 => ?_
  exact @Classical.epsilon_spec agrees_cP (fun x => ¬ agrees_cS x) ⟨⟨w, mean, mg, mb, A, hb, s, Q, E, lw, lt, wi, ti, wn, tn, ws, ts, free, ft, l, frs⟩, fun zz9 => hz9 (zz9 must X T St hfr Fs hfn hh hlw hiw hlt hit hwl htl hir hd hun hag hret)⟩ agrees_cC.key
end
end Part_M17
section Part_C1
theorem anew_C1 : True := by k_with_none; w_top off; trivial
section
variable {M : Model} {A : Around} {E : Value → Shared → Prop} {s : Shared}
/-- a block's namespace with one cell of its own -/
theorem newEnv_one {scope : Scope} {globals : Addr} {cl : List (Str × Addr)} {qual : Str} {env : Env} {x : Str} {Q : Env → Shared → Prop}
    (hone : ∀ k acc, cellsFrom k scope.names acc = (x, k) :: acc) (hpush : ∀ h, pushCells h scope.names = h.push { cls := .type "cell", data := .cell none })
    (hQ : Q (newEnv scope s.heap.objs.size globals ((x, s.heap.objs.size + 1) :: cl) qual none .none (some env) builtinsNs)
      { s with heap := (s.heap.push { cls := .type "dict", data := .dict #[] }).push { cls := .type "cell", data := .cell none } }) :
    wpAny M A (newFunctionEnv scope globals cl [] qual none .none (some env)) Q E s := by
  simp only [newFunctionEnv, Option.isSome_some, if_true]
  refine wpAny_bind (wpAny_alloc ?_)
  refine wpAny_bind (wpAny_layCells _ (fun name kind cells => by cases hkc : kind == NameKind.cell <;> simp [hkc]) _ _ _ _ ?_)
  rw [hone, hpush, List.forIn_nil]
  rw [show ({ s with heap := s.heap.push { cls := .type "dict", data := .dict #[] } } : Shared).heap.objs.size = s.heap.objs.size + 1 from Heap.size_push ..]
  exact wpAny_bind (wpAny_pure (wpAny_pure hQ))
end
theorem lookup_relabel_cell {env : Env} : ∀ {names : List (Str × NameKind)} {x : Str}, names.lookup x = some .cell →
    (names.map fun (n, k) => if (k == NameKind.free && env.scope.kind == .function && env.kindOf n == some .cell) then (n, NameKind.cell) else (n, k)).lookup x = some .cell
  | [], _, h => by simp at h
  | (n, k) :: r, x, h => by
    have ih := @lookup_relabel_cell env r x
    show List.lookup x ((if (k == NameKind.free && env.scope.kind == .function && env.kindOf n == some .cell) = true then (n, NameKind.cell) else (n, k)) :: _) = _
    cases hx : x == n with
    | true =>
      simp only [List.lookup_cons, hx] at h
      cases h
      simp [List.lookup_cons, hx]
    | false =>
      simp only [List.lookup_cons, hx] at h
      by_cases hc : (k == NameKind.free && env.scope.kind == .function && env.kindOf n == some .cell) = true
      · rw [if_pos hc]; simp only [List.lookup_cons, hx]; exact ih h
      · rw [if_neg hc]; simp only [List.lookup_cons, hx]; exact ih h
noncomputable def Off4 (I C K D : Addr) (news : List (Addr × Obj)) : Prop := ∀ p ∈ news, p.1 ≠ I ∧ p.1 ≠ C ∧ p.1 ≠ K ∧ p.1 ≠ D
noncomputable def CellSrc (prog : Program) (w : World) (A : Around) (h₀ : Heap) (L : Addr) (m : Str → Option Value) (env : Env) (elt : Expr) (x : Str) (scope : Scope) (cl : List (Str × Addr)) (Q : Value → Shared → Prop) (xv : Value) (s₁ : Shared) : Prop := ∃ (r : Addr) (a b : Int) (t u v : Tok) (n : Nat) (news : List (Addr × Obj)) (J : Nat → List Value → Prop), xv = .ref r ∧ A.handled = none ∧ Fr h₀ L s₁.heap m ∧ News h₀ L s₁.heap news ∧
      IsRange s₁.heap r a b 1 t u v ∧ Builtin.Range.small a b 1 = true ∧ Builtin.Range.rangeSize a b 1 = ((n : Nat) : Int) ∧ n ≤ sizeLine ∧ J 0 [] ∧
      (∀ i ys I oI C oC K oK D h tk t (E' : Value → Shared → Prop), i < n → J i ys → oK.data = .cell (some (.int (a + (i : Int)) t)) → Fr h₀ L h m → News h₀ L h ((I, oI) :: (C, oC) :: (K, oK) :: (D, LCg.lst ys) :: news) → Off4 I C K D news → (I ≠ C ∧ I ≠ K ∧ I ≠ D) → (C ≠ K ∧ C ≠ D ∧ K ≠ D) →
        wpAny (model prog w) A (eval elt (compEnvC scope ((x, K) :: cl) C env)) (fun y s₃ => CEnd h₀ L m s₁ ((I, oI) :: (C, oC) :: (K, oK) :: (D, LCg.lst ys) :: news) (J (i + 1) (ys ++ [y])) s₃) E' { s₁ with heap := h, toks := tk }) ∧
      (∀ ys D h tk, J n ys → Fr h₀ L h m → News h₀ L h ((D, LCg.lst ys) :: news) → (∀ p ∈ news, p.1 ≠ D) → Q (.ref D) { s₁ with heap := h, toks := tk })
section
variable {prog : Program} {w : World} {A : Around} {E : Value → Shared → Prop} {s : Shared} {h₀ : Heap} {L : Addr} {m : Str → Option Value} {env : Env}
end
noncomputable abbrev comp_cellP := (Program) × (World) × (Around) × (Value → Shared → Prop) × (Shared) × (Heap) × (Addr) × (Str → Option Value) × (Env) × (Expr) × (Expr) × (Str) × (Pos) × (Scope) × (List (Str × Addr)) × (Pos) × (Value → Shared → Prop)
noncomputable def comp_cellS : comp_cellP → Prop := fun p => (fun (prog : Program) (w : World) (A : Around) (E : Value → Shared → Prop) (s : Shared) (h₀ : Heap) (L : Addr) (m : Str → Option Value) (env : Env) (elt : Expr) (iter : Expr) (x : Str) (px : Pos) (scope : Scope) (cl : List (Str × Addr)) (pos : Pos) (Q : Value → Shared → Prop) => ∀ (hclos : closureFor scope env = pure cl)
   (hone : ∀ k acc, cellsFrom k scope.names acc = (x, k) :: acc)
   (hpush : ∀ h, pushCells h scope.names = h.push { cls := .type "cell", data := .cell none })
   (hkind : scope.kind = .function)
   (hnames : ∀ y ∈ scope.names, y.2 = .local → scope.names.lookup y.1 = some .local)
   (hx : scope.names.lookup x = some .cell)
   (h : wpAny (model prog w) A (eval iter env) (CellSrc prog w A h₀ L m env elt x scope cl Q) E s)
   (hs : ∀ x, foldedSetIterable iter env x = pure x),
    wpAny (model prog w) A (eval (.ListComp elt [⟨.Name x px, iter, [], 0⟩] scope pos) env) Q E s) p.1 p.2.1 p.2.2.1 p.2.2.2.1 p.2.2.2.2.1 p.2.2.2.2.2.1 p.2.2.2.2.2.2.1 p.2.2.2.2.2.2.2.1 p.2.2.2.2.2.2.2.2.1 p.2.2.2.2.2.2.2.2.2.1 p.2.2.2.2.2.2.2.2.2.2.1 p.2.2.2.2.2.2.2.2.2.2.2.1 p.2.2.2.2.2.2.2.2.2.2.2.2.1 p.2.2.2.2.2.2.2.2.2.2.2.2.2.1 p.2.2.2.2.2.2.2.2.2.2.2.2.2.2.1 p.2.2.2.2.2.2.2.2.2.2.2.2.2.2.2.1 p.2.2.2.2.2.2.2.2.2.2.2.2.2.2.2.2
noncomputable def comp_cellX : comp_cellP := @Classical.epsilon comp_cellP ⟨⟨default, ⟨fun _ _ => 0, { strHash := fun _ => 0, shareClass := fun _ => 0, mergeTok := fun t => t, idOf := fun _ => 0, idOfShared := fun _ _ => 0, followText := fun _ => false, idOfImm := fun _ => 0 }⟩, callerA, fun _ _ => True, {}, {}, 0, fun _ => none, default, default, default, ⟨#[]⟩, default, default, [], default, fun _ _ => True⟩⟩ fun x => ¬ comp_cellS x
namespace comp_cellC
noncomputable def prog : Program := comp_cellX.1
noncomputable def w : World := comp_cellX.2.1
noncomputable def A : Around := comp_cellX.2.2.1
noncomputable def E : Value → Shared → Prop := comp_cellX.2.2.2.1
noncomputable def s : Shared := comp_cellX.2.2.2.2.1
noncomputable def h₀ : Heap := comp_cellX.2.2.2.2.2.1
noncomputable def L : Addr := comp_cellX.2.2.2.2.2.2.1
noncomputable def m : Str → Option Value := comp_cellX.2.2.2.2.2.2.2.1
noncomputable def env : Env := comp_cellX.2.2.2.2.2.2.2.2.1
noncomputable def elt : Expr := comp_cellX.2.2.2.2.2.2.2.2.2.1
noncomputable def iter : Expr := comp_cellX.2.2.2.2.2.2.2.2.2.2.1
noncomputable def x : Str := comp_cellX.2.2.2.2.2.2.2.2.2.2.2.1
noncomputable def px : Pos := comp_cellX.2.2.2.2.2.2.2.2.2.2.2.2.1
noncomputable def scope : Scope := comp_cellX.2.2.2.2.2.2.2.2.2.2.2.2.2.1
noncomputable def cl : List (Str × Addr) := comp_cellX.2.2.2.2.2.2.2.2.2.2.2.2.2.2.1
noncomputable def pos : Pos := comp_cellX.2.2.2.2.2.2.2.2.2.2.2.2.2.2.2.1
noncomputable def Q : Value → Shared → Prop := comp_cellX.2.2.2.2.2.2.2.2.2.2.2.2.2.2.2.2
theorem key : ∀ (hclos : closureFor scope env = pure cl)
   (hone : ∀ k acc, cellsFrom k scope.names acc = (x, k) :: acc)
   (hpush : ∀ h, pushCells h scope.names = h.push { cls := .type "cell", data := .cell none })
   (hkind : scope.kind = .function)
   (hnames : ∀ y ∈ scope.names, y.2 = .local → scope.names.lookup y.1 = some .local)
   (hx : scope.names.lookup x = some .cell)
   (h : wpAny (model prog w) A (eval iter env) (CellSrc prog w A h₀ L m env elt x scope cl Q) E s)
   (hs : ∀ x, foldedSetIterable iter env x = pure x),
    wpAny (model prog w) A (eval (.ListComp elt [⟨.Name x px, iter, [], 0⟩] scope pos) env) Q E s := by
  intro hclos hone hpush hkind hnames hx h hs
  rw [eval_ListComp]
  refine wpAny_comprehension_free (use := none) rfl hs hclos hkind hnames (wpAny_mono h (fun xv s₁ h₁ => ?_) fun _ _ e => e)
  obtain ⟨r, a, b, t, u, v, n, news, J, rfl, hh, F, N, hr, hsm, hn, hsz, h0, turn, fin⟩ := h₁
  refine wpAny_pyIter_range hr hsm ?_
  have W := LCg.range_walks (prog := prog) (w := w) (I := s₁.heap.objs.size) hh a n
  generalize hI : s₁.heap.objs.size = I at W ⊢
  obtain ⟨H1, hH1⟩ : ∃ H1, H1 = s₁.heap.push { cls := .type "range_iterator", data := .fields #[rawInt a, rawInt (Builtin.Range.rangeSize a b 1), rawInt 1] } := ⟨_, rfl⟩
  rw [← hH1]
  have hz1 : H1.objs.size = I + 1 := by rw [hH1, Heap.size_push, hI]
  refine wpAny_newObj_type (newEnv_one hone hpush ?_)
  dsimp only
  generalize hH2 : H1.push { cls := .type "list", dict := none, data := .seq ([] : List Value).toArray } = H2
  have hz2 : H2.objs.size = I + 1 + 1 := by rw [← hH2, Heap.size_push, hz1]
  rw [hz1, hz2]
  generalize hH3 : (H2.push { cls := .type "dict", data := .dict #[] }).push { cls := .type "cell", data := .cell none } = H3
  have up1 : ∀ b o, s₁.heap.get? b = some o → H1.get? b = some o := fun b o e => by rw [hH1]; exact Heap.get?_push_of_some _ e
  have up2 : ∀ b o, H1.get? b = some o → H3.get? b = some o := fun b o e => by rw [← hH3, ← hH2]; exact Heap.get?_push_of_some _ (Heap.get?_push_of_some _ (Heap.get?_push_of_some _ e))
  have up : ∀ b o, s₁.heap.get? b = some o → H3.get? b = some o := fun b o e => up2 b o (up1 b o e)
  have eI : IsRangeIter H3 I (a + ((0 : Nat) : Int) * 1) ((n : Int) - ((0 : Nat) : Int)) 1 := by
    refine up2 _ _ ?_
    rw [hH1, ← hI]
    have e := Heap.get?_push_size s₁.heap (o := { cls := .type "range_iterator", data := .fields #[rawInt a, rawInt (Builtin.Range.rangeSize a b 1), rawInt 1] }) rfl
    rw [hn] at e
    rw [hn]
    simpa using e
  have eD : H3.get? (I + 1) = some (LCg.lst []) := by
    rw [← hH3, ← hH2, ← hz1]
    exact Heap.get?_push_of_some _ (Heap.get?_push_of_some _ (Heap.get?_push_size _ rfl))
  have eC : H3.Ns (I + 1 + 1) (fun _ => none) := by
    have h1 := Heap.Ns.new H2 (.type "dict")
    rw [hz2] at h1
    rw [← hH3]
    exact h1.keeps fun b o e => Heap.get?_push_of_some _ e
  have eK : H3.get? (I + 1 + 1 + 1) = some { cls := .type "cell", data := .cell none } := by
    have e : (H2.push { cls := .type "dict", data := .dict #[] }).objs.size = I + 1 + 1 + 1 := by rw [Heap.size_push, hz2]
    rw [← hH3, ← e]
    exact Heap.get?_push_size _ rfl
  have fresh : ∀ c : Nat, I ≤ c → h₀.get? c = none := fun c hc => by
    cases q : h₀.get? c with
    | none => rfl
    | some o =>
      have h1 := Heap.lt_size (F.keep c o q)
      rw [hI] at h1
      exact absurd h1 (Nat.not_lt.mpr hc)
  have hLI : @LT.lt Nat _ L I := by rw [← hI]; exact F.ns.lt
  have offN : ∀ p ∈ news, @LT.lt Nat _ p.1 I := fun p hp => by rw [← hI]; exact Heap.lt_size (N p hp).1
  have off4 : Off4 I (I + 1 + 1) (I + 1 + 1 + 1) (I + 1) news := fun p hp => by
    have h1 := offN p hp
    exact ⟨Nat.ne_of_lt h1, Nat.ne_of_lt (Nat.lt_succ_of_lt (Nat.lt_succ_of_lt h1)), Nat.ne_of_lt (Nat.lt_succ_of_lt (Nat.lt_succ_of_lt (Nat.lt_succ_of_lt h1))), Nat.ne_of_lt (Nat.lt_succ_of_lt h1)⟩
  have nIL : I ≠ L := Ne.symm (Nat.ne_of_lt hLI)
  have nDL : (I + 1 : Addr) ≠ L := Ne.symm (Nat.ne_of_lt (Nat.lt_succ_of_lt hLI))
  have nCL : (I + 1 + 1 : Addr) ≠ L := Ne.symm (Nat.ne_of_lt (Nat.lt_succ_of_lt (Nat.lt_succ_of_lt hLI)))
  have nKL : (I + 1 + 1 + 1 : Addr) ≠ L := Ne.symm (Nat.ne_of_lt (Nat.lt_succ_of_lt (Nat.lt_succ_of_lt (Nat.lt_succ_of_lt hLI))))
  have nIC : @Ne Addr I (I + 1 + 1) := Nat.ne_of_lt (Nat.lt_succ_of_lt (Nat.lt_succ_self _))
  have nIK : @Ne Addr I (I + 1 + 1 + 1) := Nat.ne_of_lt (Nat.lt_succ_of_lt (Nat.lt_succ_of_lt (Nat.lt_succ_self _)))
  have nID : @Ne Addr I (I + 1) := Nat.ne_of_lt (Nat.lt_succ_self _)
  have nCK : @Ne Addr (I + 1 + 1) (I + 1 + 1 + 1) := Nat.ne_of_lt (Nat.lt_succ_self _)
  have nCD : @Ne Addr (I + 1 + 1) (I + 1) := Ne.symm (Nat.ne_of_lt (Nat.lt_succ_self _))
  have nKD : @Ne Addr (I + 1 + 1 + 1) (I + 1) := Ne.symm (Nat.ne_of_lt (Nat.lt_succ_of_lt (Nat.lt_succ_self _)))
  have F3 : Fr h₀ L H3 m := F.keeps up
  have N3 : News h₀ L H3 news := N.grown up
  have iI : h₀.get? I = none := fresh I (Nat.le_refl _)
  have iD : h₀.get? (I + 1) = none := fresh _ (Nat.le_succ _)
  have iC : h₀.get? (I + 1 + 1) = none := fresh _ (Nat.le_succ_of_le (Nat.le_succ _))
  have iK : h₀.get? (I + 1 + 1 + 1) = none := fresh _ (Nat.le_succ_of_le (Nat.le_succ_of_le (Nat.le_succ _)))
  clear fresh offN hLI up up1 up2 hH1 hH2 hH3 hz1 hz2
  generalize hD : (I + 1 : Addr) = D at *
  generalize hC : (D + 1 : Addr) = C at *
  generalize hK : (C + 1 : Addr) = K at *
  have loop : ∀ s₃ : Shared, s₃ = { s₁ with heap := H3 } →
      codeAny (model prog w) A (.compLoop (.ListComp elt [⟨.Name x px, iter, [], 0⟩] scope pos) 0 (.ref I) (.ref D) (compEnvC scope ((x, K) :: cl) C env))
        (compPost (model prog w) A E none Q (.ref D) C) s₃ := by
    rintro s₃ rfl
    refine codeAny_compLoop_tests
      (fun k s' => ∃ h' tk i ys m' oK v', s' = { s₁ with heap := h', toks := tk } ∧ i ≤ n ∧ k = n + 1 - i ∧ ys.length = i ∧ IsRangeIter h' I (a + (i : Nat) * 1) ((n : Int) - (i : Nat)) 1 ∧ Fr h₀ L h' m ∧ h'.Ns C m' ∧ oK.data = .cell v' ∧
        News h₀ L h' ((K, oK) :: (D, LCg.lst ys) :: news) ∧ J i ys) ?_ (n + 1)
      ⟨H3, _, 0, [], _, { cls := .type "cell", data := .cell none }, none, rfl, Nat.zero_le _, rfl, rfl, eI, F3, eC, rfl, fun p hp => ?_, h0⟩
    · rintro k s' ⟨h', tk, i, ys, m', oK, v', rfl, hi, rfl, hyl, hit, F', hn', hdK, N', hJ⟩
      by_cases hlt : i < n
      · refine W.item i _ _ _ hlt hit fun vv h₂ tk₂ hPv hst₂ hk₂ => ?_
        obtain ⟨t', rfl⟩ := hPv
        have up₂ : ∀ b o, b ≠ I → h'.get? b = some o → h₂.get? b = some o := fun b o hb e => hk₂ b o (by simpa using hb) e
        have F2 : Fr h₀ L h₂ m := ⟨F'.ns.at' fun o e => up₂ _ o (Ne.symm nIL) e, fun b o e => up₂ b o (fun q => by rw [q, iI] at e; cases e) (F'.keep b o e), F'.above⟩
        have hcell : h₂.IsCell K v' := ⟨oK, up₂ _ _ (Ne.symm nIK) (N' _ (.head _)).1, hdK⟩
        refine wpAny_assign_Name (wpAny_storeName_cell (c := K) (by simp [compEnvC, relabel, hkind]) (lookup_relabel_cell hx) (by simp [compEnvC]) hcell (fun h₃ hc₃ hs₃ => ?_))
        replace hs₃ : Heap.SameBut K h₂ h₃ := hs₃
        refine wpAny_tests_nil ?_
        simp only [if_true]
        obtain ⟨oK3, hoK3, hdK3⟩ := hc₃
        have F₃ : Fr h₀ L h₃ m := F2.change hs₃ nKL iK
        have n2 : h₂.Ns C m' := hn'.at' fun o e => up₂ _ o (Ne.symm nIC) e
        have n3 : h₃.Ns C m' := n2.sameBut hs₃ nCK
        obtain ⟨oC, heC, hoC⟩ := LCg.ns_obj n3
        have eI3 : h₃.get? I = some _ := hs₃.extBut _ _ nIK hst₂
        have N₃ : ∀ oI, h₃.get? I = some oI → News h₀ L h₃ ((I, oI) :: (C, oC) :: (K, oK3) :: (D, LCg.lst ys) :: news) := fun oI e p hp => by
          rcases List.mem_cons.mp hp with rfl | hp
          · exact ⟨e, nIL, iI⟩
          rcases List.mem_cons.mp hp with rfl | hp
          · exact ⟨heC, nCL, iC⟩
          rcases List.mem_cons.mp hp with rfl | hp
          · exact ⟨hoK3, nKL, iK⟩
          rcases List.mem_cons.mp hp with rfl | hp
          · exact ⟨hs₃.extBut _ _ (Ne.symm nKD) (up₂ _ _ (Ne.symm nID) (N' _ (.tail _ (.head _))).1), nDL, iD⟩
          · have o4 := off4 p hp
            exact ⟨hs₃.extBut _ _ o4.2.2.1 (up₂ _ _ o4.1 (N' p (.tail _ (.tail _ hp))).1), (N' p (.tail _ (.tail _ hp))).2⟩
        refine wpAny_mono (turn i ys I _ C oC K oK3 D h₃ _ t' _ hlt hJ hdK3 F₃ (N₃ _ eI3) off4 ⟨nIC, nIK, nID⟩ ⟨nCK, nCD, nKD⟩) (fun y s₄ h₄ => ?_) fun _ _ e => e
        obtain ⟨hJ', h₄, tk₄, rfl, F₄, N₄⟩ := h₄
        have zI := (N₄ _ (.head _)).1
        have zC := (N₄ _ (.tail _ (.head _))).1
        have zK := (N₄ _ (.tail _ (.tail _ (.head _)))).1
        have zD := (N₄ _ (.tail _ (.tail _ (.tail _ (.head _))))).1
        refine append_at (hsz := by show ys.toArray.size ≤ sizeLine; rw [List.size_toArray, hyl]; exact Nat.le_trans hi hsz) zD fun h₅ hs₅ hD₅ => ?_
        refine ⟨n + 1 - (i + 1), by omega, h₅, tk₄, i + 1, ys ++ [y], _, oK3, _, rfl, hlt, rfl, by rw [List.length_append, List.length_singleton, hyl], hs₅.extBut _ _ nID zI, F₄.change hs₅ nDL iD,
          (hoC.ns zC).sameBut hs₅ nCD, hdK3, fun p hp => ?_, hJ'⟩
        rcases List.mem_cons.mp hp with rfl | hp
        · exact ⟨hs₅.extBut _ _ nKD zK, nKL, iK⟩
        rcases List.mem_cons.mp hp with rfl | hp
        · exact ⟨hD₅.trans (congrArg some (LCg.lst_snoc ys y)), nDL, iD⟩
        · have o4 := off4 p hp
          exact ⟨hs₅.extBut _ _ o4.2.2.2 (N₄ p (.tail _ (.tail _ (.tail _ (.tail _ hp))))).1, (N₄ p (.tail _ (.tail _ (.tail _ (.tail _ hp))))).2⟩
      · obtain rfl : i = n := Nat.le_antisymm hi (Nat.not_lt.mp hlt)
        refine W.done _ _ _ hit fun h₂ tk₂ hk₂ => ?_
        have up₂ : ∀ b o, b ≠ I → h'.get? b = some o → h₂.get? b = some o := fun b o hb e => hk₂ b o (by simpa using hb) e
        have F2 : Fr h₀ L h₂ m := ⟨F'.ns.at' fun o e => up₂ _ o (Ne.symm nIL) e, fun b o e => up₂ b o (fun q => by rw [q, iI] at e; cases e) (F'.keep b o e), F'.above⟩
        have n2 : h₂.Ns C m' := hn'.at' fun o e => up₂ _ o (Ne.symm nIC) e
        refine ⟨m', n2, fun h'' hs'' => fin ys D h'' tk₂ hJ (F2.change hs'' nCL iC) (fun p hp => ?_) fun p hp => (off4 p hp).2.2.2⟩
        rcases List.mem_cons.mp hp with rfl | hp
        · exact ⟨hs''.extBut _ _ (Ne.symm nCD) (up₂ _ _ (Ne.symm nID) (N' _ (.tail _ (.head _))).1), nDL, iD⟩
        · have o4 := off4 p hp
          exact ⟨hs''.extBut _ _ o4.2.1 (up₂ _ _ o4.1 (N' p (.tail _ (.tail _ hp))).1), (N' p (.tail _ (.tail _ hp))).2⟩
    · rcases List.mem_cons.mp hp with rfl | hp
      · exact ⟨eK, nKL, iK⟩
      rcases List.mem_cons.mp hp with rfl | hp
      · exact ⟨eD, nDL, iD⟩
      · exact N3 p hp
  exact codeAny_compStart_list (loop _ rfl) (W.self 0 _ _ _ eI (loop _ rfl))
end comp_cellC
section
variable {dmy : Nat}
theorem comp_cell {prog : Program} {w : World} {A : Around} {E : Value → Shared → Prop} {s : Shared} {h₀ : Heap} {L : Addr} {m : Str → Option Value} {env : Env} {elt iter : Expr} {x : Str} {px : Pos} {scope : Scope} {cl : List (Str × Addr)} {pos : Pos} {Q : Value → Shared → Prop}
    (hclos : closureFor scope env = pure cl) (hone : ∀ k acc, cellsFrom k scope.names acc = (x, k) :: acc) (hpush : ∀ h, pushCells h scope.names = h.push { cls := .type "cell", data := .cell none })
    (hkind : scope.kind = .function) (hnames : ∀ y ∈ scope.names, y.2 = .local → scope.names.lookup y.1 = some .local) (hx : scope.names.lookup x = some .cell)
    (h : wpAny (model prog w) A (eval iter env) (CellSrc prog w A h₀ L m env elt x scope cl Q) E s)
    (hs : ∀ x, foldedSetIterable iter env x = pure x := by intro _; rfl) :
    wpAny (model prog w) A (eval (.ListComp elt [⟨.Name x px, iter, [], 0⟩] scope pos) env) Q E s := by
  refine Classical.byContradiction fun hz9 => ?_
  exact @Classical.epsilon_spec comp_cellP (fun x => ¬ comp_cellS x) ⟨⟨prog, w, A, E, s, h₀, L, m, env, elt, iter, x, px, scope, cl, pos, Q⟩, fun zz9 => hz9 (zz9 hclos hone hpush hkind hnames hx h hs)⟩ comp_cellC.key
end
section
variable {prog : Program} {w : World} {A : Around} {E : Value → Shared → Prop} {s : Shared} {h₀ : Heap} {L : Addr} {m : Str → Option Value} {env : Env}
end
end Part_C1
section Part_S1
theorem anew_S1 : True := by k_with_none; w_top off; trivial
/-- a property of all ends of a sort's tree; all that it asks lies in range -/
noncomputable def KAll {α : Type} (n : Nat) (P : α → Prop) : KasT α → Prop
  | .ret a => P a
  | .ask i j k => i < n ∧ j < n ∧ ∀ b, KAll n P (k b)
theorem KAll.bind {α β : Type} {n : Nat} {P : α → Prop} {P' : β → Prop} {f : α → KasT β} (hf : ∀ a, P a → KAll n P' (f a)) : ∀ {t : KasT α}, KAll n P t → KAll n P' (t.bind f)
  | .ret a, h => hf a h
  | .ask _ _ k, h => ⟨h.1, h.2.1, fun b => KAll.bind hf (h.2.2 b)⟩
theorem KAll.wp {α : Type} {n : Nat} {P : α → Prop} {cmp : Nat → Nat → (Bool → Shared → Prop) → Shared → Prop} {Q : α → Shared → Prop} {s : Shared} (hc : ∀ i j (C : Bool → Shared → Prop), i < n → j < n → (∀ b, C b s) → cmp i j C s) (hQ : ∀ a, P a → Q a s) :
    ∀ {t : KasT α}, KAll n P t → t.kasWp cmp Q s
  | .ret a, h => hQ a h
  | .ask i j k, h => hc i j _ h.1 h.2.1 fun b => KAll.wp hc hQ (h.2.2 b)
noncomputable def SOk (n : Nat) (p : Array Nat) : Prop := p.toList.Perm (List.range n)
theorem SOk.get {n : Nat} {p : Array Nat} (h : SOk n p) (hn : 0 < n) (i : Nat) : p.getD i 0 < n := by
  by_cases hi : i < p.size
  · have e : p.getD i 0 = p[i] := by simp [Array.getD, hi]
    rw [e]
    have h1 : p[i] ∈ p.toList := by simp
    exact List.mem_range.mp (h.mem_iff.mp h1)
  · have e : p.getD i 0 = 0 := by simp [Array.getD, hi]
    rw [e]; exact hn
theorem SOk.rev {n : Nat} {p : Array Nat} (h : SOk n p) (i j : Nat) : SOk n (kas_rev p i j) := (Array.perm_iff_toList_perm.mp (mirror_perm p i j _)).trans h
theorem SOk.bub {n : Nat} {p : Array Nat} (h : SOk n p) (i j : Nat) : SOk n (bubble p i j) := (Array.perm_iff_toList_perm.mp (bubble_perm p i j)).trans h
section
variable {n : Nat} (hn : 0 < n)
include hn
theorem sasc {p : Array Nat} (h : SOk n p) : ∀ (f m : Nat), KAll n (fun _ => True) (kas_asc p f m)
  | 0, m => trivial
  | f + 1, m => ⟨h.get hn _, h.get hn _, fun b => by
    cases b
    · exact sasc h f (m + 1)
    · exact trivial⟩
theorem sdesc : ∀ (f : Nat) {p : Array Nat} (m q : Nat), SOk n p → KAll n (fun r : Array Nat × Nat × Nat => SOk n r.1) (kas_desc f p m q)
  | 0, p, m, q, h => h
  | f + 1, p, m, q, h => ⟨h.get hn _, h.get hn _, fun b => by
    cases b
    · refine ⟨h.get hn _, h.get hn _, fun d => ?_⟩
      cases d
      · exact sdesc f _ _ h
      · exact h
    · show KAll n _ (if q > 0 then kas_desc f (kas_rev p (m - (q + 1)) m) (m + 1) 0 else kas_desc f p (m + 1) 0)
      by_cases hq : q > 0
      · rw [if_pos hq]; exact sdesc f _ _ (h.rev _ _)
      · rw [if_neg hq]; exact sdesc f _ _ h⟩
theorem stail {p : Array Nat} (h : SOk n p) (m nrem : Nat) : KAll n (fun r : Nat × Array Nat => SOk n r.2) (kas_tail3 m nrem p) :=
  KAll.bind (P := fun _ => True) (P' := fun r : Nat × Array Nat => SOk n r.2) (f := fun z => .ret (z, kas_rev p 0 m)) (fun _ _ => h.rev 0 m) (sasc hn (h.rev _ _) _ _)
theorem sdpart {p : Array Nat} (h : SOk n p) (m nrem : Nat) : KAll n (fun r : Nat × Array Nat => SOk n r.2) (kas_descPart m nrem p) :=
  KAll.bind (P := fun r : Array Nat × Nat × Nat => SOk n r.1) (P' := fun r : Nat × Array Nat => SOk n r.2) (fun r hr => by
    by_cases hq : r.2.2 > 0
    · rw [if_pos hq]; exact stail hn (SOk.rev hr _ _) _ _
    · rw [if_neg hq]; exact stail hn hr _ _) (sdesc hn _ _ _ h)
theorem scount {p : Array Nat} (h : SOk n p) (nrem : Nat) : KAll n (fun r : Nat × Array Nat => SOk n r.2) (kas_count nrem p) :=
  KAll.bind (P := fun _ => True) (P' := fun r : Nat × Array Nat => SOk n r.2) (fun m _ => by
    by_cases h1 : (m == nrem) = true
    · rw [if_pos h1]; exact h
    · rw [if_neg h1]
      by_cases h2 : m > 1
      · rw [if_pos h2]
        refine ⟨h.get hn _, h.get hn _, fun b => ?_⟩
        cases b
        · exact sdpart hn (h.rev _ _) _ _
        · exact h
      · rw [if_neg h2]; exact sdpart hn h _ _) (sasc hn h _ _)
theorem splace {p : Array Nat} (h : SOk n p) (k : Nat) : ∀ (f l r : Nat), KAll n (fun _ => True) (kas_place p k f l r)
  | 0, l, r => trivial
  | f + 1, l, r => by
    unfold kas_place
    by_cases h1 : l ≥ r
    · rw [if_pos h1]; exact trivial
    · rw [if_neg h1]
      refine ⟨h.get hn _, h.get hn _, fun b => ?_⟩
      cases b
      · exact splace h k f _ _
      · exact splace h k f _ _
theorem sbin : ∀ (f : Nat) {p : Array Nat} (k : Nat), SOk n p → KAll n (SOk n) (kas_bin f p k)
  | 0, p, k, h => h
  | f + 1, p, k, h => KAll.bind (P := fun _ => True) (P' := SOk n) (fun l _ => sbin f _ (h.bub _ _)) (splace hn h k _ _ _)
theorem ssort : KAll n (SOk n) (kas_sort n) :=
  KAll.bind (P := fun r : Nat × Array Nat => SOk n r.2) (P' := SOk n) (fun r hr => by
    by_cases h1 : r.1 < n
    · rw [if_pos h1]; exact sbin hn _ _ hr
    · rw [if_neg h1]; exact hr) (scount hn (show SOk n (List.toArray (List.range n)) from List.Perm.refl _) n)
end
theorem sout {n : Nat} {p : Array Nat} {vs : List Value} (h : SOk n p) (hv : vs.length = n) : (p.toList.map fun i => vs.getD i Value.none).Perm vs := by
  have e : (List.range n).map (fun i => vs.getD i Value.none) = vs := by
    refine List.ext_getElem (by simp [hv]) fun i h1 h2 => ?_
    simp [h2]
  have h1 := List.Perm.map (fun i => vs.getD i Value.none) h
  rw [e] at h1
  exact h1
/-- a tuple of two ints in the heap -/
noncomputable def PairAt (h : Heap) (v : Value) : Prop := ∃ a x y t u n, v = .ref a ∧ h.get? a = some { cls := .type "tuple", data := .seq #[.int x t, .int y u] n }
section
variable {prog : Program} {w : World} {A : Around} {E : Value → Shared → Prop} {s : Shared} {h₀ : Heap} {L l : Addr} {m : Str → Option Value} {news : List (Addr × Obj)} {vs : List Value}
theorem pair_lt {a c : Value} (ha : PairAt s.heap a) (hc : PairAt s.heap c) {Q : Bool → Shared → Prop} (h : ∀ b, Q b s) : wpAny (model prog w) A (keyLt' (tuples' true) a c) Q E s := by
  obtain ⟨a, x, y, t, u, n, rfl, hx⟩ := ha
  obtain ⟨c, x', y', t', u', n', rfl, hy⟩ := hc
  refine kat_lt hx rfl hy rfl (kat_cons (wpAny_eqBool_int (kat_go (fun _ => kat_yes (kat_cons (wpAny_eqBool_int (kat_go (fun _ => kat_yes (kat_nil (h _))) fun _ => kat_no ?_)))) fun _ => kat_no ?_)))
  · refine kat_one _ _ (wpAny_lt_int ?_)
    exact h _
  · exact oneLt_int (h _)
theorem pair_firsts {h : Heap} : ∀ {vs : List Value}, (∀ v ∈ vs, PairAt h v) → ∃ fs, KatTups h vs fs ∧ fs.length = vs.length ∧ ∀ f ∈ fs, ∃ x t, f = .int x t
  | [], _ => ⟨[], trivial, rfl, fun f hf => nomatch hf⟩
  | v :: vs, hv => by
    obtain ⟨fs, h1, h2, h3⟩ := pair_firsts fun z hz => hv z (.tail _ hz)
    obtain ⟨a, x, y, t, u, n, rfl, hx⟩ := hv v (.head _)
    refine ⟨.int x t :: fs, KatTups.cons hx rfl rfl rfl h1, by simp [h2], fun f hf => ?_⟩
    rcases List.mem_cons.mp hf with rfl | hf
    · exact ⟨x, t, rfl⟩
    · exact h3 f hf
theorem sort_short {a : Addr} {n : Nat} {P : PySem.Fin → Shared → Prop} (F : Fr h₀ L s.heap m) (N : News h₀ L s.heap news) (ho : s.heap.get? a = some (seqObj "list" vs.toArray n)) (haL : a ≠ L) (ha0 : h₀.get? a = none) (hna : ∀ p ∈ news, p.1 ≠ a)
    (h2 : vs.length < 2) (h : ∀ h' c, Fr h₀ L h' m → News h₀ L h' ((a, listOf vs.toArray c) :: news) → P (.done (.ret .none)) { s with heap := h' }) :
    wpAny (model prog w) A (Builtin.«list.sort» ⟨[.ref a], []⟩) P E s := by
  have ha : a < s.heap.objs.size := Heap.lt_size ho
  have s1 := Heap.SameBut.update s.heap a (Obj.mapSeq fun _ => (#[] : Array Value))
  obtain ⟨e1, ho1⟩ : ∃ e1, (s.heap.update a (Obj.mapSeq fun _ => (#[] : Array Value))).get? a = some (seqObj "list" #[] e1) := ⟨_, get?_update_seq ho fun _ => #[]⟩
  have F3 : Fr h₀ L (((s.heap.update a (Obj.mapSeq fun _ => (#[] : Array Value))).push (seqObj "tuple" vs.toArray 0)).push (seqObj "list" #[] 0)) m := ((kas_fr F s1 haL ha0).push _).push _
  have N3 : News h₀ L (((s.heap.update a (Obj.mapSeq fun _ => (#[] : Array Value))).push (seqObj "tuple" vs.toArray 0)).push (seqObj "list" #[] 0)) news :=
    (kas_news N s1 hna).grown fun b x e => Heap.get?_push_of_some _ (Heap.get?_push_of_some _ e)
  have ho3 := Heap.get?_push_of_some (seqObj "list" #[] 0) (Heap.get?_push_of_some (seqObj "tuple" vs.toArray 0) ho1)
  rw [list_sort_plain]
  refine wpAny_bind (listItems_at ho rfl ?_)
  refine wpAny_bind (listUpdate_at ho rfl ?_ (by rw [List.size_toArray, sizeLine_eq]; omega) (Nat.zero_le _))
  refine wpAny_bind (seqEpoch_at ho1 rfl ?_)
  refine wpAny_bind (wpAny_newTuple ?_ (by show vs.length ≤ _; rw [sizeLine_eq]; omega))
  refine wpAny_bind (wpAny_newList ?_ (Nat.zero_le _))
  refine wpAny_holding ?_
  show wpAny (model prog w) A _ P E { s with heap := ((s.heap.update a (Obj.mapSeq fun _ => (#[] : Array Value))).push (seqObj "tuple" vs.toArray 0)).push (seqObj "list" #[] 0) }
  have hn2 : vs.toArray.size < 2 := by rw [List.size_toArray]; exact h2
  rw [if_pos hn2, if_pos hn2]
  refine wpAny_bind (wpAny_pure ?_)
  refine wpAny_bind (wpAny_pure ?_)
  have s2 := Heap.SameBut.update (((s.heap.update a (Obj.mapSeq fun _ => (#[] : Array Value))).push (seqObj "tuple" vs.toArray 0)).push (seqObj "list" #[] 0)) a (Obj.mapSeq fun _ => vs.toArray)
  obtain ⟨c2, hc2⟩ : ∃ c2, ((((s.heap.update a (Obj.mapSeq fun _ => (#[] : Array Value))).push (seqObj "tuple" vs.toArray 0)).push (seqObj "list" #[] 0)).update a (Obj.mapSeq fun _ => vs.toArray)).get? a = some (seqObj "list" vs.toArray c2) := ⟨_, get?_update_seq ho3 fun _ => vs.toArray⟩
  have hout : (arrOf (SortSt.mk' general' (vs.toArray.zip vs.toArray) #[] 7 none)).map (·.2) = vs.toArray := by
    show (vs.toArray.zip vs.toArray).map (·.2) = vs.toArray
    apply Array.toList_inj.mp
    rw [Array.toList_map, Array.toList_zip]
    show (vs.zip vs).map Prod.snd = vs
    exact List.map_snd_zip (Nat.le_refl _)
  dsimp only
  rw [hout]
  refine wpAny_bind (seqEpoch_at ho3 rfl ?_)
  refine wpAny_bind (listUpdate_at ho3 rfl ?_ (Nat.zero_le _) (by rw [List.size_toArray, sizeLine_eq]; omega))
  simp only [bne_self_eq_false, Bool.false_eq_true, if_false]
  refine wpAny_pure (h _ c2 (kas_fr F3 s2 haL ha0) fun p hp => ?_)
  rcases List.mem_cons.mp hp with rfl | hp
  · exact ⟨hc2, haL, ha0⟩
  · exact ⟨(s2.2 _ (hna p hp)).trans (N3 p hp).1, (N3 p hp).2⟩
/-- the list of pairs, sorted: some order of them -/
theorem sorted_pairs {Q : Value → Shared → Prop} (F : Fr h₀ L s.heap m) (N : News h₀ L s.heap news) (hl : s.heap.IsList l vs.toArray) (hp : ∀ v ∈ vs, ∃ a x y t u n, v = .ref a ∧ (a, ({ cls := .type "tuple", data := .seq #[.int x t, .int y u] n } : Obj)) ∈ news) (h64 : vs.length < 64)
    (h : ∀ (D : Addr) (vs' : List Value) (c : Nat) (h' : Heap), Fr h₀ L h' m → News h₀ L h' ((D, listOf vs'.toArray c) :: news) → vs'.Perm vs → (∀ q ∈ news, q.1 < D) → Q (.ref D) { s with heap := h' }) :
    wpAny (model prog w) A (call (.builtin "sorted") [.ref l]) Q E s := by
  by_cases h2 : 2 ≤ vs.length
  · refine kat_sorted F N hl h2 h64 fun D e1 h' F' N' hlt => ?_
    have hp' : ∀ v ∈ vs, PairAt h' v := fun v hv => by
      obtain ⟨a, x, y, t, u, n, e, hm⟩ := hp v hv
      exact ⟨a, x, y, t, u, n, e, (N' _ (.tail _ hm)).1⟩
    obtain ⟨fs, h3, h4, h5⟩ := pair_firsts hp'
    refine kat_kind (T := .type "int") h3 (by omega) (fun f hf => ?_) (by decide) ?_
    · obtain ⟨x, t, rfl⟩ := h5 f hf
      exact .now
    · have n0 : 0 < vs.length := by omega
      refine KAll.wp (n := vs.length) (fun i j C hi hj hC => ?_) (fun p hq => ?_) (ssort n0)
      · have gi : vs.getD i Value.none ∈ vs := by
          have e : vs.getD i Value.none = vs[i] := by simp [hi]
          rw [e]; exact List.getElem_mem hi
        have gj : vs.getD j Value.none ∈ vs := by
          have e : vs.getD j Value.none = vs[j] := by simp [hj]
          rw [e]; exact List.getElem_mem hj
        exact pair_lt (hp' _ gi) (hp' _ gj) hC
      · refine KasFin.intro F' N' (UpdF.head (fun q hq => Nat.ne_of_lt (hlt q hq))) fun h'' c F'' N'' => ?_
        exact h D _ c h'' F'' N'' (sout hq rfl) hlt
  · refine Calls.call_function_entry kind_sorted plain_sorted entry_sorted (args_sorted1 _) ?_
    unfold Builtin.«sorted»
    refine wpAny_bind (m := checkCount "sorted" 1 1 _) (wpAny_pure ?_)
    refine wpAny_bind (collect_list hl ?_ (by rw [sizeLine_eq]; omega))
    refine wpAny_bind (wpAny_newList ?_ (by rw [sizeLine_eq]; omega))
    have hsz : ((s.heap.push (seqObj "list" #[] 0)).update s.heap.objs.size (Obj.mapSeq (· ++ vs.toArray))).objs.size = s.heap.objs.size + 1 := by
      rw [Heap.size_update, size_push']
    have hoL : (((s.heap.push (seqObj "list" #[] 0)).update s.heap.objs.size (Obj.mapSeq (· ++ vs.toArray))).push (seqObj "list" vs.toArray 0)).get? (s.heap.objs.size + 1) = some (seqObj "list" vs.toArray 0) := by
      rw [← hsz]; exact Heap.get?_push_size _ rfl
    have keep : ∀ b o, s.heap.get? b = some o → (((s.heap.push (seqObj "list" #[] 0)).update s.heap.objs.size (Obj.mapSeq (· ++ vs.toArray))).push (seqObj "list" vs.toArray 0)).get? b = some o := fun b o q => by
      have hlt : b < s.heap.objs.size := Heap.lt_size q
      rw [Heap.get?_push_ne _ _ _ (by rw [hsz]; exact Nat.ne_of_lt (Nat.lt_succ_of_lt hlt)), Heap.get?_update_ne _ _ _ _ (Nat.ne_of_lt hlt), Heap.get?_push_ne _ _ _ (Nat.ne_of_lt hlt)]
      exact q
    have hL : L < s.heap.objs.size := F.ns.lt
    show wpAny _ _ _ _ _ { s with heap := ((s.heap.push (seqObj "list" #[] 0)).update s.heap.objs.size (Obj.mapSeq (· ++ vs.toArray))).push (seqObj "list" vs.toArray 0) }
    rw [hsz]
    refine wpAny_bind (wpAny_holding (wpAny_call_entry slot_list_sort ⟨_, hoL, rfl⟩ entry_list_sort ?body (args_list_sort _)))
    case body =>
      refine sort_short (s := { s with heap := ((s.heap.push (seqObj "list" #[] 0)).update s.heap.objs.size (Obj.mapSeq (· ++ vs.toArray))).push (seqObj "list" vs.toArray 0) })
        (F.kept keep) (N.grown keep) hoL (Nat.ne_of_gt (Nat.lt_succ_of_lt hL)) (Heap.get?_none_of_le (Nat.le_trans F.above (Nat.le_succ_of_le (Nat.le_of_lt hL))))
        (fun p hp => Nat.ne_of_lt (Nat.lt_succ_of_lt (Heap.lt_size (N p hp).1))) (by omega) fun h' c F' N' => ?_
      exact ⟨_, rfl, wpAny_pure ⟨_, rfl, h _ vs c h' F' N' (List.Perm.refl _) fun q hq => Nat.lt_succ_of_lt (Heap.lt_size (N q hq).1)⟩⟩
end
end Part_S1
section Part_G1
theorem anew_G1 : True := by k_with_none; w_top off; trivial
section
variable {M : Model} {A : Around} {R : GenEnd} {Y : Protocol} {n : Nat} {s₀ : Shared} {c : Code} {fs : List Frame} {s : Shared} {env : Env}
  {K : Flow → Sem Fin} {H : Value → Sem Fin} {gd : Bool → Bool} {lv : List Value → List Value}
/-- what a loop's own activation hands back to the statement -/
noncomputable abbrev backK (env : Env) (K : Flow → Sem Fin) (H : Value → Sem Fin) (gd : Bool → Bool) (lv : List Value → List Value) : Result → Sem Fin :=
  fun r => ((match r with | .ok f => (.pure f : Sem Flow) | .error e => .raise e).onRaise fun (x : Value) => do
        if (← field x 1) == Value.none then unsupported "frame.own-activation:exception-without-traceback"
        setFlight x env.frame).wrap K H gd lv
theorem seg_If {test : Expr} {body orelse : List Stmt} {pos : Pos}
    (h : wpAny M (A.over c fs) (isTrue test env (eval test env)) (fun b s' => Seg M A R Y n s₀ c ((execs (if b = true then body else orelse) env).wrap K H gd lv) fs s') (fun x s' => Seg M A R Y n s₀ c (H x) fs s') s) :
    Seg M A R Y n s₀ c ((exec (.If test body orelse pos) env).wrap K H gd lv) fs s := by
  rw [exec_If]
  show Seg M A R Y n s₀ c (.at pos fun _ => ((isTrue test env (eval test env) >>= fun b => if b = true then execs body env else execs orelse env).wrap K H gd lv)) fs s
  refine seg_at ?_
  refine seg_bind_wrap (wpAny_mono h (fun b s' h' => ?_) fun _ _ x => x)
  cases b
  · exact h'
  · exact h'
theorem seg_For {target iter : Expr} {body orelse : List Stmt} {pos : Pos}
    (h : wpAny M (A.over c fs) (eval iter env) (fun x s₁ => wpAny M (A.over c fs) (pyIter x) (fun it s₂ =>
      ∀ p, Seg M A R Y n s₀ (.forLoop target it body orelse env) (M.den (.forLoop target it body orelse env)) (.ret (backK env K H gd lv) none (gd false) (lv []) c p [] :: fs) s₂)
        (fun x s' => Seg M A R Y n s₀ c (H x) fs s') s₁) (fun x s' => Seg M A R Y n s₀ c (H x) fs s') s)
    (hs : ∀ x, foldedSetIterable iter env x = pure x := by intro _; rfl) :
    Seg M A R Y n s₀ c ((exec (.For target iter body orelse pos) env).wrap K H gd lv) fs s := by
  rw [exec_For]
  refine seg_bind_wrap (wpAny_standAt ?_)
  refine seg_bind_wrap (wpAny_mono h (fun x s₁ h₁ => ?_) fun _ _ x => x)
  rw [hs x]
  refine seg_bind_wrap (wpAny_pure ?_)
  refine seg_bind_wrap (wpAny_standAt ?_)
  refine seg_bind_wrap (wpAny_holding (wpAny_mono h₁ (fun it s₂ h₂ => ?_) fun _ _ x => x))
  exact seg_call h₂
end
section
variable {prog : Program} {w : World} {A : Around} {R : GenEnd} {Y : Protocol} {n : Nat} {s₀ : Shared} {fs : List Frame} {s : Shared} {env : Env}
/-- what a for loop's turn does behind its body -/
noncomputable abbrev turnK (target : Expr) (it : Value) (body orelse : List Stmt) (env : Env) : Flow → Sem Fin := fun f => match f with
  | .next | .cont => .pure (.again (.forLoop target it body orelse env))
  | .brk => .pure (.done .next)
  | .ret v => .pure (.done (.ret v))
noncomputable abbrev turnH (env : Env) : Value → Sem Fin := fun e => (do noteFrame e env; theTreesLotGoes e : Sem Unit).wrap (fun _ => .raise e) .raise id id
theorem seg_forLoop {target : Expr} {it : Value} {body orelse : List Stmt}
    (h : wpAny (model prog w) (A.over (.forLoop target it body orelse env) fs) (pyNext it) (fun r s₁ => match r with
        | none => Seg (model prog w) A R Y n s₀ (.block orelse env) ((model prog w).den (.block orelse env)) fs s₁
        | some v => wpAny (model prog w) (A.over (.forLoop target it body orelse env) fs) (letOwnedTupleGo target it v) (fun _ s₂ =>
            wpAny (model prog w) (A.over (.forLoop target it body orelse env) fs) (assign target env v) (fun _ s₃ =>
              Seg (model prog w) A R Y n s₀ (.forLoop target it body orelse env) ((execs body env).wrap (turnK target it body orelse env) (turnH env) id id) fs s₃) (fun _ _ => False) s₂) (fun _ _ => False) s₁)
      (fun _ _ => False) s) :
    Seg (model prog w) A R Y n s₀ (.forLoop target it body orelse env) ((model prog w).den (.forLoop target it body orelse env)) fs s := by
  show Seg _ A R Y n s₀ _ ((forTurn target it body orelse env).onRaise (fun x => do noteFrame x env; theTreesLotGoes x)) fs s
  unfold forTurn
  rw [Sem.onRaise_eq_wrap]
  refine seg_bind_wrap (wpAny_standAt ?_)
  refine seg_bind_wrap (wpAny_onRaise (wpAny_mono h (fun r s₁ h₁ => ?_) fun _ _ x => x.elim))
  cases r with
  | none => exact seg_again rfl h₁
  | some v =>
    refine seg_bind_wrap (wpAny_mono h₁ (fun _ s₂ h₂ => ?_) fun _ _ x => x.elim)
    refine seg_bind_wrap (wpAny_mono h₂ (fun _ s₃ h₃ => ?_) fun _ _ x => x.elim)
    rw [Sem.bind_eq_wrap', Sem.wrap_wrap]
    rw [Sem.wrap_congr (execs body env) _ _ (K' := turnK target it body orelse env) (H' := turnH env) (fun f => by cases f <;> rfl)
        (fun e => by first | exact Sem.bind_eq_wrap _ _ | (show (do noteFrame e env; theTreesLotGoes e : Sem Unit).bind (fun _ => .raise e) = _; rw [Sem.bind_eq_wrap]))]
    exact h₃
theorem seg_block_nil (h : ∀ c, Seg (model prog w) A R Y n s₀ c (.pure (.done .next)) fs s) : Seg (model prog w) A R Y n s₀ (.block [] env) ((model prog w).den (.block [] env)) fs s := h _
end
end Part_G1
section Part_G2
theorem rules_G2 : True := by
  k_with_none
  w_top off
  k_with "newTuple cons" => refine parkAt (n := 0) (by with_reducible assumption) ?_
  k_with "m mine list" => first | exact isL (by k_asm) (by k_mem) | exact isB (by k_asm) (by assumption)
  k_with "m call builtin:len" => (k_here; (try dsimp only); (with_reducible show wpAny _ _ (call (Value.builtin "len") [Value.ref _]) _ _ _); k_dflt (refine' len_L ?zqk1 ?zqk3 ?zqk4 ?_; (case zqk1 => walk_at "mine list"); (case zqk3 => assumption); (case zqk4 => omega)))
  k_with "m subscriptTail" => (k_here; (try dsimp only); (with_reducible show wpAny _ _ (subscriptTail _ _ (Value.ref _) (Value.int _ _)) _ _ _); k_dflt (first | (refine' item_L ?zqk1 ?zqk3 ?zqk4 ?zqk5 ?zqk6 ?_ ?zqk8; (case zqk1 => walk_at "mine list"); (case zqk3 => assumption); (case zqk5 => with_reducible assumption); (case zqk4 => omega); (case zqk6 => omega); (case zqk8 => with_unfolding_all rfl); k_whole; intro t9) | (refine' out_L ?zqk0 ?zqk1 ?zqk3 ?zqk4 ?zqk5 ?_ ?zqk8; (case zqk0 => first | rfl | assumption); (case zqk1 => walk_at "mine list"); (case zqk3 => assumption); (case zqk4 => omega); (case zqk5 => omega); (case zqk8 => with_unfolding_all rfl); k_whole; intro h9 tk9 e9 x9)))
  k_with "m subscriptTail Name Name ref int" => (k_here; (try dsimp only); (with_reducible show wpAny _ _ (subscriptTail _ _ (Value.ref _) (Value.int _ _)) _ _ _); k_dflt (first | (refine' item_L ?zqk1 ?zqk3 ?zqk4 ?zqk5 ?zqk6 ?_ ?zqk8; (case zqk1 => walk_at "mine list"); (case zqk3 => assumption); (case zqk5 => with_reducible assumption); (case zqk4 => omega); (case zqk6 => omega); (case zqk8 => with_unfolding_all rfl); k_whole; intro t9) | (refine' out_L ?zqk0 ?zqk1 ?zqk3 ?zqk4 ?zqk5 ?_ ?zqk8; (case zqk0 => first | rfl | assumption); (case zqk1 => walk_at "mine list"); (case zqk3 => assumption); (case zqk4 => omega); (case zqk5 => omega); (case zqk8 => with_unfolding_all rfl); k_whole; intro h9 tk9 e9 x9) | (refine' out_over ?zqk0 ?zqkN ?zqkm ?zqkb ?zqk1 ?zqk3 ?zqk4 ?zqk5 ?_ ?zqk8; (case zqk0 => rfl); (case zqkN => k_asm); (case zqkm => k_mem); (case zqkb => assumption); (case zqk1 => walk_at "mine list"); (case zqk3 => assumption); (case zqk4 => omega); (case zqk5 => omega); (case zqk8 => with_unfolding_all rfl); k_whole; intro h9 tk9 e9 x9)))
  k_with "m subscriptTail Name Slice ref ref" => (k_here; k_dflt (refine' kmk_slice_ints ?zqF ?zqN ?zql ?zqpl ?zqpu ?zqhi ?zqhm rfl ?_ ?zqhs ?zqht ?zqhz; (case zqF => k_asm); (case zqN => k_asm); (case zql => walk_at "mine list"); (case zqpl => kmk_part); (case zqpu => kmk_part); (case zqhi => assumption); (case zqhm => first | (with_reducible refine kmk_from (by assumption) ?_; omega) | (with_reducible refine kmk_upto (by assumption) ?_; omega) | with_reducible exact kmk_all (by assumption)); (case zqhs => with_unfolding_all rfl); (case zqht => kmk_pure); (case zqhz => exact kmk_sz (by assumption) (by simp only [sizeLine_eq]; omega)); k_whole; intro D9 ws9 h9 F9 N9 l9 I9 e9 e9'; (try k_lt l9)))
  k_with "m call builtin:list.extend" => (k_here; k_dflt (refine' extend_L ?zqF ?zqN ?zqm ?zqU ?zqi1 ?zqi2 ?zqz ?_; (case zqF => k_asm); (case zqN => k_asm); (case zqU => k_upd); (case zqm => k_mem); (case zqi1 => walk_at "mine ints"); (case zqi2 => walk_at "mine ints"); (case zqz => walk_at "mine len"); k_whole; intro h9 F9 N9 I9))
  k_with "m mine len" => first | omega | (simp only [List.length_append, List.length_drop, List.length_take, List.length_nil, List.length_cons] at *; omega)
  k_with "m mine ints" => first | exact IntsAre.nil | assumption
  k_with "m compareOp In int ref" => (k_here; (try dsimp only); k_dflt (refine' in_L ?zqm ?zqi ?_; (case zqm => walk_at "mine list"); (case zqi => assumption)))
  trivial
section
variable (hb : Heap) (C Z : Addr) (x : Str)
noncomputable def GKeep (s₀ s : Shared) : Prop := ∃ h' tk, s = { s₀ with heap := h', toks := tk } ∧ ∀ b o, b ∉ [C, Z, Z + 1] → s₀.heap.get? b = some o → h'.get? b = some o
noncomputable def GR : GenEnd := fun n s₀ r s₁ => r = .ok (.ret .none) ∧ n = 0 ∧ GKeep C Z s₀ s₁
noncomputable def GY : Protocol := fun m s₀ v s κ => ∃ (own : List (Addr × Obj)) (T : Addr) (tt u : Tok) (c : Nat), own.map (·.1) = [C, Z, Z + 1] ∧ v = .ref T ∧ x.cps[x.cps.size - 1 - m]? = some c ∧
  s.heap.get? T = some (tupOf #[.int ((x.cps.size - 1 - m : Nat) : Int) tt, .str ⟨#[c]⟩ u]) ∧ s₀.heap.get? T = none ∧ T ∉ [C, Z, Z + 1] ∧ (∀ p ∈ own, s.heap.get? p.1 = some p.2) ∧ GKeep C Z s₀ s ∧
  ∀ s'' : Shared, (∀ p ∈ own, s''.heap.get? p.1 = some p.2) → hb.StaysIn s''.heap → κ (.send .none) s''
end
/-- the entry of a generator's def -/
theorem enter_gen {prog : Program} {w : World} {A : Around} {s : Shared} {hb : Heap} {K : Frag} {R : Result → Shared → Prop} {mg mb : Str → Option Value} {p : Program} {loose : List Str} {mean : ExcName → Option Value}
    {name qual : Str} {params : Arguments} {body : List Stmt} {scope : Scope} {dV kV doc pm cdv ct oc : Value} {an od : Option Addr} {osl : Array (Option Value)} {f : Addr} {args : Args} {binds : List (Str × Value)}
    (X : K.In hb) (T : Top p loose mean mg mb hb) (St : hb.StaysIn s.heap)
    (ho : K.lookup f = some ⟨oc, od, .func (fnOf name qual params body scope dV kV doc pm an cdv ct), osl⟩) (hcd : codeIn K cdv qual = true) (hroom : A.depth < recursionLimit)
    (hbind : BindsTo s (fnOf name qual params body scope dV kV doc pm an cdv ct) args binds) (hloc : ∀ y ∈ binds, scope.names.lookup y.1 = some .local)
    (h : ∀ C h₁ a tk, C = s.heap.objs.size → h₁.Ns C (fun y => binds.reverse.lookup y) → hb.get? C = none → (∀ b o, s.heap.get? b = some o → h₁.get? b = some o) → s.heap.get? a = none → a ≠ C → h₁.IsGen a s.gens.size → h₁.objs.size = a + 1 →
      R (.ok (.ret (.ref a))) { s with heap := h₁, toks := tk, gens := s.gens.push (.fresh (.func body (envOf qual scope C f cdv))) })
    (hco : scope.isCoroutine = false) (hgen : scope.isGenerator = true) (hk : scope.kind = .function)
    (hcell : ∀ x ∈ scope.names, x.2 ≠ .cell) : codeAny (model prog w) A (.call (.ref f) args) R s := by
  have Xs : K.In s.heap := X.keeps St
  refine codeAny_call_generator (fd := fnOf name qual params body scope dV kV doc pm an cdv ct) (body := body) hroom (Xs _ _ ho) rfl hco hgen rfl (codeRec_of Xs hcd) (hbind _ _ _ _ ?_)
  refine wpAny_newFunctionEnv hcell hloc (fun h₁ hns hsb => ⟨(T.nolimit.keeps St).fresh _ hsb, ?_⟩) hk
  have hsz : h₁.objs.size = s.heap.objs.size + 1 := by rw [hsb.1, Heap.size_push]
  have hk₁ : ∀ b o, s.heap.get? b = some o → h₁.get? b = some o := fun b o e => hsb.extBut b o (Nat.ne_of_lt (Heap.lt_size e)) (Heap.get?_push_of_some _ e)
  have hn0 : ∀ a, s.heap.objs.size ≤ a → s.heap.get? a = none := fun a ha => Heap.get?_none_of_le ha
  refine h _ _ _ _ rfl (hns.at' fun o e => Heap.get?_push_of_some _ e) ?_ (fun b o e => Heap.get?_push_of_some _ (hk₁ b o e)) (hn0 _ (by show s.heap.objs.size ≤ h₁.objs.size; rw [hsz]; exact Nat.le_succ _)) ?_ ⟨_, _, _, Heap.get?_push_size _ rfl, rfl, rfl, rfl⟩ (Heap.size_push _ _)
  · cases q : hb.get? s.heap.objs.size with
    | none => rfl
    | some o => exact absurd (Heap.lt_size (St _ _ q)) (Nat.lt_irrefl _)
  · show h₁.objs.size ≠ s.heap.objs.size
    rw [hsz]; exact Nat.succ_ne_self _
theorem GKeep.step {C Z : Addr} {s₀ s : Shared} (x : GKeep C Z s₀ s) {h' : Heap} {tk : Nat} (hk : ∀ b o, b ∉ [C, Z, Z + 1] → s.heap.get? b = some o → h'.get? b = some o) : GKeep C Z s₀ { s with heap := h', toks := tk } := by
  obtain ⟨h₁, tk₁, rfl, hk₁⟩ := x
  exact ⟨h', tk, rfl, fun b o hC e => hk b o hC (hk₁ b o hC e)⟩
theorem GKeep.refl (C Z : Addr) (s : Shared) : GKeep C Z s s := ⟨s.heap, s.toks, rfl, fun _ _ _ e => e⟩
theorem zz {b C Z : Addr} (q : b ∈ [Z + 1, Z]) : b ∈ [C, Z, Z + 1] := by
  rcases List.mem_cons.mp q with q | q
  · rw [q]; exact .tail _ (.tail _ (.head _))
  · rw [List.mem_singleton.mp q]; exact .tail _ (.head _)
theorem seg_rec {M : Model} {A : Around} {R : GenEnd} {Y : Protocol} {c : Code} {t : Sem Fin} {fs : List Frame} (I : Nat → Nat → Shared → Shared → Prop)
    (step : ∀ k i s₀ s, (∀ k' i' s₀' s', k' < k → I k' i' s₀' s' → Seg M A R Y k' s₀' c t fs s') → I k i s₀ s → Seg M A R Y k s₀ c t fs s) {k : Nat} (i : Nat) {s₀ s : Shared} (h : I k i s₀ s) : Seg M A R Y k s₀ c t fs s := by
  induction k using Nat.strongRecOn generalizing i s₀ s with
  | _ k ih => exact step k i s₀ s (fun k' i' s₀' s' hlt h' => ih k' hlt i' h') h
theorem strIter_ascii {x : Str} (h : ∀ c ∈ x.cps.toList, c = 40 ∨ c = 41) : strIterType x = "str_ascii_iterator" := by
  have : x.cps.all (· < 128) = true := by
    rw [Array.all_eq_true]
    intro i hi
    have := h x.cps[i] (by simp)
    rcases this with q | q <;> simp [q]
  unfold strIterType
  rw [if_pos this]
theorem fillG2 (w : World) (h : Heap) : PySem.Challenge.rw_oh0070_01.foot = 5 → (hd.heap_1 w.params).In h → True := by
  k_fill
  intro _ _
  trivial
noncomputable abbrev iter_cP := (World) × (ExcName → Option Value) × (Str → Option Value) × (Str → Option Value) × (Around) × (Heap) × (Shared) × (Value → Shared → Prop) × (Value → Shared → Prop) × (Str) × (Tok)
noncomputable def iter_cS : iter_cP → Prop := fun p => (fun (w : World) (mean : ExcName → Option Value) (mg : Str → Option Value) (mb : Str → Option Value) (A : Around) (hb : Heap) (s : Shared) (Q : Value → Shared → Prop) (E : Value → Shared → Prop) (x : Str) (t : Tok) => ∀ (X : (hd.heap_1 w.params).In hb)
   (T : Top hd.view_1 (looseW hd.view_1 [Str.ofString "_NodeInfo"]) mean mg mb hb)
   (St : hb.StaysIn s.heap)
   (hcps : ∀ c ∈ x.cps.toList, c = 40 ∨ c = 41)
   (hbz : hb.objs.size ≤ s.heap.objs.size)
   (hd : A.depth + 2 < recursionLimit)
   (hret : ∀ a C oC h' tk' gs, (∀ b o, s.heap.get? b = some o → h'.get? b = some o) → s.heap.get? C = none → s.heap.get? a = none → a ≠ C → h'.get? C = some oC → h'.IsGen a s.gens.size → h'.objs.size = a + 1 → gs.bare = true →
      (∀ Z (A' : Around) (s'' : Shared), A'.handled = none → s''.heap.get? C = some oC → hb.StaysIn s''.heap → s''.heap.objs.size = Z → GenState.Goes (model PySem.Challenge.rw_oh0070_01.row.prog w) A' (GR C Z) (GY hb C Z x) x.cps.size gs (.send .none) s'') →
      Q (.ref a) { s with heap := h', toks := tk', gens := s.gens.push gs }),
    wpAny (model PySem.Challenge.rw_oh0070_01.row.prog w) A (call (.ref 28) [.str x t]) Q E s) p.1 p.2.1 p.2.2.1 p.2.2.2.1 p.2.2.2.2.1 p.2.2.2.2.2.1 p.2.2.2.2.2.2.1 p.2.2.2.2.2.2.2.1 p.2.2.2.2.2.2.2.2.1 p.2.2.2.2.2.2.2.2.2.1 p.2.2.2.2.2.2.2.2.2.2
noncomputable def iter_cX : iter_cP := @Classical.epsilon iter_cP ⟨⟨⟨fun _ _ => 0, { strHash := fun _ => 0, shareClass := fun _ => 0, mergeTok := fun t => t, idOf := fun _ => 0, idOfShared := fun _ _ => 0, followText := fun _ => false, idOfImm := fun _ => 0 }⟩, fun _ => none, fun _ => none, fun _ => none, callerA, {}, {}, fun _ _ => True, fun _ _ => True, ⟨#[]⟩, 0⟩⟩ fun x => ¬ iter_cS x
namespace iter_cC
noncomputable def w : World := iter_cX.1
noncomputable def mean : ExcName → Option Value := iter_cX.2.1
noncomputable def mg : Str → Option Value := iter_cX.2.2.1
noncomputable def mb : Str → Option Value := iter_cX.2.2.2.1
noncomputable def A : Around := iter_cX.2.2.2.2.1
noncomputable def hb : Heap := iter_cX.2.2.2.2.2.1
noncomputable def s : Shared := iter_cX.2.2.2.2.2.2.1
noncomputable def Q : Value → Shared → Prop := iter_cX.2.2.2.2.2.2.2.1
noncomputable def E : Value → Shared → Prop := iter_cX.2.2.2.2.2.2.2.2.1
noncomputable def x : Str := iter_cX.2.2.2.2.2.2.2.2.2.1
noncomputable def t : Tok := iter_cX.2.2.2.2.2.2.2.2.2.2
theorem key : ∀ (X : (hd.heap_1 w.params).In hb)
   (T : Top hd.view_1 (looseW hd.view_1 [Str.ofString "_NodeInfo"]) mean mg mb hb)
   (St : hb.StaysIn s.heap)
   (hcps : ∀ c ∈ x.cps.toList, c = 40 ∨ c = 41)
   (hbz : hb.objs.size ≤ s.heap.objs.size)
   (hd : A.depth + 2 < recursionLimit)
   (hret : ∀ a C oC h' tk' gs, (∀ b o, s.heap.get? b = some o → h'.get? b = some o) → s.heap.get? C = none → s.heap.get? a = none → a ≠ C → h'.get? C = some oC → h'.IsGen a s.gens.size → h'.objs.size = a + 1 → gs.bare = true →
      (∀ Z (A' : Around) (s'' : Shared), A'.handled = none → s''.heap.get? C = some oC → hb.StaysIn s''.heap → s''.heap.objs.size = Z → GenState.Goes (model PySem.Challenge.rw_oh0070_01.row.prog w) A' (GR C Z) (GY hb C Z x) x.cps.size gs (.send .none) s'') →
      Q (.ref a) { s with heap := h', toks := tk', gens := s.gens.push gs }),
    wpAny (model PySem.Challenge.rw_oh0070_01.row.prog w) A (call (.ref 28) [.str x t]) Q E s := by
  intro X T St hcps hbz hd hret
  refine wpAny_call ?_
  k_dflt (refine' enter_gen (binds := [(Str.ofString "addr", .str x t)]) ?k1 ?k2 ?k3 ?k6 ?k7 ?k8 ?k9 ?kB ?_ ?c2 ?c3 ?c4 ?c5; (case k1 => k_asm); (case k2 => k_asm); (case k3 => k_asm); (case k6 => k_is); (case k7 => k_is); (case k8 => k_room); (case k9 => first | exact BindsTo.of_eq rfl | exact binds_K (X.keeps St) rfl (by k_is) rfl rfl rfl); (case c5 => decide); (case kB => exact locs rfl); (case c2 => exact rfl); (case c3 => exact rfl); (case c4 => exact rfl); k_whole)
  intro C h₁ a tk hC hns hbC hk ha haC hG hsz
  obtain ⟨oC, hoC⟩ : ∃ o, h₁.get? C = some o := by obtain ⟨o, es, ep, e, _⟩ := hns; exact ⟨o, e⟩
  have hbSz : hb.objs.size ≤ C := hC ▸ hbz
  refine hret a C oC h₁ tk _ hk (by rw [hC]; exact Heap.get?_none_of_le (Nat.le_refl _)) ha haC hoC hG hsz rfl ?_
  intro Z A' s'' hh' hCs St'' hZ
  refine ⟨rfl, ?_⟩
  refine seg_func ?_
  have hh0 : ∀ (c : Code) (fs : List Frame), (A'.over c fs).handled = (marksOver fs (none, none)).1 := fun c fs => by show (marksOver fs (A'.handled, A'.handled)).1 = _; rw [hh']
  have hns2 : s''.heap.Ns C (fun y => ([(Str.ofString "addr", Value.str x t)] : List (Str × Value)).reverse.lookup y) := hns.at' fun o e => by rw [hoC] at e; cases e; exact hCs
  refine seg_execs_cons (seg_wrap (wpAny_Assign_Name (wpAny_Constant_int (wpAny_storeName_local (by rfl) hns2 (fun h₂ hn₂ hs₂ => ?_) (by rfl))) (by with_unfolding_all rfl)))
  dsimp only
  refine seg_execs_cons (seg_wrap (wpAny_Assign_Name (wpAny_Constant_bool (wpAny_storeName_local (by rfl) hn₂ (fun h₃ hn₃ hs₃ => ?_) (by rfl))) (by with_unfolding_all rfl)))
  dsimp only
  replace hs₂ : Heap.SameBut C s''.heap h₂ := hs₂
  replace hs₃ : Heap.SameBut C h₂ h₃ := hs₃
  have hZ3 : h₃.objs.size = Z := hs₃.1.trans (hs₂.1.trans hZ)
  have FC : Fr hb C h₃ _ := ⟨hn₃, fun b o e => hs₃.extBut b o (Nat.ne_of_lt (Nat.lt_of_lt_of_le (Heap.lt_size e) hbSz)) (hs₂.extBut b o (Nat.ne_of_lt (Nat.lt_of_lt_of_le (Heap.lt_size e) hbSz)) (St'' b o e)), hbSz⟩
  have NC : News hb C h₃ [] := News.nil
  refine seg_execs_cons (seg_For ?_ (by intro _; rfl))
  k_steps
  refine call_enumerate_str (fun h₄ he₄ hi₄ hz₄ hk₄ => ?_)
  rw [hZ3] at he₄ hi₄ hz₄
  rw [strIter_ascii hcps] at hi₄
  show wpAny _ _ (pyIter (.ref (h₃.objs.size + 1))) _ _ _
  rw [hZ3]
  refine wpAny_pyIter_enum he₄ ?_
  intro p
  have hCZ : C < Z := by rw [← hZ]; exact Heap.lt_size hCs
  have hCZ' : C ≠ Z := Nat.ne_of_lt hCZ
  have hCZ1 : C ≠ Z + 1 := Nat.ne_of_lt (Nat.lt_succ_of_lt hCZ)
  have hbZ : hb.objs.size ≤ Z := Nat.le_trans hbSz (Nat.le_of_lt hCZ)
  have hbo : ∀ b o, hb.get? b = some o → b ∉ [C, Z, Z + 1] := fun b o e q => by
    have := Heap.lt_size e
    have hb1 : b < C := Nat.lt_of_lt_of_le this hbSz
    rcases List.mem_cons.mp q with q | q
    · rw [q] at hb1; exact Nat.lt_irrefl _ hb1
    · rcases List.mem_cons.mp q with q | q
      · rw [q] at hb1; exact Nat.lt_asymm hb1 hCZ
      · rw [List.mem_singleton.mp q] at hb1; exact Nat.lt_asymm hb1 (Nat.lt_succ_of_lt hCZ)
  have W : ∀ A' : Around, A'.handled = none → WalksT PySem.Challenge.rw_oh0070_01.row.prog w A' (Z + 1) [Z + 1, Z] [Z + 1, Z] x.cps.size _ _ _ := fun A' hh' => WalksT.enumerateD (Draws.strAscii (A := A'.in1) hh' Z x t) (Z + 1) (Nat.succ_ne_self _) (by simp) (by simp)
  refine seg_rec (fun k i s₀ s₁ => i + k = x.cps.size ∧ ((∃ old, IsEnum s₁.heap (Z + 1) Z i old) ∧ s₁.heap.IsStrIter Z "str_ascii_iterator" x t i) ∧ (∃ m, s₁.heap.Ns C m ∧ m (Str.ofString "escape") = some (.bool false)) ∧ hb.StaysIn s₁.heap ∧ GKeep C Z s₀ s₁) ?_ 0 ⟨Nat.zero_add _, ⟨⟨_, he₄⟩, hi₄⟩, ⟨_, hn₃.at' fun o e => hk₄ _ o e, rfl⟩, fun b o e => hk₄ _ _ (FC.keep b o e), ?_⟩
  · intro k i s₀ s₁ ih hI
    obtain ⟨hik, hst, ⟨m, hm, hesc⟩, hs1, hkp⟩ := hI
    replace hm : s₁.heap.Ns C (kstB m [(Str.ofString "escape", .bool false)]) := by
      rw [kstB_same (fun p hp => by cases List.mem_singleton.mp hp; exact hesc)]; exact hm
    refine seg_forLoop ?_
    cases k with
    | zero =>
      obtain rfl : i = x.cps.size := by omega
      refine (W _ (by show A'.handled = none; exact hh')).done s₁ _ _ hst fun h₅ tk₅ hk₅ => ?_
      dsimp only
      refine seg_block_nil fun c => ?_
      refine seg_leaf (.ok .next) ?_
      clear FC NC
      have FC : Fr hb C h₅ (kstB m [(Str.ofString "escape", .bool false)]) := ⟨hm.at' fun o e => hk₅ _ o (by simp [hCZ', hCZ1]) e, fun b o e => hk₅ b o (fun q => hbo b o e (zz q)) (hs1 b o e), hbSz⟩
      have NC : News hb C h₅ [] := News.nil
      refine seg_execs_cons (seg_If ?_)
      k_steps
      simp only [Bool.false_eq_true, if_false]
      refine seg_end (.ok (.ret .none)) ⟨rfl, rfl, hkp.step fun b o hb' e => hk₅ b o (fun q => hb' (zz q)) e⟩
    | succ k =>
      have hlt : i < x.cps.size := by omega
      refine (W _ (by show A'.handled = none; exact hh')).item i s₁ _ _ hlt hst fun T vals h₅ tk₅ hP hTn hT hMid hk₅ => ?_
      dsimp only
      have hTw := (W A' hh').apart i T h₅ hMid
      refine (W _ (by show A'.handled = none; exact hh')).go _ _ _ i T _ _ _ hMid fun h₆ hst₆ hk₆ => ?_
      replace hk₆ : ∀ b o, b ∉ [Z + 1, Z] → h₅.get? b = some o → h₆.get? b = some o := hk₆
      obtain ⟨ti, v, ⟨c, u, hc, rfl⟩, rfl⟩ := hP
      have hT6 : h₆.IsTuple T #[.int i ti, .str ⟨#[c]⟩ u] := by obtain ⟨o, ho, r⟩ := hT; exact ⟨o, hk₆ T o hTw ho, r⟩
      refine wpAny_assign_Tuple (by show A'.handled = none; exact hh') hT6 rfl rfl fun h₇ hx₇ => ?_
      replace hx₇ : Heap.ExtBut h₆.objs.size h₆ h₇ := hx₇
      have up₆ : ∀ b o, b ∉ [Z + 1, Z] → s₁.heap.get? b = some o → h₆.get? b = some o := fun b o hb' e => hk₆ b o hb' (hk₅ b o hb' e)
      have up₇ : ∀ b o, h₆.get? b = some o → h₇.get? b = some o := fun b o e => hx₇ b o (Nat.ne_of_lt (Heap.lt_size e)) e
      have hm₇ : h₇.Ns C (kstB m [(Str.ofString "escape", .bool false)]) := hm.at' fun o e => up₇ _ o (up₆ _ o (by simp [hCZ', hCZ1]) e)
      show wpAny _ _ (do holding [_] (assign (.Name (Str.ofString "pos") _) _ (.int i ti)); do holding [] (assign (.Name (Str.ofString "ch") _) _ (.str _ u)); pure ()) _ _ _
      refine wpAny_bind (wpAny_holding (wpAny_assign_Name (wpAny_storeName_local (by rfl) hm₇ (fun h₈ hm₈ hs₈ => ?_) (by rfl))))
      refine wpAny_bind (wpAny_holding (wpAny_assign_Name (wpAny_storeName_local (by rfl) hm₈ (fun h₉ hm₉ hs₉ => wpAny_pure ?_) (by rfl))))
      replace hs₈ : Heap.SameBut C h₇ h₈ := hs₈
      replace hs₉ : Heap.SameBut C h₈ h₉ := hs₉
      have up₉ : ∀ b o, b ≠ C → h₆.get? b = some o → h₉.get? b = some o := fun b o hbC e => hs₉.extBut b o hbC (hs₈.extBut b o hbC (up₇ b o e))
      have upA : ∀ b o, b ∉ [C, Z, Z + 1] → s₁.heap.get? b = some o → h₉.get? b = some o := fun b o hb' e => up₉ b o (fun q => hb' (q ▸ .head _)) (up₆ b o (fun q => hb' (zz q)) e)
      clear FC NC
      have FC : Fr hb C h₉ _ := ⟨hm₉, fun b o e => upA b o (hbo b o e) (hs1 b o e), hbSz⟩
      have NC : News hb C h₉ [] := News.nil
      have hc' : c = 40 ∨ c = 41 := hcps c (by rw [Array.getElem?_eq_some_iff] at hc; obtain ⟨q, rfl⟩ := hc; simp)
      refine seg_execs_cons (seg_If ?_)
      k_steps
      simp only [Bool.false_eq_true, if_false]
      refine seg_execs_cons (seg_If ?_)
      k_steps
      rw [if_neg (show ¬ ((({ cps := #[c] } : Str) == Str.ofString "\\") = true) from by rcases hc' with rfl | rfl <;> decide)]
      refine seg_execs_cons (seg_Expr_Yield rfl rfl rfl ?_ (by rfl) (by rfl))
      have pk : PkAt 0 := trivial
      k_steps
      refine unpark ?_
      with_reducible refine wpAny_newTuple ?_ (Nat.le_trans (Nat.le_refl 2) (by rw [sizeLine_eq]; decide))
      intro kap hkap
      clear FC NC
      obtain ⟨oc9, hoc9⟩ : ∃ o, h₉.get? C = some o := by obtain ⟨o, es, ep, e, _⟩ := hm₉; exact ⟨o, e⟩
      obtain ⟨⟨old6, hE6⟩, oz6, hoz6, hoz6'⟩ := hst₆
      have hE9 := up₉ _ _ (Ne.symm hCZ1) hE6
      have hZ9 := up₉ _ _ (Ne.symm hCZ') hoz6
      obtain ⟨h01, tk01, rfl, hk01⟩ := hkp
      have hik' : x.cps.size - 1 - k = i := by omega
      have hnD : ∀ b o, h₉.get? b = some o → b ≠ h₉.objs.size := fun b o e => Nat.ne_of_lt (Heap.lt_size e)
      have hDn : h₉.objs.size ∉ [C, Z, Z + 1] := fun q => by
        rcases List.mem_cons.mp q with q | q
        · exact hnD _ _ hoc9 q.symm
        · rcases List.mem_cons.mp q with q | q
          · exact hnD _ _ hZ9 q.symm
          · exact hnD _ _ hE9 (List.mem_singleton.mp q).symm
      obtain ⟨oe, hoe⟩ : ∃ o, h₉.get? (Z + 1) = some o := ⟨_, hE9⟩
      refine ⟨[(C, oc9), (Z, oz6), (Z + 1, oe)], h₉.objs.size, ti, u, c, rfl, rfl, by rw [hik']; exact hc, ?_, ?_, hDn, ?_, ?_, ?_⟩
      · rw [hik']
        exact Heap.get?_push_size _ rfl
      · cases q : s₀.heap.get? h₉.objs.size with
        | none => rfl
        | some o => exact absurd (Heap.lt_size (upA _ o hDn (hk01 _ o hDn q))) (Nat.lt_irrefl _)
      · intro p hp
        rcases List.mem_cons.mp hp with rfl | hp
        · exact Heap.get?_push_of_some _ hoc9
        · rcases List.mem_cons.mp hp with rfl | hp
          · exact Heap.get?_push_of_some _ hZ9
          · cases List.mem_singleton.mp hp; exact Heap.get?_push_of_some _ hoe
      · exact ⟨_, _, rfl, fun b o hb' e => Heap.get?_push_of_some _ (upA b o hb' (hk01 b o hb' e))⟩
      · intro s3 hown hst3
        refine hkap .none s3 (seg_again rfl (ih k (i + 1) s3 s3 (Nat.lt_succ_self _) ⟨by omega, ⟨⟨_, (hown _ (.tail _ (.tail _ (.head _)))).trans (hoe.symm.trans hE9)⟩, ⟨_, hown _ (.tail _ (.head _)), hoz6'⟩⟩, ⟨_, hm₉.at' fun o e => ?_, rfl⟩, hst3, GKeep.refl _ _ _⟩))
        have e' : h₉.get? C = some o := e
        rw [hoc9] at e'
        cases e'
        exact hown _ (.head _)
  · refine (GKeep.refl C Z s'').step fun b o hb' e => hk₄ b o (hs₃.extBut b o (fun q => hb' (q ▸ .head _)) (hs₂.extBut b o (fun q => hb' (q ▸ .head _)) e))
end iter_cC
section
variable {w : World} {mean : ExcName → Option Value} {mg mb : Str → Option Value} {A : Around} {hb : Heap} {s : Shared} {Q E : Value → Shared → Prop}
theorem iter_c {x : Str} {t : Tok} (X : (hd.heap_1 w.params).In hb) (T : Top hd.view_1 (looseW hd.view_1 [Str.ofString "_NodeInfo"]) mean mg mb hb) (St : hb.StaysIn s.heap)
   (hcps : ∀ c ∈ x.cps.toList, c = 40 ∨ c = 41) (hbz : hb.objs.size ≤ s.heap.objs.size) (hd : A.depth + 2 < recursionLimit)
    (hret : ∀ a C oC h' tk' gs, (∀ b o, s.heap.get? b = some o → h'.get? b = some o) → s.heap.get? C = none → s.heap.get? a = none → a ≠ C → h'.get? C = some oC → h'.IsGen a s.gens.size → h'.objs.size = a + 1 → gs.bare = true →
      (∀ Z (A' : Around) (s'' : Shared), A'.handled = none → s''.heap.get? C = some oC → hb.StaysIn s''.heap → s''.heap.objs.size = Z → GenState.Goes (model PySem.Challenge.rw_oh0070_01.row.prog w) A' (GR C Z) (GY hb C Z x) x.cps.size gs (.send .none) s'') →
      Q (.ref a) { s with heap := h', toks := tk', gens := s.gens.push gs }) :
    wpAny (model PySem.Challenge.rw_oh0070_01.row.prog w) A (call (.ref 28) [.str x t]) Q E s := by
  refine Classical.byContradiction fun hz9 => ?_
  exact @Classical.epsilon_spec iter_cP (fun x => ¬ iter_cS x) ⟨⟨w, mean, mg, mb, A, hb, s, Q, E, x, t⟩, fun zz9 => hz9 (zz9 X T St hcps hbz hd hret)⟩ iter_cC.key
end
end Part_G2
section Part_G3
theorem rules_G3 : True := by
  k_with_none
  w_top off
  k_with "exec For Tuple Call cons nil" => refine parkAt (n := 0) (by with_reducible assumption) ?_
  k_with "call ref" => refine parkAt (n := 1) (by with_reducible assumption) ?_
  k_with "m mine list" => first | exact isL (by k_asm) (by k_mem) | exact isB (by k_asm) (by assumption)
  k_with "m call builtin:len" => (k_here; (try dsimp only); (with_reducible show wpAny _ _ (call (Value.builtin "len") [Value.ref _]) _ _ _); k_dflt (refine' len_L ?zqk1 ?zqk3 ?zqk4 ?_; (case zqk1 => walk_at "mine list"); (case zqk3 => assumption); (case zqk4 => omega)))
  k_with "m subscriptTail" => (k_here; (try dsimp only); (with_reducible show wpAny _ _ (subscriptTail _ _ (Value.ref _) (Value.int _ _)) _ _ _); k_dflt (first | (refine' item_L ?zqk1 ?zqk3 ?zqk4 ?zqk5 ?zqk6 ?_ ?zqk8; (case zqk1 => walk_at "mine list"); (case zqk3 => assumption); (case zqk5 => with_reducible assumption); (case zqk4 => omega); (case zqk6 => omega); (case zqk8 => with_unfolding_all rfl); k_whole; intro t9) | (refine' out_L ?zqk0 ?zqk1 ?zqk3 ?zqk4 ?zqk5 ?_ ?zqk8; (case zqk0 => first | rfl | assumption); (case zqk1 => walk_at "mine list"); (case zqk3 => assumption); (case zqk4 => omega); (case zqk5 => omega); (case zqk8 => with_unfolding_all rfl); k_whole; intro h9 tk9 e9 x9)))
  k_with "m subscriptTail Name Name ref int" => (k_here; (try dsimp only); (with_reducible show wpAny _ _ (subscriptTail _ _ (Value.ref _) (Value.int _ _)) _ _ _); k_dflt (first | (refine' item_L ?zqk1 ?zqk3 ?zqk4 ?zqk5 ?zqk6 ?_ ?zqk8; (case zqk1 => walk_at "mine list"); (case zqk3 => assumption); (case zqk5 => with_reducible assumption); (case zqk4 => omega); (case zqk6 => omega); (case zqk8 => with_unfolding_all rfl); k_whole; intro t9) | (refine' out_L ?zqk0 ?zqk1 ?zqk3 ?zqk4 ?zqk5 ?_ ?zqk8; (case zqk0 => first | rfl | assumption); (case zqk1 => walk_at "mine list"); (case zqk3 => assumption); (case zqk4 => omega); (case zqk5 => omega); (case zqk8 => with_unfolding_all rfl); k_whole; intro h9 tk9 e9 x9) | (refine' out_over ?zqk0 ?zqkN ?zqkm ?zqkb ?zqk1 ?zqk3 ?zqk4 ?zqk5 ?_ ?zqk8; (case zqk0 => rfl); (case zqkN => k_asm); (case zqkm => k_mem); (case zqkb => assumption); (case zqk1 => walk_at "mine list"); (case zqk3 => assumption); (case zqk4 => omega); (case zqk5 => omega); (case zqk8 => with_unfolding_all rfl); k_whole; intro h9 tk9 e9 x9)))
  k_with "m subscriptTail Name Slice ref ref" => (k_here; k_dflt (refine' kmk_slice_ints ?zqF ?zqN ?zql ?zqpl ?zqpu ?zqhi ?zqhm rfl ?_ ?zqhs ?zqht ?zqhz; (case zqF => k_asm); (case zqN => k_asm); (case zql => walk_at "mine list"); (case zqpl => kmk_part); (case zqpu => kmk_part); (case zqhi => assumption); (case zqhm => first | (with_reducible refine kmk_from (by assumption) ?_; omega) | (with_reducible refine kmk_upto (by assumption) ?_; omega) | with_reducible exact kmk_all (by assumption)); (case zqhs => with_unfolding_all rfl); (case zqht => kmk_pure); (case zqhz => exact kmk_sz (by assumption) (by simp only [sizeLine_eq]; omega)); k_whole; intro D9 ws9 h9 F9 N9 l9 I9 e9 e9'; (try k_lt l9)))
  k_with "m call builtin:list.extend" => (k_here; k_dflt (refine' extend_L ?zqF ?zqN ?zqm ?zqU ?zqi1 ?zqi2 ?zqz ?_; (case zqF => k_asm); (case zqN => k_asm); (case zqU => k_upd); (case zqm => k_mem); (case zqi1 => walk_at "mine ints"); (case zqi2 => walk_at "mine ints"); (case zqz => walk_at "mine len"); k_whole; intro h9 F9 N9 I9))
  k_with "m mine len" => first | omega | (simp only [List.length_append, List.length_drop, List.length_take, List.length_nil, List.length_cons] at *; omega)
  k_with "m mine ints" => first | exact IntsAre.nil | assumption
  k_with "m compareOp In int ref" => (k_here; (try dsimp only); k_dflt (refine' in_L ?zqm ?zqi ?_; (case zqm => walk_at "mine list"); (case zqi => assumption)))
  trivial
section
variable {prog : Program} {w : World} {A : Around} {E : Value → Shared → Prop} {s : Shared}
/-- the next of a generator function's object; what it leaves behind is bare -/
theorem next_gen {a : Addr} {g n : Nat} {gs : GenState} {P : Nat → Shared → Shared → Prop} {Y : Protocol} {Q : Option Value → Shared → Prop} (hh : A.handled = none) (hl : s.heap.NoLimit) (hroom : A.depth < recursionLimit)
    (hg : s.heap.IsGen a g) (hgs : s.gens[g]? = some gs) (hgo : gs.Goes (model prog w) A.in1 (fun n s₀ r s₁ => r = .ok (.ret .none) ∧ P n s₀ s₁) Y n (.send .none) (s.setGen g .running))
    (hP : ∀ s₁, P n (s.setGen g .running) s₁ → ∀ h', (∀ b o, s₁.heap.get? b = some o → h'.get? b = some o) → Q none { s₁.setGen g .finished with heap := h' })
    (hY : ∀ v s₁ gs', gs'.bare = true → Y (n - 1) (s.setGen g .running) v s₁ (fun r' s'' => match n with | 0 => False | m + 1 => gs'.Goes (model prog w) A.in1 (fun n s₀ r s₁ => r = .ok (.ret .none) ∧ P n s₀ s₁) Y m r' s'') → Q (some v) (s₁.setGen g gs')) :
    wpAny (model prog w) A (pyNext (.ref a)) Q E s := by
  have live : gs.status = .fresh ∨ gs.status = .suspended := by
    cases gs with
    | fresh => exact .inl rfl
    | suspended => exact .inr rfl
    | running => exact hgo.elim
    | finished => exact hgo.elim
  have go : wpAny (model prog w) A.in1 (.resume g (.send .none) [] fun r => match r with
      | .yielded v => (pure v : Sem Value)
      | _ => .unsupported "") (fun _ _ => True) (fun _ _ => True) s → True := fun _ => trivial
  unfold pyNext
  refine wpAny_bind (wpAny_attempt (wpAny_callSpecial?_slot (name := Str.ofString "__next__") hg.typeIs slot_gen_next (wpAny_call_entry slot_gen_next hg.typeIs entry_gen_next ?_ (args_gen_next _))))
  show wpAny _ A.in1 (Builtin.Generator.genWake (.ref a) (.send .none)) _ _ s
  unfold Builtin.Generator.genWake
  refine wpAny_bind (wpAny_holding (wpAny_genNumber hg (wpAny_bind (wpAny_genState hgs ?_))))
  rcases live with q | q <;> (
    rw [q]
    refine wpAny_bind (wpAny_roomToWake hl hroom ?_)
    show wpAny _ A.in1 (.resume g (.send .none) [] _) _ _ s
    refine wpAny_resumeQ hgs hgo (fun x s₁ hx => ?_) (fun v s₁ gs' hb hv => wpAny_pure ⟨v, rfl, wpAny_pure (hY v s₁ gs' hb hv)⟩)
    obtain ⟨rfl, hp⟩ := hx
    show wpAny _ A.in1 (newExc (.type "StopIteration") [] >>= _) _ _ _
    simp only [newExc, newTuple]
    refine wpAny_bind (wpAny_bind (wpAny_newObj_type ?_ (by size_fits)))
    refine wpAny_bind (m := firstArgMember _ _) (wpAny_of_eq (a := Value.none) (by first | rfl | (simp only [firstArgMember]; rfl)) ?_)
    refine wpAny_newObj_type ?_ (by size_fits)
    simp only [raiseNew]
    refine wpAny_bind (wpAny_bind (wpAny_handled ?_))
    rw [show A.in1.handled = none from hh]
    refine wpAny_throw (wpAny_bind (wpAny_isInstance (T := "StopIteration") (b := true) ⟨_, Heap.get?_push_size _ rfl, rfl⟩ isSubtype_stop (wpAny_pure ?_)))
    exact hP s₁ hp _ fun b o hb => Heap.get?_push_of_some _ (Heap.get?_push_of_some _ hb))
theorem letGo_gen {a : Addr} {g : Nat} {target : Expr} {v : Value} {Q : Unit → Shared → Prop} (hg : s.heap.IsGen a g) (h : Q () s) : wpAny (model prog w) A (letOwnedTupleGo target (.ref a) v) Q E s := by
  obtain ⟨o, nm, qn, ho, hc, hd, _⟩ := hg
  unfold letOwnedTupleGo
  split
  · cases v with
    | ref b =>
      refine wpAny_bind (wpAny_load ho ?_)
      rw [hc, hd]
      exact wpAny_pure h
    | _ => exact wpAny_pure h
  · cases v with
    | ref b =>
      refine wpAny_bind (wpAny_load ho ?_)
      rw [hc, hd]
      exact wpAny_pure h
    | _ => exact wpAny_pure h
  · exact wpAny_pure h
end
theorem fillG3 (w : World) (h : Heap) : PySem.Challenge.rw_oh0070_01.foot = 5 → (hd.heap_1 w.params).In h → True := by
  k_fill
  intro _ _
  trivial
section
variable {w : World} {mean : ExcName → Option Value} {mg mb : Str → Option Value} {A : Around} {hb : Heap} {s : Shared} {Q E : Value → Shared → Prop}
theorem strip_c {x : Str} {t : Tok} (X : (hd.heap_1 w.params).In hb) (T : Top hd.view_1 (looseW hd.view_1 [Str.ofString "_NodeInfo"]) mean mg mb hb) (St : hb.StaysIn s.heap)
   (hcps : ∀ c ∈ x.cps.toList, c = 40 ∨ c = 41) (hd : A.depth + 2 < recursionLimit)
    (hret : ∀ h' tk' t', (∀ b o, s.heap.get? b = some o → h'.get? b = some o) → Q (.str x t') { s with heap := h', toks := tk' }) :
    wpAny (model PySem.Challenge.rw_oh0070_01.row.prog w) A (call (.ref 35) [.str x t]) Q E s := by
  refine wpAny_call ?_
  k_dflt (refine' enter_def (H := []) (binds := [(Str.ofString "addr", .str x t)]) ?k1 ?k2 ?k3 ?k4 ?k6 ?k7 ?k8 ?k9 ?kB ?_ ?c2 ?c3 ?c4 ?c5; (case k1 => k_asm); (case k2 => k_asm); (case k3 => k_asm); (case k4 => first | assumption | (intro a ha; cases ha)); (case k6 => k_is); (case k7 => k_is); (case k8 => k_room); (case k9 => first | exact BindsTo.of_eq rfl | exact binds_K (X.keeps St) rfl (by k_is) rfl rfl rfl); (case c5 => decide); (case kB => exact locs rfl); (case c2 => exact rfl); (case c3 => exact rfl); (case c4 => exact rfl); k_whole; intro g L' h' hg hL' F' K' X' T' S'; (try dsimp only); (try k_fold))
  subst hg
  have N' : News (hideAll s.heap []) L' h' [] := News.nil
  have hocc : (Builtin.Str.occurrences x (Str.ofString "\"") 0 x.length 1).isEmpty = true := by
    rw [show (Str.ofString "\"") = (⟨#[34]⟩ : Str) from by decide, empty_one]
    simp only [Bool.not_eq_true', decide_eq_false_iff_not]
    intro h
    rcases hcps 34 h with q | q <;> cases q
  ((try clear pk); (try clear pk))
  k_steps
  exact hret _ _ _ K'
/-- does the text go up and down and end at the ground -/
noncomputable def balC : List Nat → Int → Bool
  | [], o => decide (o = 0)
  | c :: cs, o => if c = 40 then balC cs (o + 1) else if o - 1 < 0 then false else balC cs (o - 1)
theorem setGen_bare {s : Shared} {g : Nat} {b : GenState} (h : AllBare s.gens) (hb : b.bare = true) : AllBare (s.setGen g b).gens := fun y hy => by
  rcases Array.mem_or_eq_of_mem_setIfInBounds hy with q | q
  · exact h y q
  · rw [q]; exact hb
theorem fr_new {g h : Heap} {L b : Addr} {m : Str → Option Value} (F : Fr g L h m) (hb : h.get? b = none) : b ≠ L ∧ g.get? b = none :=
  ⟨fun q => (by obtain ⟨o, _, _, e, _⟩ := F.ns; rw [← q, hb] at e; cases e), by
    cases q : g.get? b with
    | none => rfl
    | some o => rw [F.keep b o q] at hb; cases hb⟩
theorem off_of {g h : Heap} {C Z : Addr} (hCg : g.get? C = none) (hk : ∀ b o, g.get? b = some o → h.get? b = some o) (hz : h.objs.size ≤ Z) : ∀ b o, g.get? b = some o → b ∉ [C, Z, Z + 1] := fun b o e q => by
  have hlt : b < Z := Nat.lt_of_lt_of_le (Heap.lt_size (hk b o e)) hz
  rcases List.mem_cons.mp q with q | q
  · rw [q, hCg] at e; cases e
  · rcases List.mem_cons.mp q with q | q
    · rw [q] at hlt; exact Nat.lt_irrefl _ hlt
    · rw [List.mem_singleton.mp q] at hlt; exact Nat.lt_irrefl _ (Nat.lt_of_succ_lt hlt)
theorem lt_off {C Z b : Addr} (h1 : b ≠ C) (h2 : b < Z) : b ∉ [C, Z, Z + 1] := fun q => by
  rcases List.mem_cons.mp q with q | q
  · exact h1 q
  · rcases List.mem_cons.mp q with q | q
    · rw [q] at h2; exact Nat.lt_irrefl _ h2
    · rw [List.mem_singleton.mp q] at h2; exact Nat.lt_irrefl _ (Nat.lt_of_succ_lt h2)
theorem mem_of_map {l : List (Addr × Obj)} {a : Addr} (h : a ∈ l.map (·.1)) : ∃ o, (a, o) ∈ l := by
  obtain ⟨p, hp, rfl⟩ := List.mem_map.mp h
  exact ⟨p.2, hp⟩
noncomputable def GTurn (g : Heap) (L : Addr) (s : Shared) (led : List (Addr × Obj)) (gn : Array GenState) (J : Nat → (Str → Option Value) → Prop) (i : Nat) (R : Result → Shared → Prop) (f : Flow) (s₃ : Shared) : Prop :=
  match f with
  | .brk => R (.ok .next) s₃
  | .ret v => R (.ok (.ret v)) s₃
  | _ => ∃ h' tk' m', s₃ = { s with heap := h', toks := tk', gens := gn } ∧ Fr g L h' m' ∧ News g L h' led ∧ J (i + 1) m'
theorem gturn_end {g : Heap} {L : Addr} {s : Shared} {led : List (Addr × Obj)} {gn : Array GenState} {J : Nat → (Str → Option Value) → Prop} {i : Nat} {R : Result → Shared → Prop} {h' : Heap} {tk' : Nat} {m' : Str → Option Value} (F : Fr g L h' m') (N : News g L h' led) (hJ : J (i + 1) m') :
    GTurn g L s led gn J i R .next { s with heap := h', toks := tk', gens := gn } := ⟨h', tk', m', rfl, F, N, hJ⟩
/-- a for loop over the pairs that the generator hands out -/
theorem size_turn {z i : Nat} (h : i < z) : ∃ k, z - i = k + 1 ∧ z - 1 - (z - i - 1) = i ∧ z - (i + 1) = k := ⟨z - i - 1, by omega, by omega, by omega⟩
end
noncomputable abbrev loop_genstrP := (Program) × (World) × (Around) × (Shared) × (Heap) × (Env) × (Addr) × (Addr) × (Nat) × (Str) × (Str) × (Str) × (Pos) × (Pos) × (Pos) × (Nat) × (List Stmt) × (Result → Shared → Prop) × (Obj) × (Str → Option Value)
noncomputable def loop_genstrS : loop_genstrP → Prop := fun p => (fun (prog : Program) (w : World) (A : Around) (s : Shared) (g : Heap) (env : Env) (C : Addr) (a : Addr) (gi : Nat) (x : Str) (xp : Str) (xq : Str) (pp : Pos) (pq : Pos) (pt : Pos) (k1 : Nat) (body : List Stmt) (R : Result → Shared → Prop) (oC : Obj) (m0 : Str → Option Value) => ∀ (gs : GenState)
   (hh : A.handled = none)
   (hl : g.NoLimit)
   (hroom : A.depth < recursionLimit)
   (hp : env.kindOf xp = some .local)
   (hq : env.kindOf xq = some .local)
   (hpl : (env.scope.kind == .class || (env.scope.kind == .module && env.locals != env.globals)) = false)
   (F : Fr g env.locals s.heap m0)
   (hCL : C ≠ env.locals)
   (hCg : g.get? C = none)
   (hoC : s.heap.get? C = some oC)
   (hG : s.heap.IsGen a gi)
   (haC : a ≠ C)
   (hag : g.get? a = none)
   (haL : a ≠ env.locals)
   (hgs : s.gens[gi]? = some gs)
   (hbare : AllBare s.gens)
   (hgo : ∀ s'' : Shared, s''.heap.get? C = some oC → g.StaysIn s''.heap → s''.heap.objs.size = s.heap.objs.size → gs.Goes (model prog w) A.in1 (GR C s.heap.objs.size) (GY g C s.heap.objs.size x) x.cps.size (.send .none) s'')
   (J : Nat → (Str → Option Value) → Prop)
   (h0 : J 0 m0)
   (turn : ∀ i m h tk c u ti led gn E', i < x.cps.size → J i m → x.cps[i]? = some c → Fr g env.locals h (fun y => if y = xq then some (.str ⟨#[c]⟩ u) else if y = xp then some (.int (i : Nat) ti) else m y) → News g env.locals h led → AllBare gn →
      wpAny (model prog w) A (execs body env) (GTurn g env.locals s led gn J i R) E' { s with heap := h, toks := tk, gens := gn })
   (done : ∀ m h tk gn, J x.cps.size m → Fr g env.locals h m → AllBare gn → R (.ok .next) { s with heap := h, toks := tk, gens := gn }),
    codeAny (model prog w) A (.forLoop (.Tuple [.Name xp pp, .Name xq pq] k1 pt) (.ref a) body [] env) R s) p.1 p.2.1 p.2.2.1 p.2.2.2.1 p.2.2.2.2.1 p.2.2.2.2.2.1 p.2.2.2.2.2.2.1 p.2.2.2.2.2.2.2.1 p.2.2.2.2.2.2.2.2.1 p.2.2.2.2.2.2.2.2.2.1 p.2.2.2.2.2.2.2.2.2.2.1 p.2.2.2.2.2.2.2.2.2.2.2.1 p.2.2.2.2.2.2.2.2.2.2.2.2.1 p.2.2.2.2.2.2.2.2.2.2.2.2.2.1 p.2.2.2.2.2.2.2.2.2.2.2.2.2.2.1 p.2.2.2.2.2.2.2.2.2.2.2.2.2.2.2.1 p.2.2.2.2.2.2.2.2.2.2.2.2.2.2.2.2.1 p.2.2.2.2.2.2.2.2.2.2.2.2.2.2.2.2.2.1 p.2.2.2.2.2.2.2.2.2.2.2.2.2.2.2.2.2.2.1 p.2.2.2.2.2.2.2.2.2.2.2.2.2.2.2.2.2.2.2
noncomputable def loop_genstrX : loop_genstrP := @Classical.epsilon loop_genstrP ⟨⟨default, ⟨fun _ _ => 0, { strHash := fun _ => 0, shareClass := fun _ => 0, mergeTok := fun t => t, idOf := fun _ => 0, idOfShared := fun _ _ => 0, followText := fun _ => false, idOfImm := fun _ => 0 }⟩, callerA, {}, {}, default, 0, 0, 0, ⟨#[]⟩, ⟨#[]⟩, ⟨#[]⟩, default, default, default, 0, [], fun _ _ => True, { cls := .none, data := .plain }, fun _ => none⟩⟩ fun x => ¬ loop_genstrS x
namespace loop_genstrC
noncomputable def prog : Program := loop_genstrX.1
noncomputable def w : World := loop_genstrX.2.1
noncomputable def A : Around := loop_genstrX.2.2.1
noncomputable def s : Shared := loop_genstrX.2.2.2.1
noncomputable def g : Heap := loop_genstrX.2.2.2.2.1
noncomputable def env : Env := loop_genstrX.2.2.2.2.2.1
noncomputable def C : Addr := loop_genstrX.2.2.2.2.2.2.1
noncomputable def a : Addr := loop_genstrX.2.2.2.2.2.2.2.1
noncomputable def gi : Nat := loop_genstrX.2.2.2.2.2.2.2.2.1
noncomputable def x : Str := loop_genstrX.2.2.2.2.2.2.2.2.2.1
noncomputable def xp : Str := loop_genstrX.2.2.2.2.2.2.2.2.2.2.1
noncomputable def xq : Str := loop_genstrX.2.2.2.2.2.2.2.2.2.2.2.1
noncomputable def pp : Pos := loop_genstrX.2.2.2.2.2.2.2.2.2.2.2.2.1
noncomputable def pq : Pos := loop_genstrX.2.2.2.2.2.2.2.2.2.2.2.2.2.1
noncomputable def pt : Pos := loop_genstrX.2.2.2.2.2.2.2.2.2.2.2.2.2.2.1
noncomputable def k1 : Nat := loop_genstrX.2.2.2.2.2.2.2.2.2.2.2.2.2.2.2.1
noncomputable def body : List Stmt := loop_genstrX.2.2.2.2.2.2.2.2.2.2.2.2.2.2.2.2.1
noncomputable def R : Result → Shared → Prop := loop_genstrX.2.2.2.2.2.2.2.2.2.2.2.2.2.2.2.2.2.1
noncomputable def oC : Obj := loop_genstrX.2.2.2.2.2.2.2.2.2.2.2.2.2.2.2.2.2.2.1
noncomputable def m0 : Str → Option Value := loop_genstrX.2.2.2.2.2.2.2.2.2.2.2.2.2.2.2.2.2.2.2
theorem key : ∀ (gs : GenState)
   (hh : A.handled = none)
   (hl : g.NoLimit)
   (hroom : A.depth < recursionLimit)
   (hp : env.kindOf xp = some .local)
   (hq : env.kindOf xq = some .local)
   (hpl : (env.scope.kind == .class || (env.scope.kind == .module && env.locals != env.globals)) = false)
   (F : Fr g env.locals s.heap m0)
   (hCL : C ≠ env.locals)
   (hCg : g.get? C = none)
   (hoC : s.heap.get? C = some oC)
   (hG : s.heap.IsGen a gi)
   (haC : a ≠ C)
   (hag : g.get? a = none)
   (haL : a ≠ env.locals)
   (hgs : s.gens[gi]? = some gs)
   (hbare : AllBare s.gens)
   (hgo : ∀ s'' : Shared, s''.heap.get? C = some oC → g.StaysIn s''.heap → s''.heap.objs.size = s.heap.objs.size → gs.Goes (model prog w) A.in1 (GR C s.heap.objs.size) (GY g C s.heap.objs.size x) x.cps.size (.send .none) s'')
   (J : Nat → (Str → Option Value) → Prop)
   (h0 : J 0 m0)
   (turn : ∀ i m h tk c u ti led gn E', i < x.cps.size → J i m → x.cps[i]? = some c → Fr g env.locals h (fun y => if y = xq then some (.str ⟨#[c]⟩ u) else if y = xp then some (.int (i : Nat) ti) else m y) → News g env.locals h led → AllBare gn →
      wpAny (model prog w) A (execs body env) (GTurn g env.locals s led gn J i R) E' { s with heap := h, toks := tk, gens := gn })
   (done : ∀ m h tk gn, J x.cps.size m → Fr g env.locals h m → AllBare gn → R (.ok .next) { s with heap := h, toks := tk, gens := gn }),
    codeAny (model prog w) A (.forLoop (.Tuple [.Name xp pp, .Name xq pq] k1 pt) (.ref a) body [] env) R s := by
  intro gs hh hl hroom hp hq hpl F hCL hCg hoC hG haC hag haL hgs hbare hgo J h0 turn done
  obtain ⟨Z, hZ⟩ : ∃ Z, Z = s.heap.objs.size := ⟨_, rfl⟩
  rw [← hZ] at hgo
  have hbo := off_of (Z := Z) hCg F.keep (Nat.le_of_eq hZ.symm)
  have hLo : env.locals ∉ [C, Z, Z + 1] := lt_off (Ne.symm hCL) (hZ ▸ F.ns.lt)
  obtain ⟨oa, nm, qn, hoa, hca, hda, hsa⟩ := id hG
  have hao : a ∉ [C, Z, Z + 1] := lt_off haC (hZ ▸ Heap.lt_size hoa)
  have hCZ : C < Z := hZ ▸ Heap.lt_size hoC
  refine codeAny_forLoop_any (fun n s1 => ∃ (i : Nat) (own : List (Addr × Obj)) (gs : GenState) (h : Heap) (tk : Nat) (gn : Array GenState) (m : Str → Option Value),
    s1 = { s with heap := h, toks := tk, gens := gn } ∧ i + n = x.cps.size + 1 ∧ i ≤ x.cps.size ∧ Fr g env.locals h m ∧ J i m ∧ News g env.locals h ((a, oa) :: own) ∧ gn[gi]? = some gs ∧ AllBare gn ∧
    (i = 0 → h.objs.size = Z) ∧ ∀ s'' : Shared, (∀ p ∈ own, s''.heap.get? p.1 = some p.2) → g.StaysIn s''.heap → (i = 0 → s''.heap.objs.size = Z) → gs.Goes (model prog w) A.in1 (GR C Z) (GY g C Z x) (x.cps.size - i) (.send .none) s'') ?_ (x.cps.size + 1)
    ⟨0, [(C, oC)], gs, s.heap, s.toks, s.gens, m0, rfl, Nat.zero_add _, Nat.zero_le _, F, h0, fun p hp => ?_, hgs, hbare, fun _ => hZ.symm, fun s'' h1 h2 h3 => hgo s'' (h1 _ (.head _)) h2 (h3 rfl)⟩
  · rintro n s1 ⟨i, own, gs, h, tk, gn, m, rfl, hin, hi, F1, hJ, N1, hgs1, hb1, hz1, hgo1⟩
    have hG1 : h.IsGen a gi := ⟨oa, nm, qn, (N1 _ (.head _)).1, hca, hda, hsa⟩
    refine next_gen (n := x.cps.size - i) (P := fun n s₀ s₁ => n = 0 ∧ GKeep C Z s₀ s₁) (Y := GY g C Z x) hh (hl.keeps F1.keep) hroom hG1 hgs1 (hgo1 _ (fun p hp => (N1 p (.tail _ hp)).1) F1.keep hz1) (fun s₁ hp2 h' hk' => ?_) (fun v s₁ gs' hbs hY => ?_)
    · obtain ⟨hn0, h₁, tk₁, rfl, hk₁⟩ := hp2
      dsimp only
      obtain rfl : i = x.cps.size := by omega
      refine wpAny_execs_nil ?_
      exact done m h' _ _ hJ ⟨F1.ns.at' fun o e => hk' _ o (hk₁ _ o hLo e), fun b o e => hk' b o (hk₁ b o (hbo b o e) (F1.keep b o e)), F1.above⟩ (setGen_bare (s := { s with heap := h₁, toks := tk₁, gens := gn.setIfInBounds gi .running }) (setGen_bare (s := { s with heap := h, toks := tk, gens := gn }) hb1 rfl) rfl)
    · obtain ⟨own', T, tt, u, c, hmap, rfl, hc, hT, hT0, hTo, hown, ⟨h₁, tk₁, rfl, hk₁⟩, hκ⟩ := hY
      dsimp only at hT hown hk₁ hκ ⊢
      have hg1 : g.StaysIn h₁ := fun b o e => hk₁ b o (hbo b o e) (F1.keep b o e)
      have hlt : i < x.cps.size := by
        refine Nat.lt_of_le_of_ne hi fun q => ?_
        subst q
        have := hκ { s with heap := h₁, toks := tk₁, gens := gn } hown hg1
        rw [Nat.sub_self] at this
        exact this
      obtain ⟨k, hk, hik, hk1⟩ := size_turn hlt
      rw [hik] at hc hT
      rw [hk] at hκ
      have hG2 : h₁.IsGen a gi := ⟨oa, nm, qn, hk₁ _ _ hao (N1 _ (.head _)).1, hca, hda, hsa⟩
      refine letGo_gen hG2 ?_
      have hT2 : h₁.IsTuple T #[.int (i : Nat) tt, .str ⟨#[c]⟩ u] := ⟨_, hT, rfl, _, rfl⟩
      refine wpAny_assign_Tuple hh hT2 rfl rfl fun h₂ hx₂ => ?_
      replace hx₂ : Heap.ExtBut h₁.objs.size h₁ h₂ := hx₂
      have up₂ : ∀ b o, h₁.get? b = some o → h₂.get? b = some o := fun b o e => hx₂ b o (Nat.ne_of_lt (Heap.lt_size e)) e
      have hm₂ : h₂.Ns env.locals m := F1.ns.at' fun o e => up₂ _ o (hk₁ _ o hLo e)
      show wpAny _ _ (do holding [_] (assign (.Name xp pp) env (.int (i : Nat) tt)); do holding [] (assign (.Name xq pq) env (.str ⟨#[c]⟩ u)); pure ()) _ _ _
      refine wpAny_bind (wpAny_holding (wpAny_assign_Name (wpAny_storeName_local hp hm₂ (fun h₃ hm₃ hs₃ => ?_) hpl)))
      refine wpAny_bind (wpAny_holding (wpAny_assign_Name (wpAny_storeName_local hq hm₃ (fun h₄ hm₄ hs₄ => wpAny_pure ?_) hpl)))
      replace hs₃ : Heap.SameBut env.locals h₂ h₃ := hs₃
      replace hs₄ : Heap.SameBut env.locals h₃ h₄ := hs₄
      have up₄ : ∀ b o, b ≠ env.locals → h₁.get? b = some o → h₄.get? b = some o := fun b o hb e => hs₄.extBut b o hb (hs₃.extBut b o hb (up₂ b o e))
      have hgL : ∀ b o, g.get? b = some o → b ≠ env.locals := fun b o e => Nat.ne_of_lt (Nat.lt_of_lt_of_le (Heap.lt_size e) F.above)
      have F4 : Fr g env.locals h₄ _ := ⟨hm₄, fun b o e => up₄ b o (hgL b o e) (hg1 b o e), F.above⟩
      have hZg : ∀ b, Z ≤ b → g.get? b = none := fun b hb => Heap.get?_none_of_le (Nat.le_trans F.above (Nat.le_trans (Nat.le_of_lt (hZ ▸ F.ns.lt)) hb))
      have hoff : ∀ p ∈ own', p.1 ≠ env.locals ∧ g.get? p.1 = none := fun p hp' => by
        have h1 : p.1 ∈ [C, Z, Z + 1] := hmap ▸ List.mem_map_of_mem hp'
        refine ⟨fun q => hLo (q ▸ h1), ?_⟩
        rcases List.mem_cons.mp h1 with q | q
        · rw [q]; exact hCg
        · rcases List.mem_cons.mp q with q | q
          · rw [q]; exact hZg _ (Nat.le_refl _)
          · rw [List.mem_singleton.mp q]; exact hZg _ (Nat.le_succ _)
      have N4 : News g env.locals h₄ ((a, oa) :: own') := fun p hp' => by
        rcases List.mem_cons.mp hp' with rfl | hp'
        · exact ⟨up₄ _ _ haL (hk₁ _ _ hao (N1 _ (.head _)).1), haL, hag⟩
        · exact ⟨up₄ _ _ (hoff p hp').1 (hown p hp'), hoff p hp'⟩
      have hb4 : AllBare ((gn.setIfInBounds gi .running).setIfInBounds gi gs') := setGen_bare (s := { s with heap := h₁, toks := tk₁, gens := gn.setIfInBounds gi .running }) (setGen_bare (s := { s with heap := h, toks := tk, gens := gn }) hb1 rfl) hbs
      have hgs4 : ((gn.setIfInBounds gi .running).setIfInBounds gi gs')[gi]? = some gs' := PySem.setGen_self (s := { s with heap := h₁, toks := tk₁, gens := gn.setIfInBounds gi .running }) (PySem.setGen_self (s := { s with heap := h, toks := tk, gens := gn }) hgs1)
      refine wpAny_mono (turn i m h₄ _ c u tt ((a, oa) :: own') ((gn.setIfInBounds gi .running).setIfInBounds gi gs') _ hlt hJ hc F4 N4 hb4) (fun f s₃ hf => ?_) fun _ _ e => e
      have fin : (∃ h' tk' m', s₃ = { s with heap := h', toks := tk', gens := (gn.setIfInBounds gi .running).setIfInBounds gi gs' } ∧ Fr g env.locals h' m' ∧ News g env.locals h' ((a, oa) :: own') ∧ J (i + 1) m') → (∃ n', n' < n ∧ ∃ (i : Nat) (own : List (Addr × Obj)) (gs : GenState) (h : Heap) (tk : Nat) (gn : Array GenState) (m : Str → Option Value), s₃ = { s with heap := h, toks := tk, gens := gn } ∧ i + n' = x.cps.size + 1 ∧ i ≤ x.cps.size ∧ Fr g env.locals h m ∧ J i m ∧ News g env.locals h ((a, oa) :: own) ∧ gn[gi]? = some gs ∧ AllBare gn ∧ (i = 0 → h.objs.size = Z) ∧ ∀ s'' : Shared, (∀ p ∈ own, s''.heap.get? p.1 = some p.2) → g.StaysIn s''.heap → (i = 0 → s''.heap.objs.size = Z) → gs.Goes (model prog w) A.in1 (GR C Z) (GY g C Z x) (x.cps.size - i) (.send .none) s'') := fun ⟨h', tk', m', e, F5, N5, hJ5⟩ => by
        subst e
        exact (⟨n - 1, by omega, i + 1, own', gs', h', tk', _, m', rfl, by omega, hlt, F5, hJ5, N5, hgs4, hb4, fun q => absurd q (Nat.succ_ne_zero i), fun s'' h1 h2 _ => by
          have := hκ s'' h1 h2
          rw [hk1]
          exact this⟩)
      cases f with
      | next => exact fin hf
      | cont => exact fin hf
      | brk => exact hf
      | ret v => exact hf
  · rcases List.mem_cons.mp hp with rfl | hp
    · exact ⟨hoa, haL, hag⟩
    · cases List.mem_singleton.mp hp; exact ⟨hoC, hCL, hCg⟩
end loop_genstrC
section
variable {dmy : Nat}
theorem loop_genstr {prog : Program} {w : World} {A : Around} {s : Shared} {g : Heap} {env : Env} {C a : Addr} {gi : Nat} {x xp xq : Str} {pp pq pt : Pos} {k1 : Nat} {body : List Stmt} {R : Result → Shared → Prop} {oC : Obj} {gs : GenState} {m0 : Str → Option Value}
    (hh : A.handled = none) (hl : g.NoLimit) (hroom : A.depth < recursionLimit) (hp : env.kindOf xp = some .local) (hq : env.kindOf xq = some .local) (hpl : (env.scope.kind == .class || (env.scope.kind == .module && env.locals != env.globals)) = false)
    (F : Fr g env.locals s.heap m0) (hCL : C ≠ env.locals) (hCg : g.get? C = none) (hoC : s.heap.get? C = some oC) (hG : s.heap.IsGen a gi) (haC : a ≠ C) (hag : g.get? a = none) (haL : a ≠ env.locals)
    (hgs : s.gens[gi]? = some gs) (hbare : AllBare s.gens)
    (hgo : ∀ s'' : Shared, s''.heap.get? C = some oC → g.StaysIn s''.heap → s''.heap.objs.size = s.heap.objs.size → gs.Goes (model prog w) A.in1 (GR C s.heap.objs.size) (GY g C s.heap.objs.size x) x.cps.size (.send .none) s'')
    (J : Nat → (Str → Option Value) → Prop) (h0 : J 0 m0)
    (turn : ∀ i m h tk c u ti led gn E', i < x.cps.size → J i m → x.cps[i]? = some c → Fr g env.locals h (fun y => if y = xq then some (.str ⟨#[c]⟩ u) else if y = xp then some (.int (i : Nat) ti) else m y) → News g env.locals h led → AllBare gn →
      wpAny (model prog w) A (execs body env) (GTurn g env.locals s led gn J i R) E' { s with heap := h, toks := tk, gens := gn })
    (done : ∀ m h tk gn, J x.cps.size m → Fr g env.locals h m → AllBare gn → R (.ok .next) { s with heap := h, toks := tk, gens := gn }) :
    codeAny (model prog w) A (.forLoop (.Tuple [.Name xp pp, .Name xq pq] k1 pt) (.ref a) body [] env) R s := by
  refine Classical.byContradiction fun hz9 => ?_
  exact @Classical.epsilon_spec loop_genstrP (fun x => ¬ loop_genstrS x) ⟨⟨prog, w, A, s, g, env, C, a, gi, x, xp, xq, pp, pq, pt, k1, body, R, oC, m0⟩, fun zz9 => hz9 (zz9 gs hh hl hroom hp hq hpl F hCL hCg hoC hG haC hag haL hgs hbare hgo J h0 turn done)⟩ loop_genstrC.key
end
section
variable {w : World} {mean : ExcName → Option Value} {mg mb : Str → Option Value} {A : Around} {hb : Heap} {s : Shared} {Q E : Value → Shared → Prop}
end
noncomputable abbrev check_cP := (World) × (ExcName → Option Value) × (Str → Option Value) × (Str → Option Value) × (Around) × (Heap) × (Shared) × (Value → Shared → Prop) × (Value → Shared → Prop) × (Str) × (Tok)
noncomputable def check_cS : check_cP → Prop := fun p => (fun (w : World) (mean : ExcName → Option Value) (mg : Str → Option Value) (mb : Str → Option Value) (A : Around) (hb : Heap) (s : Shared) (Q : Value → Shared → Prop) (E : Value → Shared → Prop) (x : Str) (t : Tok) => ∀ (X : (hd.heap_1 w.params).In hb)
   (T : Top hd.view_1 (looseW hd.view_1 [Str.ofString "_NodeInfo"]) mean mg mb hb)
   (St : hb.StaysIn s.heap)
   (hcps : ∀ c ∈ x.cps.toList, c = 40 ∨ c = 41)
   (hlen : x.cps.size ≤ 1000)
   (hh : A.handled = none)
   (hbare : AllBare s.gens)
   (hd : A.depth + 5 < recursionLimit)
   (hret : ∀ h' tk' gn', AllBare gn' → (∀ b o, s.heap.get? b = some o → h'.get? b = some o) → Q (.bool (balC x.cps.toList 0)) { s with heap := h', toks := tk', gens := gn' }),
    wpAny (model PySem.Challenge.rw_oh0070_01.row.prog w) A (call (.ref 42) [.str x t]) Q E s) p.1 p.2.1 p.2.2.1 p.2.2.2.1 p.2.2.2.2.1 p.2.2.2.2.2.1 p.2.2.2.2.2.2.1 p.2.2.2.2.2.2.2.1 p.2.2.2.2.2.2.2.2.1 p.2.2.2.2.2.2.2.2.2.1 p.2.2.2.2.2.2.2.2.2.2
noncomputable def check_cX : check_cP := @Classical.epsilon check_cP ⟨⟨⟨fun _ _ => 0, { strHash := fun _ => 0, shareClass := fun _ => 0, mergeTok := fun t => t, idOf := fun _ => 0, idOfShared := fun _ _ => 0, followText := fun _ => false, idOfImm := fun _ => 0 }⟩, fun _ => none, fun _ => none, fun _ => none, callerA, {}, {}, fun _ _ => True, fun _ _ => True, ⟨#[]⟩, 0⟩⟩ fun x => ¬ check_cS x
namespace check_cC
noncomputable def w : World := check_cX.1
noncomputable def mean : ExcName → Option Value := check_cX.2.1
noncomputable def mg : Str → Option Value := check_cX.2.2.1
noncomputable def mb : Str → Option Value := check_cX.2.2.2.1
noncomputable def A : Around := check_cX.2.2.2.2.1
noncomputable def hb : Heap := check_cX.2.2.2.2.2.1
noncomputable def s : Shared := check_cX.2.2.2.2.2.2.1
noncomputable def Q : Value → Shared → Prop := check_cX.2.2.2.2.2.2.2.1
noncomputable def E : Value → Shared → Prop := check_cX.2.2.2.2.2.2.2.2.1
noncomputable def x : Str := check_cX.2.2.2.2.2.2.2.2.2.1
noncomputable def t : Tok := check_cX.2.2.2.2.2.2.2.2.2.2
theorem key : ∀ (X : (hd.heap_1 w.params).In hb)
   (T : Top hd.view_1 (looseW hd.view_1 [Str.ofString "_NodeInfo"]) mean mg mb hb)
   (St : hb.StaysIn s.heap)
   (hcps : ∀ c ∈ x.cps.toList, c = 40 ∨ c = 41)
   (hlen : x.cps.size ≤ 1000)
   (hh : A.handled = none)
   (hbare : AllBare s.gens)
   (hd : A.depth + 5 < recursionLimit)
   (hret : ∀ h' tk' gn', AllBare gn' → (∀ b o, s.heap.get? b = some o → h'.get? b = some o) → Q (.bool (balC x.cps.toList 0)) { s with heap := h', toks := tk', gens := gn' }),
    wpAny (model PySem.Challenge.rw_oh0070_01.row.prog w) A (call (.ref 42) [.str x t]) Q E s := by
  intro X T St hcps hlen hh hbare hd hret
  refine wpAny_call ?_
  k_dflt (refine' enter_def (H := []) (binds := [(Str.ofString "addr", .str x t)]) ?k1 ?k2 ?k3 ?k4 ?k6 ?k7 ?k8 ?k9 ?kB ?_ ?c2 ?c3 ?c4 ?c5; (case k1 => k_asm); (case k2 => k_asm); (case k3 => k_asm); (case k4 => first | assumption | (intro a ha; cases ha)); (case k6 => k_is); (case k7 => k_is); (case k8 => k_room); (case k9 => first | exact BindsTo.of_eq rfl | exact binds_K (X.keeps St) rfl (by k_is) rfl rfl rfl); (case c5 => decide); (case kB => exact locs rfl); (case c2 => exact rfl); (case c3 => exact rfl); (case c4 => exact rfl); k_whole; intro g L' h' hg hL' F' K' X' T' S'; (try dsimp only); (try k_fold))
  have hgz : g.objs.size ≤ L' := F'.above
  subst hg
  have N' : News (hideAll s.heap []) L' h' [] := News.nil
  have hkS : ∀ b o, (hideAll s.heap []).get? b = some o → s.heap.get? b = some o := fun b o e => of_hideAll _ e
  have hSk : ∀ b o, s.heap.get? b = some o → (hideAll s.heap []).get? b = some o := fun b o e => hideAll_get _ e (fun q => nomatch q)
  generalize hideAll s.heap [] = g at *
  ((try clear pk); (try clear pk))
  k_with "call ref" => (k_dflt (refine' strip_c ?k1 ?k2 ?k3 hcps ?k7 ?_; (case k1 => k_asm); (case k2 => k_asm); (case k3 => exact Fr.keep (by k_asm)); (case k7 => k_room); intro h9 tk9 t9 K9; have F9 := fr_keeps (by k_asm) K9; have N9 := news_keeps (by k_asm) K9; clear K9))
  have pk : PkAt 0 := trivial
  k_steps
  refine unpark ?_
  refine wpAny_For ?_ (by intro _; rfl)
  ((try clear pk); (try clear pk))
  have pk : PkAt 1 := trivial
  k_steps
  refine unpark ?_
  rename Fr _ _ _ _ => F2
  refine iter_c X' T' F2.keep hcps (Nat.le_trans hgz (Nat.le_of_lt F2.ns.lt)) (by k_room) ?_
  intro a C oC h2 tk2 gs hk2 hC0 ha0 haC hoC hG hsz hgb hgo
  refine wpAny_pyIter_gen hG ?_
  have F3 := fr_keeps F2 hk2
  obtain ⟨hCL, hCg⟩ := fr_new F2 hC0
  obtain ⟨haL, hag⟩ := fr_new F2 ha0
  refine loop_genstr (g := g) (C := C) (a := a) (gi := s.gens.size) (x := x) (oC := oC) (gs := gs) (by show A.handled = none; exact hh) T'.nolimit (by k_room) (by rfl) (by rfl) (by rfl) F3 hCL hCg hoC hG haC hag haL (by simp) (hbare.push hgb) ?_
    (fun i m => ∃ o ot, m (Str.ofString "opens") = some (.int o ot) ∧ 0 ≤ o ∧ o ≤ i ∧ balC (x.cps.toList.drop i) o = balC x.cps.toList 0) ⟨0, _, rfl, Int.le_refl _, Int.le_refl _, rfl⟩ ?_ ?_
  · intro s'' h1 h3 h4
    exact hgo _ _ s'' (by show A.handled = none; exact hh) h1 h3 h4
  · clear F2 F3
    intro i m h tk c u ti led gn E' hlt hJ hc F N hbn
    obtain ⟨o, ot, ho, ho0, hoi, hbal⟩ := hJ
    have hc' : c = 40 ∨ c = 41 := hcps c (by rw [Array.getElem?_eq_some_iff] at hc; obtain ⟨q, rfl⟩ := hc; simp)
    have hdrop : x.cps.toList.drop i = c :: x.cps.toList.drop (i + 1) := by
      rw [List.drop_eq_getElem_cons (by simpa using hlt)]
      congr 1
      have := Array.getElem?_eq_some_iff.mp hc
      obtain ⟨q, e⟩ := this
      simpa using e
    rw [hdrop, balC] at hbal
    rw [← kstB_same (m := m) (ps := [(Str.ofString "opens", .int o ot)]) (fun p hp => by cases List.mem_singleton.mp hp; exact ho)] at F
    rcases hc' with rfl | rfl
    · rw [if_pos rfl] at hbal
      ((try clear pk); (try clear pk))
      k_steps
      refine gturn_end (by assumption) (by assumption) ⟨o + 1, _, rfl, by omega, by omega, hbal⟩
    · rw [if_neg (by decide)] at hbal
      by_cases hneg : o - 1 < 0
      · rw [if_pos hneg] at hbal
        ((try clear pk); (try clear pk))
        k_steps
        rename Fr _ _ _ _ => fE
        have z := hret _ tk gn hbn (fun b o e => fE.keep b o (hSk b o e))
        rw [← hbal] at z
        exact z
      · rw [if_neg hneg] at hbal
        ((try clear pk); (try clear pk))
        k_steps
        refine gturn_end (by assumption) (by assumption) ⟨o - 1, _, rfl, by omega, by omega, hbal⟩
  · intro m h tk gn hJ F N
    obtain ⟨o, ot, ho, ho0, hoi, hbal⟩ := hJ
    clear F2 F3
    rw [← kstB_same (m := m) (ps := [(Str.ofString "opens", .int o ot)]) (fun p hp => by cases List.mem_singleton.mp hp; exact ho)] at F
    rw [List.drop_of_length_le (by simp), balC] at hbal
    have N0 : News g L' h [] := News.nil
    ((try clear pk); (try clear pk))
    k_steps
    rename Fr _ _ _ _ => fE
    have z := fun tk => hret _ tk gn N (fun b o e => fE.keep b o (hSk b o e))
    rw [← hbal] at z
    exact z _
end check_cC
section
variable {w : World} {mean : ExcName → Option Value} {mg mb : Str → Option Value} {A : Around} {hb : Heap} {s : Shared} {Q E : Value → Shared → Prop}
theorem check_c {x : Str} {t : Tok} (X : (hd.heap_1 w.params).In hb) (T : Top hd.view_1 (looseW hd.view_1 [Str.ofString "_NodeInfo"]) mean mg mb hb) (St : hb.StaysIn s.heap)
   (hcps : ∀ c ∈ x.cps.toList, c = 40 ∨ c = 41) (hlen : x.cps.size ≤ 1000) (hh : A.handled = none) (hbare : AllBare s.gens) (hd : A.depth + 5 < recursionLimit)
    (hret : ∀ h' tk' gn', AllBare gn' → (∀ b o, s.heap.get? b = some o → h'.get? b = some o) → Q (.bool (balC x.cps.toList 0)) { s with heap := h', toks := tk', gens := gn' }) :
    wpAny (model PySem.Challenge.rw_oh0070_01.row.prog w) A (call (.ref 42) [.str x t]) Q E s := by
  refine Classical.byContradiction fun hz9 => ?_
  exact @Classical.epsilon_spec check_cP (fun x => ¬ check_cS x) ⟨⟨w, mean, mg, mb, A, hb, s, Q, E, x, t⟩, fun zz9 => hz9 (zz9 X T St hcps hlen hh hbare hd hret)⟩ check_cC.key
end
end Part_G3
section Part_G4
theorem rules_G4 : True := by
  k_with_none
  w_top off
  k_with "exec For Name Name cons nil" => refine parkAt (n := 0) (by with_reducible assumption) ?_
  k_with "m pyIter ref" => refine parkAt (n := 1) (by with_reducible assumption) ?_
  k_with "m mine list" => first | exact isL (by k_asm) (by k_mem) | exact isB (by k_asm) (by assumption)
  k_with "m call builtin:len" => (k_here; (try dsimp only); (with_reducible show wpAny _ _ (call (Value.builtin "len") [Value.ref _]) _ _ _); k_dflt (refine' len_L ?zqk1 ?zqk3 ?zqk4 ?_; (case zqk1 => walk_at "mine list"); (case zqk3 => assumption); (case zqk4 => omega)))
  k_with "m subscriptTail" => (k_here; (try dsimp only); (with_reducible show wpAny _ _ (subscriptTail _ _ (Value.ref _) (Value.int _ _)) _ _ _); k_dflt (first | (refine' item_L ?zqk1 ?zqk3 ?zqk4 ?zqk5 ?zqk6 ?_ ?zqk8; (case zqk1 => walk_at "mine list"); (case zqk3 => assumption); (case zqk5 => with_reducible assumption); (case zqk4 => omega); (case zqk6 => omega); (case zqk8 => with_unfolding_all rfl); k_whole; intro t9) | (refine' out_L ?zqk0 ?zqk1 ?zqk3 ?zqk4 ?zqk5 ?_ ?zqk8; (case zqk0 => first | rfl | assumption); (case zqk1 => walk_at "mine list"); (case zqk3 => assumption); (case zqk4 => omega); (case zqk5 => omega); (case zqk8 => with_unfolding_all rfl); k_whole; intro h9 tk9 e9 x9)))
  k_with "m subscriptTail Name Name ref int" => (k_here; (try dsimp only); (with_reducible show wpAny _ _ (subscriptTail _ _ (Value.ref _) (Value.int _ _)) _ _ _); k_dflt (first | (refine' item_L ?zqk1 ?zqk3 ?zqk4 ?zqk5 ?zqk6 ?_ ?zqk8; (case zqk1 => walk_at "mine list"); (case zqk3 => assumption); (case zqk5 => with_reducible assumption); (case zqk4 => omega); (case zqk6 => omega); (case zqk8 => with_unfolding_all rfl); k_whole; intro t9) | (refine' out_L ?zqk0 ?zqk1 ?zqk3 ?zqk4 ?zqk5 ?_ ?zqk8; (case zqk0 => first | rfl | assumption); (case zqk1 => walk_at "mine list"); (case zqk3 => assumption); (case zqk4 => omega); (case zqk5 => omega); (case zqk8 => with_unfolding_all rfl); k_whole; intro h9 tk9 e9 x9) | (refine' out_over ?zqk0 ?zqkN ?zqkm ?zqkb ?zqk1 ?zqk3 ?zqk4 ?zqk5 ?_ ?zqk8; (case zqk0 => rfl); (case zqkN => k_asm); (case zqkm => k_mem); (case zqkb => assumption); (case zqk1 => walk_at "mine list"); (case zqk3 => assumption); (case zqk4 => omega); (case zqk5 => omega); (case zqk8 => with_unfolding_all rfl); k_whole; intro h9 tk9 e9 x9)))
  k_with "m subscriptTail Name Slice ref ref" => (k_here; k_dflt (refine' kmk_slice_ints ?zqF ?zqN ?zql ?zqpl ?zqpu ?zqhi ?zqhm rfl ?_ ?zqhs ?zqht ?zqhz; (case zqF => k_asm); (case zqN => k_asm); (case zql => walk_at "mine list"); (case zqpl => kmk_part); (case zqpu => kmk_part); (case zqhi => assumption); (case zqhm => first | (with_reducible refine kmk_from (by assumption) ?_; omega) | (with_reducible refine kmk_upto (by assumption) ?_; omega) | with_reducible exact kmk_all (by assumption)); (case zqhs => with_unfolding_all rfl); (case zqht => kmk_pure); (case zqhz => exact kmk_sz (by assumption) (by simp only [sizeLine_eq]; omega)); k_whole; intro D9 ws9 h9 F9 N9 l9 I9 e9 e9'; (try k_lt l9)))
  k_with "m call builtin:list.extend" => (k_here; k_dflt (refine' extend_L ?zqF ?zqN ?zqm ?zqU ?zqi1 ?zqi2 ?zqz ?_; (case zqF => k_asm); (case zqN => k_asm); (case zqU => k_upd); (case zqm => k_mem); (case zqi1 => walk_at "mine ints"); (case zqi2 => walk_at "mine ints"); (case zqz => walk_at "mine len"); k_whole; intro h9 F9 N9 I9))
  k_with "m mine len" => first | omega | (simp only [List.length_append, List.length_drop, List.length_take, List.length_nil, List.length_cons] at *; omega)
  k_with "m mine ints" => first | exact IntsAre.nil | assumption
  k_with "m compareOp In int ref" => (k_here; (try dsimp only); k_dflt (refine' in_L ?zqm ?zqi ?_; (case zqm => walk_at "mine list"); (case zqi => assumption)))
  k_with "m call builtin:list.append" => (k_here; (with_reducible show wpAny _ _ (call (Value.builtin _) [Value.ref _, _]) _ _ _); k_dflt (refine' append_K ?zqk1 ?zqk2 ?zqk3 ?_ ?zqz; (case zqk1 => k_asm); (case zqk2 => k_asm); (case zqk3 => k_upd); (case zqz => first | size_fits | (rw [List.size_toArray, sizeLine_eq]; omega)); k_whole); intro h' F' N'; (try k_sweep))
  trivial
noncomputable def GEnd (g : Heap) (L I : Addr) (oI : Obj) (s : Shared) (J : Nat → (Str → Option Value) → List (Addr × Obj) → Prop) (i : Nat) (R : Result → Shared → Prop) (f : Flow) (s₃ : Shared) : Prop :=
  match f with
  | .brk => R (.ok .next) s₃
  | .ret v => R (.ok (.ret v)) s₃
  | _ => ∃ h' tk' gn' m' news', s₃ = { s with heap := h', toks := tk', gens := gn' } ∧ Fr g L h' m' ∧ News g L h' ((I, oI) :: news') ∧ (∀ p ∈ news', p.1 ≠ I) ∧ AllBare gn' ∧ J (i + 1) m' news'
theorem gend_end {g : Heap} {L I : Addr} {oI : Obj} {s : Shared} {J : Nat → (Str → Option Value) → List (Addr × Obj) → Prop} {i : Nat} {R : Result → Shared → Prop} {h' : Heap} {tk' : Nat} {gn' : Array GenState} {m' : Str → Option Value} (news' : List (Addr × Obj)) (F : Fr g L h' m') (N : News g L h' ((I, oI) :: news')) (ho : ∀ p ∈ news', p.1 ≠ I) (hb : AllBare gn') (hJ : J (i + 1) m' news') :
    GEnd g L I oI s J i R .next { s with heap := h', toks := tk', gens := gn' } := ⟨h', tk', gn', m', news', rfl, F, N, ho, hb, hJ⟩
noncomputable abbrev loop_listGP := (Program) × (World) × (Around) × (Shared) × (Heap) × (Env) × (Addr) × (Array Value) × (Str) × (Pos) × (List Stmt) × (Result → Shared → Prop) × (Str → Option Value) × (List (Addr × Obj)) × (Value → Shared → Prop)
noncomputable def loop_listGS : loop_listGP → Prop := fun p => (fun (prog : Program) (w : World) (A : Around) (s : Shared) (g : Heap) (env : Env) (l : Addr) (its : Array Value) (x : Str) (px : Pos) (body : List Stmt) (R : Result → Shared → Prop) (m0 : Str → Option Value) (news0 : List (Addr × Obj)) (E : Value → Shared → Prop) => ∀ (hh : A.handled = none)
   (hx : env.kindOf x = some .local)
   (hpl : (env.scope.kind == .class || (env.scope.kind == .module && env.locals != env.globals)) = false)
   (F : Fr g env.locals s.heap m0)
   (N : News g env.locals s.heap news0)
   (hl : g.IsList l its)
   (hbare : AllBare s.gens)
   (J : Nat → (Str → Option Value) → List (Addr × Obj) → Prop)
   (h0 : J 0 m0 news0)
   (turn : ∀ i m h tk v gn I oI news E', its[i]? = some v → J i m news → Fr g env.locals h (fun y => if y = x then some v else m y) → News g env.locals h ((I, oI) :: news) → (∀ p ∈ news, p.1 ≠ I) → AllBare gn →
      wpAny (model prog w) A (execs body env) (GEnd g env.locals I oI s J i R) E' { s with heap := h, toks := tk, gens := gn })
   (done : ∀ m h tk gn news, J its.size m news → Fr g env.locals h m → News g env.locals h news → AllBare gn → R (.ok .next) { s with heap := h, toks := tk, gens := gn }),
    wpAny (model prog w) A (pyIter (.ref l)) (fun it s₂ => codeAny (model prog w) A (.forLoop (.Name x px) it body [] env) R s₂) E s) p.1 p.2.1 p.2.2.1 p.2.2.2.1 p.2.2.2.2.1 p.2.2.2.2.2.1 p.2.2.2.2.2.2.1 p.2.2.2.2.2.2.2.1 p.2.2.2.2.2.2.2.2.1 p.2.2.2.2.2.2.2.2.2.1 p.2.2.2.2.2.2.2.2.2.2.1 p.2.2.2.2.2.2.2.2.2.2.2.1 p.2.2.2.2.2.2.2.2.2.2.2.2.1 p.2.2.2.2.2.2.2.2.2.2.2.2.2.1 p.2.2.2.2.2.2.2.2.2.2.2.2.2.2
noncomputable def loop_listGX : loop_listGP := @Classical.epsilon loop_listGP ⟨⟨default, ⟨fun _ _ => 0, { strHash := fun _ => 0, shareClass := fun _ => 0, mergeTok := fun t => t, idOf := fun _ => 0, idOfShared := fun _ _ => 0, followText := fun _ => false, idOfImm := fun _ => 0 }⟩, callerA, {}, {}, default, 0, default, ⟨#[]⟩, default, [], fun _ _ => True, fun _ => none, [], fun _ _ => True⟩⟩ fun x => ¬ loop_listGS x
namespace loop_listGC
noncomputable def prog : Program := loop_listGX.1
noncomputable def w : World := loop_listGX.2.1
noncomputable def A : Around := loop_listGX.2.2.1
noncomputable def s : Shared := loop_listGX.2.2.2.1
noncomputable def g : Heap := loop_listGX.2.2.2.2.1
noncomputable def env : Env := loop_listGX.2.2.2.2.2.1
noncomputable def l : Addr := loop_listGX.2.2.2.2.2.2.1
noncomputable def its : Array Value := loop_listGX.2.2.2.2.2.2.2.1
noncomputable def x : Str := loop_listGX.2.2.2.2.2.2.2.2.1
noncomputable def px : Pos := loop_listGX.2.2.2.2.2.2.2.2.2.1
noncomputable def body : List Stmt := loop_listGX.2.2.2.2.2.2.2.2.2.2.1
noncomputable def R : Result → Shared → Prop := loop_listGX.2.2.2.2.2.2.2.2.2.2.2.1
noncomputable def m0 : Str → Option Value := loop_listGX.2.2.2.2.2.2.2.2.2.2.2.2.1
noncomputable def news0 : List (Addr × Obj) := loop_listGX.2.2.2.2.2.2.2.2.2.2.2.2.2.1
noncomputable def E : Value → Shared → Prop := loop_listGX.2.2.2.2.2.2.2.2.2.2.2.2.2.2
theorem key : ∀ (hh : A.handled = none)
   (hx : env.kindOf x = some .local)
   (hpl : (env.scope.kind == .class || (env.scope.kind == .module && env.locals != env.globals)) = false)
   (F : Fr g env.locals s.heap m0)
   (N : News g env.locals s.heap news0)
   (hl : g.IsList l its)
   (hbare : AllBare s.gens)
   (J : Nat → (Str → Option Value) → List (Addr × Obj) → Prop)
   (h0 : J 0 m0 news0)
   (turn : ∀ i m h tk v gn I oI news E', its[i]? = some v → J i m news → Fr g env.locals h (fun y => if y = x then some v else m y) → News g env.locals h ((I, oI) :: news) → (∀ p ∈ news, p.1 ≠ I) → AllBare gn →
      wpAny (model prog w) A (execs body env) (GEnd g env.locals I oI s J i R) E' { s with heap := h, toks := tk, gens := gn })
   (done : ∀ m h tk gn news, J its.size m news → Fr g env.locals h m → News g env.locals h news → AllBare gn → R (.ok .next) { s with heap := h, toks := tk, gens := gn }),
    wpAny (model prog w) A (pyIter (.ref l)) (fun it s₂ => codeAny (model prog w) A (.forLoop (.Name x px) it body [] env) R s₂) E s := by
  intro hh hx hpl F N hl hbare J h0 turn done
  have hls := stays_list F.keep hl
  refine wpAny_pyIter_list hls ?_
  have hne : l ≠ s.heap.objs.size := by obtain ⟨_, e, _⟩ := hls; exact Nat.ne_of_lt (Heap.lt_size e)
  have W := Walks.list (prog := prog) (w := w) hh s.heap.objs.size l hne its
  have hIg : g.get? s.heap.objs.size = none := next_is_new F
  have hIL : s.heap.objs.size ≠ env.locals := (Nat.ne_of_lt F.ns.lt).symm
  refine codeAny_forLoop (fun n s1 => ∃ (i : Nat) (h : Heap) (tk : Nat) (gn : Array GenState) (m : Str → Option Value) (news : List (Addr × Obj)), s1 = { s with heap := h, toks := tk, gens := gn } ∧ i + n = its.size + 1 ∧ i ≤ its.size ∧
      Fr g env.locals h m ∧ News g env.locals h news ∧ (∀ p ∈ news, p.1 ≠ s.heap.objs.size) ∧ h.IsListIter s.heap.objs.size l i ∧ AllBare gn ∧ J i m news) ?_ (its.size + 1)
    ⟨0, _, _, _, m0, news0, rfl, Nat.zero_add _, Nat.zero_le _, F.push _, fun p hp => ⟨Heap.get?_push_of_some _ (N p hp).1, (N p hp).2⟩, fun p hp => Nat.ne_of_lt (Heap.lt_size (N p hp).1), ⟨_, Heap.get?_push_size _ rfl, rfl, rfl⟩, hbare, h0⟩ (by intro _; rfl)
  rintro n s1 ⟨i, h, tk, gn, m, news, rfl, hin, hi, F1, N1, ho1, hit1, hb1, hJ⟩
  by_cases hlt : i < its.size
  · refine W.item i _ _ _ hlt ⟨hit1, stays_list F1.keep hl⟩ fun v h₂ tk₂ hv hst₂ hk₂ => ?_
    dsimp only
    have up₂ : ∀ b o, b ≠ s.heap.objs.size → h.get? b = some o → h₂.get? b = some o := fun b o hb e => hk₂ b o (by simpa using hb) e
    have F2 : Fr g env.locals h₂ m := ⟨F1.ns.at' fun o e => up₂ _ o (Ne.symm hIL) e, fun b o e => up₂ b o (fun q => by rw [q, hIg] at e; cases e) (F1.keep b o e), F1.above⟩
    refine wpAny_assign_Name (wpAny_storeName_local hx F2.ns (fun h₃ hn₃ hs₃ => ?_) hpl)
    replace hs₃ : Heap.SameBut env.locals h₂ h₃ := hs₃
    have F3 : Fr g env.locals h₃ _ := F2.set hn₃ hs₃
    have N3 : News g env.locals h₃ news := fun p hp => ⟨hs₃.extBut _ _ (N1 p hp).2.1 (up₂ _ _ (ho1 p hp) (N1 p hp).1), (N1 p hp).2⟩
    obtain ⟨oI, hoI, hcI, hdI⟩ := hst₂.1
    have hoI3 : h₃.get? s.heap.objs.size = some oI := hs₃.extBut _ _ hIL hoI
    refine wpAny_mono (turn i m h₃ _ v gn s.heap.objs.size oI news _ hv hJ F3 (fun p hp => ?_) ho1 hb1) (fun f s₃ hf => ?_) fun _ _ e => e
    · rcases List.mem_cons.mp hp with rfl | hp
      · exact ⟨hoI3, hIL, hIg⟩
      · exact N3 p hp
    · have fin : (∃ h' tk' gn' m' news', s₃ = { s with heap := h', toks := tk', gens := gn' } ∧ Fr g env.locals h' m' ∧ News g env.locals h' ((s.heap.objs.size, oI) :: news') ∧ (∀ p ∈ news', p.1 ≠ s.heap.objs.size) ∧ AllBare gn' ∧ J (i + 1) m' news') →
          (∃ n', n' < n ∧ ∃ (i : Nat) (h : Heap) (tk : Nat) (gn : Array GenState) (m : Str → Option Value) (news : List (Addr × Obj)), s₃ = { s with heap := h, toks := tk, gens := gn } ∧ i + n' = its.size + 1 ∧ i ≤ its.size ∧
      Fr g env.locals h m ∧ News g env.locals h news ∧ (∀ p ∈ news, p.1 ≠ s.heap.objs.size) ∧ h.IsListIter s.heap.objs.size l i ∧ AllBare gn ∧ J i m news) := fun ⟨h', tk', gn', m', news', e, F4, N4, ho4, hb4, hJ4⟩ => by
        subst e
        exact ⟨n - 1, by omega, i + 1, h', tk', gn', m', news', rfl, by omega, hlt, F4, fun p hp => N4 p (.tail _ hp), ho4, ⟨oI, (N4 _ (.head _)).1, hcI, hdI⟩, hb4, hJ4⟩
      cases f with
      | next => exact fin hf
      | cont => exact fin hf
      | brk => exact hf
      | ret v => exact hf
  · obtain rfl : i = its.size := Nat.le_antisymm hi (Nat.not_lt.mp hlt)
    refine W.done _ _ _ ⟨hit1, stays_list F1.keep hl⟩ fun h₂ tk₂ hk₂ => ?_
    dsimp only
    have up₂ : ∀ b o, b ≠ s.heap.objs.size → h.get? b = some o → h₂.get? b = some o := fun b o hb e => hk₂ b o (by simpa using hb) e
    refine wpAny_execs_nil (done m h₂ _ _ news hJ ⟨F1.ns.at' fun o e => up₂ _ o (Ne.symm hIL) e, fun b o e => up₂ b o (fun q => by rw [q, hIg] at e; cases e) (F1.keep b o e), F1.above⟩ (fun p hp => ⟨up₂ _ _ (ho1 p hp) (N1 p hp).1, (N1 p hp).2⟩) hb1)
end loop_listGC
section
variable {dmy : Nat}
theorem loop_listG {prog : Program} {w : World} {A : Around} {s : Shared} {g : Heap} {env : Env} {l : Addr} {its : Array Value} {x : Str} {px : Pos} {body : List Stmt} {R : Result → Shared → Prop} {m0 : Str → Option Value} {news0 : List (Addr × Obj)} {E : Value → Shared → Prop}
    (hh : A.handled = none) (hx : env.kindOf x = some .local) (hpl : (env.scope.kind == .class || (env.scope.kind == .module && env.locals != env.globals)) = false)
    (F : Fr g env.locals s.heap m0) (N : News g env.locals s.heap news0) (hl : g.IsList l its) (hbare : AllBare s.gens) (J : Nat → (Str → Option Value) → List (Addr × Obj) → Prop) (h0 : J 0 m0 news0)
    (turn : ∀ i m h tk v gn I oI news E', its[i]? = some v → J i m news → Fr g env.locals h (fun y => if y = x then some v else m y) → News g env.locals h ((I, oI) :: news) → (∀ p ∈ news, p.1 ≠ I) → AllBare gn →
      wpAny (model prog w) A (execs body env) (GEnd g env.locals I oI s J i R) E' { s with heap := h, toks := tk, gens := gn })
    (done : ∀ m h tk gn news, J its.size m news → Fr g env.locals h m → News g env.locals h news → AllBare gn → R (.ok .next) { s with heap := h, toks := tk, gens := gn }) :
    wpAny (model prog w) A (pyIter (.ref l)) (fun it s₂ => codeAny (model prog w) A (.forLoop (.Name x px) it body [] env) R s₂) E s := by
  refine Classical.byContradiction fun hz9 => ?_
  exact @Classical.epsilon_spec loop_listGP (fun x => ¬ loop_listGS x) ⟨⟨prog, w, A, s, g, env, l, its, x, px, body, R, m0, news0, E⟩, fun zz9 => hz9 (zz9 hh hx hpl F N hl hbare J h0 turn done)⟩ loop_listGC.key
end
/-- texts as values -/
noncomputable def StrsAre : List Value → List Str → Prop
  | [], [] => True
  | v :: vs, x :: xs => (∃ t, v = .str x t) ∧ StrsAre vs xs
  | _, _ => False
theorem StrsAre.length : ∀ {vs : List Value} {xs : List Str}, StrsAre vs xs → vs.length = xs.length
  | [], [], _ => rfl
  | _ :: _, _ :: _, h => by rw [List.length_cons, List.length_cons, h.2.length]
  | [], _ :: _, h => h.elim
  | _ :: _, [], h => h.elim
theorem StrsAre.get : ∀ {vs : List Value} {xs : List Str}, StrsAre vs xs → ∀ (i : Nat) (x : Str), xs[i]? = some x → ∃ t, vs[i]? = some (.str x t)
  | [], [], _, i, x, h => by cases i <;> cases h
  | v :: vs, y :: xs, h, 0, x, e => by
    obtain ⟨⟨t, rfl⟩, _⟩ := h
    cases e; exact ⟨t, rfl⟩
  | v :: vs, y :: xs, h, i + 1, x, e => h.2.get i x e
  | [], _ :: _, h, _, _, _ => h.elim
  | _ :: _, [], h, _, _, _ => h.elim
theorem StrsAre.snoc : ∀ {vs : List Value} {xs : List Str}, StrsAre vs xs → ∀ (x : Str) (t : Tok), StrsAre (vs ++ [.str x t]) (xs ++ [x])
  | [], [], _, x, t => ⟨⟨t, rfl⟩, trivial⟩
  | _ :: _, _ :: _, h, x, t => ⟨h.1, h.2.snoc x t⟩
  | [], _ :: _, h, _, _ => h.elim
  | _ :: _, [], h, _, _ => h.elim
noncomputable def ppv (x : Str) : Str := if balC x.cps.toList 0 = true then x else Str.ofString "('', '')"
theorem fillG4 (w : World) (h : Heap) : PySem.Challenge.rw_oh0070_01.foot = 5 → (hd.heap_1 w.params).In h → True := by
  k_fill
  intro _ _
  trivial
section
variable {w : World} {mean : ExcName → Option Value} {mg mb : Str → Option Value} {A : Around} {hb : Heap} {s : Shared} {Q E : Value → Shared → Prop}
theorem check_b {x : Str} {t : Tok} {b : Bool} (X : (hd.heap_1 w.params).In hb) (T : Top hd.view_1 (looseW hd.view_1 [Str.ofString "_NodeInfo"]) mean mg mb hb) (St : hb.StaysIn s.heap)
   (hcps : ∀ c ∈ x.cps.toList, c = 40 ∨ c = 41) (hlen : x.cps.size ≤ 1000) (hh : A.handled = none) (hbare : AllBare s.gens) (hd : A.depth + 5 < recursionLimit) (hv : balC x.cps.toList 0 = b)
    (hret : ∀ h' tk' gn', AllBare gn' → (∀ b o, s.heap.get? b = some o → h'.get? b = some o) → Q (.bool b) { s with heap := h', toks := tk', gens := gn' }) :
    wpAny (model PySem.Challenge.rw_oh0070_01.row.prog w) A (call (.ref 42) [.str x t]) Q E s := check_c X T St hcps hlen hh hbare hd (by rw [hv]; exact hret)
end
noncomputable abbrev ppv_cP := (World) × (ExcName → Option Value) × (Str → Option Value) × (Str → Option Value) × (Around) × (Heap) × (Shared) × (Value → Shared → Prop) × (Value → Shared → Prop) × (Addr) × (List Value) × (List Str)
noncomputable def ppv_cS : ppv_cP → Prop := fun p => (fun (w : World) (mean : ExcName → Option Value) (mg : Str → Option Value) (mb : Str → Option Value) (A : Around) (hb : Heap) (s : Shared) (Q : Value → Shared → Prop) (E : Value → Shared → Prop) (l : Addr) (its : List Value) (xs : List Str) => ∀ (X : (hd.heap_1 w.params).In hb)
   (T : Top hd.view_1 (looseW hd.view_1 [Str.ofString "_NodeInfo"]) mean mg mb hb)
   (St : hb.StaysIn s.heap)
   (hl : s.heap.IsList l its.toArray)
   (hi : StrsAre its xs)
   (hxs : ∀ x ∈ xs, (∀ c ∈ x.cps.toList, c = 40 ∨ c = 41) ∧ x.cps.size ≤ 1000)
   (hn : xs.length ≤ 1000)
   (hh : A.handled = none)
   (hbare : AllBare s.gens)
   (hd : A.depth + 8 < recursionLimit)
   (hret : ∀ l' its' n' h' tk' gn', AllBare gn' → (∀ b o, s.heap.get? b = some o → h'.get? b = some o) → s.heap.get? l' = none → h'.get? l' = some (listOf its'.toArray n') → StrsAre its' (xs.map ppv) → Q (.ref l') { s with heap := h', toks := tk', gens := gn' }),
    wpAny (model PySem.Challenge.rw_oh0070_01.row.prog w) A (call (.ref 49) [.ref l]) Q E s) p.1 p.2.1 p.2.2.1 p.2.2.2.1 p.2.2.2.2.1 p.2.2.2.2.2.1 p.2.2.2.2.2.2.1 p.2.2.2.2.2.2.2.1 p.2.2.2.2.2.2.2.2.1 p.2.2.2.2.2.2.2.2.2.1 p.2.2.2.2.2.2.2.2.2.2.1 p.2.2.2.2.2.2.2.2.2.2.2
noncomputable def ppv_cX : ppv_cP := @Classical.epsilon ppv_cP ⟨⟨⟨fun _ _ => 0, { strHash := fun _ => 0, shareClass := fun _ => 0, mergeTok := fun t => t, idOf := fun _ => 0, idOfShared := fun _ _ => 0, followText := fun _ => false, idOfImm := fun _ => 0 }⟩, fun _ => none, fun _ => none, fun _ => none, callerA, {}, {}, fun _ _ => True, fun _ _ => True, 0, [], []⟩⟩ fun x => ¬ ppv_cS x
namespace ppv_cC
noncomputable def w : World := ppv_cX.1
noncomputable def mean : ExcName → Option Value := ppv_cX.2.1
noncomputable def mg : Str → Option Value := ppv_cX.2.2.1
noncomputable def mb : Str → Option Value := ppv_cX.2.2.2.1
noncomputable def A : Around := ppv_cX.2.2.2.2.1
noncomputable def hb : Heap := ppv_cX.2.2.2.2.2.1
noncomputable def s : Shared := ppv_cX.2.2.2.2.2.2.1
noncomputable def Q : Value → Shared → Prop := ppv_cX.2.2.2.2.2.2.2.1
noncomputable def E : Value → Shared → Prop := ppv_cX.2.2.2.2.2.2.2.2.1
noncomputable def l : Addr := ppv_cX.2.2.2.2.2.2.2.2.2.1
noncomputable def its : List Value := ppv_cX.2.2.2.2.2.2.2.2.2.2.1
noncomputable def xs : List Str := ppv_cX.2.2.2.2.2.2.2.2.2.2.2
theorem key : ∀ (X : (hd.heap_1 w.params).In hb)
   (T : Top hd.view_1 (looseW hd.view_1 [Str.ofString "_NodeInfo"]) mean mg mb hb)
   (St : hb.StaysIn s.heap)
   (hl : s.heap.IsList l its.toArray)
   (hi : StrsAre its xs)
   (hxs : ∀ x ∈ xs, (∀ c ∈ x.cps.toList, c = 40 ∨ c = 41) ∧ x.cps.size ≤ 1000)
   (hn : xs.length ≤ 1000)
   (hh : A.handled = none)
   (hbare : AllBare s.gens)
   (hd : A.depth + 8 < recursionLimit)
   (hret : ∀ l' its' n' h' tk' gn', AllBare gn' → (∀ b o, s.heap.get? b = some o → h'.get? b = some o) → s.heap.get? l' = none → h'.get? l' = some (listOf its'.toArray n') → StrsAre its' (xs.map ppv) → Q (.ref l') { s with heap := h', toks := tk', gens := gn' }),
    wpAny (model PySem.Challenge.rw_oh0070_01.row.prog w) A (call (.ref 49) [.ref l]) Q E s := by
  intro X T St hl hi hxs hn hh hbare hd hret
  refine wpAny_call ?_
  k_dflt (refine' enter_def (H := []) (binds := [(Str.ofString "email_header_fields", .ref l)]) ?k1 ?k2 ?k3 ?k4 ?k6 ?k7 ?k8 ?k9 ?kB ?_ ?c2 ?c3 ?c4 ?c5; (case k1 => k_asm); (case k2 => k_asm); (case k3 => k_asm); (case k4 => first | assumption | (intro a ha; cases ha)); (case k6 => k_is); (case k7 => k_is); (case k8 => k_room); (case k9 => first | exact BindsTo.of_eq rfl | exact binds_K (X.keeps St) rfl (by k_is) rfl rfl rfl); (case c5 => decide); (case kB => exact locs rfl); (case c2 => exact rfl); (case c3 => exact rfl); (case c4 => exact rfl); k_whole; intro g L' h' hg hL' F' K' X' T' S'; (try dsimp only); (try k_fold))
  subst hg
  have N' : News (hideAll s.heap []) L' h' [] := News.nil
  have hSk : ∀ b o, s.heap.get? b = some o → (hideAll s.heap []).get? b = some o := fun b o e => hideAll_get _ e (fun q => nomatch q)
  have hkS : ∀ b o, (hideAll s.heap []).get? b = some o → s.heap.get? b = some o := fun b o e => of_hideAll _ e
  have hlg : (hideAll s.heap []).IsList l its.toArray := stays_list hSk hl
  generalize hideAll s.heap [] = g at *
  ((try clear pk); (try clear pk))
  have pk : PkAt 0 := trivial
  k_steps
  refine unpark ?_
  refine wpAny_For ?_ (by intro _; rfl)
  ((try clear pk); (try clear pk))
  have pk : PkAt 1 := trivial
  k_steps
  refine unpark ?_
  rename Fr _ _ _ _ => F2
  rename News _ _ _ _ => N2
  obtain ⟨la, hla⟩ := News.lead N2
  subst hla
  refine loop_listG (by show A.handled = none; exact hh) (by rfl) (by rfl) F2 N2 hlg hbare (fun i m news => ∃ ti, news = [(la, listOf ti.toArray i)] ∧ m (Str.ofString "accepted_values") = some (.ref la) ∧ StrsAre ti ((xs.take i).map ppv)) ⟨[], rfl, rfl, by rw [List.take_zero]; trivial⟩ ?_ ?_
  · clear F2 N2
    intro i m h tk v gn I oI news E' hv hJ F N ho hb
    obtain ⟨ti, rfl, hm, hti⟩ := hJ
    have hlt : i < xs.length := by
      have := (Array.getElem?_eq_some_iff.mp hv).1
      rw [List.size_toArray, hi.length] at this
      exact this
    obtain ⟨x, hx⟩ : ∃ x, xs[i]? = some x := ⟨xs[i], List.getElem?_eq_getElem hlt⟩
    obtain ⟨t, hvt⟩ := hi.get i x hx
    obtain rfl : v = .str x t := by
      have : its.toArray[i]? = its[i]? := by simp
      rw [this, hvt] at hv
      exact (Option.some.inj hv).symm
    obtain ⟨hx1, hx2⟩ := hxs x (List.mem_of_getElem? hx)
    have N : News g L' h [(I, oI), (la, listOf ti.toArray i)] := N
    have hne : la ≠ I := ho _ (.head _)
    have ho' : ∀ (o : Obj), ∀ p ∈ [(la, o)], p.1 ≠ I := fun o p hp => by rw [List.mem_singleton.mp hp]; exact hne
    have htl : ti.length = i := by
      have := hti.length
      rw [List.length_map, List.length_take] at this
      omega
    have htake : (xs.take (i + 1)).map ppv = (xs.take i).map ppv ++ [ppv x] := by
      rw [List.take_add_one, hx, List.map_append]; rfl
    rw [← kstB_same (m := m) (ps := [(Str.ofString "accepted_values", .ref la)]) (fun p hp => by cases List.mem_singleton.mp hp; exact hm)] at F
    cases hbal : balC x.cps.toList 0
    · have hppv : ppv x = Str.ofString "('', '')" := by unfold ppv; rw [hbal]; rfl
      ((try clear pk); (try clear pk))
      k_with "call ref" => (k_dflt (refine' check_b ?k1 ?k2 ?k3 hx1 hx2 ?k4 ?k5 ?k7 hbal ?_; (case k1 => k_asm); (case k2 => k_asm); (case k3 => exact Fr.keep (by k_asm)); (case k4 => first | exact hh | (show A.handled = none; exact hh)); (case k5 => assumption); (case k7 => k_room); intro h9 tk9 gn9 hb9 K9; have F9 := fr_keeps (by k_asm) K9; have N9 := news_keeps (by k_asm) K9; clear K9))
      k_steps
      rename News _ _ _ _ => nE
      rename Fr _ _ _ _ => fE
      simp only [List.push_toArray] at nE
      refine gend_end [(la, _)] fE nE (ho' _) hb9 ⟨_, rfl, rfl, ?_⟩
      rw [htake, hppv]
      exact hti.snoc _ _
    · have hppv : ppv x = x := by unfold ppv; rw [hbal]; rfl
      ((try clear pk); (try clear pk))
      k_with "call ref" => (k_dflt (refine' check_b ?k1 ?k2 ?k3 hx1 hx2 ?k4 ?k5 ?k7 hbal ?_; (case k1 => k_asm); (case k2 => k_asm); (case k3 => exact Fr.keep (by k_asm)); (case k4 => first | exact hh | (show A.handled = none; exact hh)); (case k5 => assumption); (case k7 => k_room); intro h9 tk9 gn9 hb9 K9; have F9 := fr_keeps (by k_asm) K9; have N9 := news_keeps (by k_asm) K9; clear K9))
      k_steps
      rename News _ _ _ _ => nE
      rename Fr _ _ _ _ => fE
      simp only [List.push_toArray] at nE
      refine gend_end [(la, _)] fE nE (ho' _) hb9 ⟨_, rfl, rfl, ?_⟩
      rw [htake, hppv]
      exact hti.snoc _ _
  · clear F2 N2
    intro m h tk gn news hJ F N hb
    obtain ⟨ti, rfl, hm, hti⟩ := hJ
    have N : News g L' h [(la, listOf ti.toArray its.toArray.size)] := N
    rw [← kstB_same (m := m) (ps := [(Str.ofString "accepted_values", .ref la)]) (fun p hp => by cases List.mem_singleton.mp hp; exact hm)] at F
    rw [List.size_toArray, hi.length, List.take_length] at hti
    ((try clear pk); (try clear pk))
    k_steps
    rename News _ _ _ _ => nE
    rename Fr _ _ _ _ => fE
    have hnew : s.heap.get? la = none := by
      cases q : s.heap.get? la with
      | none => rfl
      | some o => have := (nE _ (.head _)).2.2; rw [hSk _ _ q] at this; cases this
    exact hret la ti _ h _ gn hb (fun b o e => fE.keep b o (hSk b o e)) hnew (nE _ (.head _)).1 hti
end ppv_cC
section
variable {w : World} {mean : ExcName → Option Value} {mg mb : Str → Option Value} {A : Around} {hb : Heap} {s : Shared} {Q E : Value → Shared → Prop}
theorem ppv_c {l : Addr} {its : List Value} {xs : List Str} (X : (hd.heap_1 w.params).In hb) (T : Top hd.view_1 (looseW hd.view_1 [Str.ofString "_NodeInfo"]) mean mg mb hb) (St : hb.StaysIn s.heap)
   (hl : s.heap.IsList l its.toArray) (hi : StrsAre its xs) (hxs : ∀ x ∈ xs, (∀ c ∈ x.cps.toList, c = 40 ∨ c = 41) ∧ x.cps.size ≤ 1000) (hn : xs.length ≤ 1000) (hh : A.handled = none) (hbare : AllBare s.gens) (hd : A.depth + 8 < recursionLimit)
    (hret : ∀ l' its' n' h' tk' gn', AllBare gn' → (∀ b o, s.heap.get? b = some o → h'.get? b = some o) → s.heap.get? l' = none → h'.get? l' = some (listOf its'.toArray n') → StrsAre its' (xs.map ppv) → Q (.ref l') { s with heap := h', toks := tk', gens := gn' }) :
    wpAny (model PySem.Challenge.rw_oh0070_01.row.prog w) A (call (.ref 49) [.ref l]) Q E s := by
  refine Classical.byContradiction fun hz9 => ?_
  exact @Classical.epsilon_spec ppv_cP (fun x => ¬ ppv_cS x) ⟨⟨w, mean, mg, mb, A, hb, s, Q, E, l, its, xs⟩, fun zz9 => hz9 (zz9 X T St hl hi hxs hn hh hbare hd hret)⟩ ppv_cC.key
end
end Part_G4
section Part_X2
theorem anew_X2 : True := by k_with_none; w_top off; trivial
theorem strs_lib : ∀ {vs : List Value} {xs : List Str}, StrsAre vs xs → PyProof.Rows.StrsAre vs xs
  | [], [], _ => .nil
  | v :: vs, x :: xs, h => by
    obtain ⟨⟨t, rfl⟩, h⟩ := h
    exact .cons x t (strs_lib h)
  | [], _ :: _, h => h.elim
  | _ :: _, [], h => h.elim
theorem str_lay : ∀ (xs : List Str), (∀ x ∈ xs, PyData.strOk x = true) → PyData.canLayAll0 (xs.map PyData.str) = true
  | [], _ => rfl
  | x :: xs, h => by simp [PyData.canLayAll0, PyData.canLay0, h x (.head _), str_lay xs fun y hy => h y (.tail _ hy)]
theorem str_depth (xs : List Str) : PyData.depthAll (xs.map PyData.str) = 0 := by
  induction xs with
  | nil => rfl
  | cons x xs ih => simp [PyData.depthAll, PyData.depth, ih]
theorem str_shaped (xs : List Str) (h : ∀ x ∈ xs, PyData.strOk x = true) : SeqAt.shaped (.list (xs.map PyData.str)) = true := by
  simp [SeqAt.shaped, PyData.canLay0, PyData.depth, str_lay xs h, str_depth]
theorem str_same (xs : List Str) : PySem.Spec.sameAll (xs.map PyData.str) (xs.map PyData.str) = true := by
  induction xs with
  | nil => rfl
  | cons x xs ih => simp [PySem.Spec.sameAll, PySem.Spec.same, ih]
section
variable {prog : Program} {w : World} {A : Around} {E : Value → Shared → Prop} {s : Shared} {a b : Addr} {is js : List Value} {xs : List Str} {Q : Value → Shared → Prop}
theorem ne_strs (ha : s.heap.IsList a is.toArray) (hi : StrsAre is xs) (hb : s.heap.IsList b js.toArray) (hj : StrsAre js xs) (ho : ∀ x ∈ xs, PyData.strOk x = true) (hu : A.units + 64 < cLine) (h : Q (.bool false) s) :
    wpAny (model prog w) A (compareOp .NotEq (.ref a) (.ref b)) Q E s :=
  ne_dataH_same (reads_newData ha (strs_lib hi).carried) (reads_newData hb (strs_lib hj).carried) (str_shaped _ ho) (str_shaped _ ho) hu (SeqAt.noMix_of_shape (.list .str) rfl _ _ (list_map_has fun _ => rfl) (list_map_has fun _ => rfl)) (by
    have e : PySem.Spec.same (.list (xs.map PyData.str)) (.list (xs.map PyData.str)) = true := by simp only [PySem.Spec.same]; exact str_same xs
    rw [e]; exact h)
theorem item_S {D : Addr} {its : List Value} {xs : List Str} {value slice : Expr} {k : Int} {x : Str} {u : Tok} {Q : Value → Shared → Prop} (hl : s.heap.IsList D its.toArray) (hi : StrsAre its xs) (h0 : 0 ≤ k) (hx : xs[k.toNat]? = some x) (hb : xs.length < 4294967296)
    (h : ∀ t, Q (.str x t) s)
    (hs : subscripted slice false (.ref D) (.int k u) = operate [.ref D, .int k u] (getItem (.ref D) (.int k u)) := by with_unfolding_all rfl) :
    wpAny (model prog w) A (subscriptTail value slice (.ref D) (.int k u)) Q E s := by
  obtain ⟨t, ht⟩ := hi.get _ _ hx
  have hk : k.toNat < xs.length := (List.getElem?_eq_some_iff.mp hx).1
  exact tail_any hl.typeIs slot_list_getitem.lookup (wpAny_getItem_list hl h0 (by omega) (by simpa using ht) (h t)) hs
end
/-- the brackets in plain: the text of blocks -/
noncomputable def blk (c : Nat) : List Nat := List.replicate c 40 ++ [41]
theorem balC_blk : ∀ (c : Nat) (rest : List Nat) (o : Int), balC (blk c ++ rest) o = if o + c - 1 < 0 then false else balC rest (o + c - 1)
  | 0, rest, o => by
    show balC (41 :: rest) o = _
    have e : o + ((0 : Nat) : Int) - 1 = o - 1 := by omega
    rw [e]; rfl
  | c + 1, rest, o => by
    have h : balC (blk (c + 1) ++ rest) o = balC (blk c ++ rest) (o + 1) := by
      show balC (40 :: (List.replicate c 40 ++ [41] ++ rest)) o = _
      rw [balC, if_pos rfl]; rfl
    rw [h, balC_blk c rest (o + 1)]
    have e : o + 1 + (c : Int) - 1 = o + ((c + 1 : Nat) : Int) - 1 := by push_cast; omega
    rw [e]
theorem balC_flat : ∀ (cs : List Nat) (o : Int), balC (cs.map blk).flatten o = bal cs o
  | [], o => by
    show decide (o = 0) = (o == 0)
    by_cases h : o = 0 <;> simp [h]
  | c :: cs, o => by
    rw [List.map_cons, List.flatten_cons, balC_blk, bal, balC_flat cs]
theorem blk_mem {c x : Nat} (h : x ∈ blk c) : x = 40 ∨ x = 41 := by
  rcases List.mem_append.mp h with h | h
  · exact .inl (List.mem_replicate.mp h).2
  · exact .inr (List.mem_singleton.mp h)
theorem flat_len (B : Nat) : ∀ l : List (List Nat), (∀ b ∈ l, b.length ≤ B) → l.flatten.length ≤ l.length * B
  | [], _ => by simp
  | b :: l, h => by
    have h1 := h b (.head _)
    have h2 := flat_len B l fun x hx => h x (.tail _ hx)
    rw [List.flatten_cons, List.length_append, List.length_cons, Nat.add_mul]
    omega
noncomputable def txt (ws : List Int) (s : Int) : Str := ⟨(((List.range' 0 ws.length).map fun d : Nat => blk (ws.count ((s + ((d : Int) + 1)) % ((ws.length : Int) + 1)))).flatten).toArray⟩
theorem txt_ok {ws : List Int} (hl : ws.length ≤ 6) (s : Int) : (∀ c ∈ (txt ws s).cps.toList, c = 40 ∨ c = 41) ∧ (txt ws s).cps.size ≤ 1000 := by
  refine ⟨fun c hc => ?_, ?_⟩
  · have hc' : c ∈ (((List.range' 0 ws.length).map fun d : Nat => blk (ws.count ((s + ((d : Int) + 1)) % ((ws.length : Int) + 1)))).flatten) := by simpa [txt] using hc
    obtain ⟨b, hb, hcb⟩ := List.mem_flatten.mp hc'
    obtain ⟨d, _, rfl⟩ := List.mem_map.mp hb
    exact blk_mem hcb
  · show (List.toArray _).size ≤ 1000
    rw [List.size_toArray]
    refine Nat.le_trans (flat_len 7 _ fun b hb => ?_) ?_
    · obtain ⟨d, _, rfl⟩ := List.mem_map.mp hb
      have : ws.count ((s + ((d : Int) + 1)) % ((ws.length : Int) + 1)) ≤ ws.length := List.count_le_length
      rw [blk, List.length_append, List.length_replicate]
      show _ + 1 ≤ 7
      omega
    · rw [List.length_map, List.length_range']
      omega
theorem ppv_txt {ws : List Int} {f : Int} (hw : InR ws.length ws) (hf0 : 0 ≤ f) (hf1 : f < (ws.length : Int) + 1) (hfT : f ∉ tableOf ws) (hall : ∀ x : Int, 0 ≤ x → x < (ws.length : Int) + 1 → x ≠ f → x ∈ tableOf ws) {s : Int} (h0 : 0 ≤ s) (h1 : s < (ws.length : Int) + 1) :
    ppv (txt ws s) = if s = f then txt ws s else Str.ofString "('', '')" := by
  have e : balC (txt ws s).cps.toList 0 = bal ((List.range' 0 ws.length).map fun d : Nat => ws.count ((s + ((d : Int) + 1)) % ((ws.length : Int) + 1))) 0 := by
    rw [← balC_flat, List.map_map]
    show balC (List.toArray _).toList 0 = _
    rw [List.toList_toArray]; rfl
  have hc := cycle hw hf0 hf1 hfT hall h0 h1
  unfold ppv
  rw [e]
  by_cases q : s = f
  · rw [if_pos q, if_pos (hc.mpr q)]
  · rw [if_neg q, if_neg fun z => q (hc.mp z)]
end Part_X2
section Part_X3
theorem anew_X3 : True := by k_with_none; w_top off; trivial
noncomputable def GEndC (h₀ : Heap) (L : Addr) (m : Str → Option Value) (s : Shared) (I : Addr) (oI : Obj) (C : Addr) (oC : Obj) (D : Addr) (ys : List Value) (J : List (Addr × Obj) → Prop) (s₃ : Shared) : Prop :=
  ∃ h' tk' news', s₃ = { s with heap := h', toks := tk' } ∧ Fr h₀ L h' m ∧ News h₀ L h' ((I, oI) :: (C, oC) :: (D, LCg.lst ys) :: news') ∧ LCg.Off3 I C D news' ∧ J news'
section
variable {prog : Program} {w : World} {A : Around} {h₀ : Heap} {L : Addr} {m : Str → Option Value} {env : Env} {elt : Expr} {x : Str} {scope : Scope} {cl : List (Str × Addr)} {s : Shared} {S : List (Addr × Obj) → Prop} {P : Nat → Value → Prop} {Fin : List Value → List (Addr × Obj) → Prop} {news : List (Addr × Obj)}
/-- the turns of a comprehension, by an invariant over what it has made; the ledger may grow -/
theorem restG {n : Nat} (J : Nat → List Value → List (Addr × Obj) → Prop) (hS : ∀ news, S news) (h0 : J 0 [] news) (fin : ∀ ys news, J n ys news → Fin ys news)
    (turn : ∀ i ys news v I oI C oC D m₂ h tk (E' : Value → Shared → Prop), i < n → P i v → J i ys news → LCg.NsObj oC m₂ → m₂ x = some v → Fr h₀ L h m → News h₀ L h ((I, oI) :: (C, oC) :: (D, LCg.lst ys) :: news) → LCg.Off3 I C D news → ((@Ne Nat I C) ∧ (@Ne Nat I D) ∧ (@Ne Nat C D)) →
      wpAny (model prog w) A (eval elt (compEnvC scope cl C env)) (fun y s₃ => GEndC h₀ L m s I oI C oC D ys (J (i + 1) (ys ++ [y])) s₃) E' { s with heap := h, toks := tk }) :
    LCg.CompRest prog w A h₀ L m env elt x scope cl s S P Fin n 0 [] news := by
  have key : ∀ (j i : Nat) (ys : List Value) (news : List (Addr × Obj)), i + j = n → J i ys news → LCg.CompRest prog w A h₀ L m env elt x scope cl s S P Fin j i ys news := by
    intro j
    induction j with
    | zero =>
      intro i ys news hi hJ
      obtain rfl : i = n := by omega
      exact LCg.CompRest.zero (fin ys news hJ)
    | succ j ih =>
      intro i ys news hi hJ
      refine LCg.CompRest.succ ?_
      intro v I oI C oC D m₂ h tk E' hv hC hx F N off ne
      refine wpAny_mono (turn i ys news v I oI C oC D m₂ h tk E' (by omega) hv hJ hC hx F N off ne) (fun y s₃ hy => ?_) fun _ _ e => e
      obtain ⟨h', tk', news', rfl, F', N', off', hJ'⟩ := hy
      exact ⟨h', tk', news', rfl, F', N', off', hS _, ih (i + 1) _ _ (by omega) hJ'⟩
  exact key n 0 [] news (by omega) h0
end
/-- pairs in the ledger: the value and the number that its tuple ends with -/
noncomputable def PairIn (tups : List (Addr × Obj)) (zs : List (Value × Int)) : Prop := ∀ z ∈ zs, ∃ a x t u n, z.1 = .ref a ∧ (a, ({ cls := .type "tuple", data := .seq #[.int x t, .int z.2 u] n } : Obj)) ∈ tups
theorem PairIn.snoc {tups : List (Addr × Obj)} {zs : List (Value × Int)} (h : PairIn tups zs) {a : Addr} {x k : Int} {t u : Tok} {n : Nat} : PairIn ((a, ({ cls := .type "tuple", data := .seq #[.int x t, .int k u] n } : Obj)) :: tups) (zs ++ [(.ref a, k)]) := fun z hz => by
  rcases List.mem_append.mp hz with hz | hz
  · obtain ⟨a', x', t', u', n', e, hm⟩ := h z hz
    exact ⟨a', x', t', u', n', e, .tail _ hm⟩
  · rw [List.mem_singleton.mp hz]
    exact ⟨a, x, t, u, n, rfl, .head _⟩
theorem lift_perm {α β : Type} {l m : List α} (h : l.Perm m) : ∀ zs : List (α × β), zs.map (·.1) = m → ∃ zs' : List (α × β), zs'.Perm zs ∧ zs'.map (·.1) = l := by
  induction h with
  | nil => intro zs e; exact ⟨zs, List.Perm.refl _, e⟩
  | @cons x l m _ ih =>
    intro zs e
    cases zs with
    | nil => cases e
    | cons z zs =>
      injection e with e1 e2
      obtain ⟨zs', p, e3⟩ := ih zs e2
      exact ⟨z :: zs', p.cons z, by rw [List.map_cons, e3]; exact congrArg (· :: l) e1⟩
  | swap x y l =>
    intro zs e
    match zs, e with
    | z1 :: z2 :: zs, e =>
      injection e with e1 e2
      injection e2 with e2 e3
      refine ⟨z2 :: z1 :: zs, List.Perm.swap _ _ _, ?_⟩
      show z2.1 :: z1.1 :: zs.map (·.1) = _
      rw [e3, show z2.1 = _ from e2, show z1.1 = _ from e1]
  | trans _ _ ih1 ih2 =>
    intro zs e
    obtain ⟨zs2, p2, e2⟩ := ih2 zs e
    obtain ⟨zs1, p1, e1⟩ := ih1 zs2 e2
    exact ⟨zs1, p1.trans p2, e1⟩
/-- the other table: the sorted one in another order -/
noncomputable def otherOf (n : Nat) (zs rs : List Int) : List Int := (List.range n).map fun k : Nat => zs.getD (rs.idxOf (k : Int)) 0
theorem other_at {n : Nat} {zs rs : List Int} (hz : zs.length = n) (hr : rs.Perm (rng n)) {k : Nat} (hk : k < n) : rs.idxOf (k : Int) < n ∧ zs[rs.idxOf (k : Int)]? = some (zs.getD (rs.idxOf (k : Int)) 0) := by
  have h1 : (k : Int) ∈ rs := hr.mem_iff.mpr (List.mem_map.mpr ⟨k, List.mem_range.mpr hk, rfl⟩)
  have h2 := List.idxOf_lt_length_of_mem h1
  have h3 : rs.length = n := by rw [hr.length_eq, List.length_map, List.length_range]
  rw [h3] at h2
  have h4 : rs.idxOf (k : Int) < zs.length := by omega
  refine ⟨h2, ?_⟩
  rw [List.getD_eq_getElem?_getD, List.getElem?_eq_getElem h4]; rfl
theorem other_props {n : Nat} {zs rs T : List Int} (hz : zs.length = n) (hzn : zs.Nodup) (hp : zs.Perm T) (hr : rs.Perm (rng n)) : (otherOf n zs rs).length = n ∧ (otherOf n zs rs).Nodup ∧ ∀ x, x ∈ otherOf n zs rs ↔ x ∈ T := by
  have hrn : rs.Nodup := by
    refine hr.nodup_iff.mpr ?_
    show List.Pairwise _ _
    rw [List.pairwise_map]
    exact List.Pairwise.imp (fun {a b} hab e => hab (Int.ofNat.inj e)) List.nodup_range
  refine ⟨by rw [otherOf, List.length_map, List.length_range], ?_, fun x => ?_⟩
  · show List.Pairwise _ _
    rw [otherOf, List.pairwise_map]
    refine List.Pairwise.imp_of_mem (fun {a b} ha hb hab e => hab ?_) List.nodup_range
    have ha' := List.mem_range.mp ha
    have hb' := List.mem_range.mp hb
    obtain ⟨_, a2⟩ := other_at hz hr ha'
    obtain ⟨_, b2⟩ := other_at hz hr hb'
    rw [e] at a2
    have h1 := nd_get hzn a2 b2
    have ma : (a : Int) ∈ rs := hr.mem_iff.mpr (List.mem_map.mpr ⟨a, ha, rfl⟩)
    have mb : (b : Int) ∈ rs := hr.mem_iff.mpr (List.mem_map.mpr ⟨b, hb, rfl⟩)
    have h2 := at_idx ma
    rw [h1, at_idx mb] at h2
    exact Int.ofNat.inj (Option.some.inj h2).symm
  · rw [← hp.mem_iff]
    constructor
    · intro h
      obtain ⟨k, hk, rfl⟩ := List.mem_map.mp h
      exact List.mem_of_getElem? (other_at hz hr (List.mem_range.mp hk)).2
    · intro h
      obtain ⟨j, hj⟩ := List.getElem?_of_mem h
      have hjn : j < n := by rw [← hz]; exact (List.getElem?_eq_some_iff.mp hj).1
      have h3 : rs.length = n := by rw [hr.length_eq, List.length_map, List.length_range]
      have hjr : rs[j]? = some (rs[j]'(by omega)) := List.getElem?_eq_getElem (by omega)
      have hm := hr.mem_iff.mp (List.mem_of_getElem? hjr)
      obtain ⟨k, hk, e⟩ := List.mem_map.mp hm
      refine List.mem_map.mpr ⟨k, hk, ?_⟩
      obtain ⟨_, k2⟩ := other_at hz hr (List.mem_range.mp hk)
      have mk : (k : Int) ∈ rs := e ▸ List.mem_of_getElem? hjr
      have h4 : rs.idxOf (k : Int) = j := nd_get hrn (at_idx mk) (by rw [hjr, ← e])
      rw [h4, hj] at k2
      have h5 := Option.some.inj k2
      show zs.getD (rs.idxOf (k : Int)) 0 = x
      rw [h4]; exact h5.symm
end Part_X3
section Part_M18
theorem rules_M18 : True := by
  k_with_none
  w_top off
  k_with "exec If" => refine parkAt (n := 0) (by with_reducible assumption) ?_
  k_with "m mine list" => first | exact isL (by k_asm) (by k_mem) | exact isB (by k_asm) (by assumption)
  k_with "m call builtin:len" => (k_here; (try dsimp only); (with_reducible show wpAny _ _ (call (Value.builtin "len") [Value.ref _]) _ _ _); k_dflt (refine' len_L ?zqk1 ?zqk3 ?zqk4 ?_; (case zqk1 => walk_at "mine list"); (case zqk3 => assumption); (case zqk4 => omega)))
  k_with "m subscriptTail" => (k_here; (try dsimp only); (with_reducible show wpAny _ _ (subscriptTail _ _ (Value.ref _) (Value.int _ _)) _ _ _); k_dflt (first | (refine' item_L ?zqk1 ?zqk3 ?zqk4 ?zqk5 ?zqk6 ?_ ?zqk8; (case zqk1 => walk_at "mine list"); (case zqk3 => assumption); (case zqk5 => with_reducible assumption); (case zqk4 => omega); (case zqk6 => omega); (case zqk8 => with_unfolding_all rfl); k_whole; intro t9) | (refine' out_L ?zqk0 ?zqk1 ?zqk3 ?zqk4 ?zqk5 ?_ ?zqk8; (case zqk0 => first | rfl | assumption); (case zqk1 => walk_at "mine list"); (case zqk3 => assumption); (case zqk4 => omega); (case zqk5 => omega); (case zqk8 => with_unfolding_all rfl); k_whole; intro h9 tk9 e9 x9)))
  k_with "m subscriptTail Name Name ref int" => (k_here; (try dsimp only); (with_reducible show wpAny _ _ (subscriptTail _ _ (Value.ref _) (Value.int _ _)) _ _ _); k_dflt (first | (refine' item_L ?zqk1 ?zqk3 ?zqk4 ?zqk5 ?zqk6 ?_ ?zqk8; (case zqk1 => walk_at "mine list"); (case zqk3 => assumption); (case zqk5 => with_reducible assumption); (case zqk4 => omega); (case zqk6 => omega); (case zqk8 => with_unfolding_all rfl); k_whole; intro t9) | (refine' out_L ?zqk0 ?zqk1 ?zqk3 ?zqk4 ?zqk5 ?_ ?zqk8; (case zqk0 => first | rfl | assumption); (case zqk1 => walk_at "mine list"); (case zqk3 => assumption); (case zqk4 => omega); (case zqk5 => omega); (case zqk8 => with_unfolding_all rfl); k_whole; intro h9 tk9 e9 x9) | (refine' out_over ?zqk0 ?zqkN ?zqkm ?zqkb ?zqk1 ?zqk3 ?zqk4 ?zqk5 ?_ ?zqk8; (case zqk0 => rfl); (case zqkN => k_asm); (case zqkm => k_mem); (case zqkb => assumption); (case zqk1 => walk_at "mine list"); (case zqk3 => assumption); (case zqk4 => omega); (case zqk5 => omega); (case zqk8 => with_unfolding_all rfl); k_whole; intro h9 tk9 e9 x9)))
  k_with "m subscriptTail Name Slice ref ref" => (k_here; k_dflt (refine' kmk_slice_ints ?zqF ?zqN ?zql ?zqpl ?zqpu ?zqhi ?zqhm rfl ?_ ?zqhs ?zqht ?zqhz; (case zqF => k_asm); (case zqN => k_asm); (case zql => walk_at "mine list"); (case zqpl => kmk_part); (case zqpu => kmk_part); (case zqhi => assumption); (case zqhm => first | (with_reducible refine kmk_from (by assumption) ?_; omega) | (with_reducible refine kmk_upto (by assumption) ?_; omega) | with_reducible exact kmk_all (by assumption)); (case zqhs => with_unfolding_all rfl); (case zqht => kmk_pure); (case zqhz => exact kmk_sz (by assumption) (by simp only [sizeLine_eq]; omega)); k_whole; intro _ _ _ F9 N9 l9 _ _ _; (try k_lt l9)))
  k_with "m call builtin:list.extend" => (k_here; k_dflt (refine' extend_L ?zqF ?zqN ?zqm ?zqU ?zqi1 ?zqi2 ?zqz ?_; (case zqF => k_asm); (case zqN => k_asm); (case zqU => k_upd); (case zqm => k_mem); (case zqi1 => walk_at "mine ints"); (case zqi2 => walk_at "mine ints"); (case zqz => walk_at "mine len"); k_whole; intro h9 F9 N9 I9))
  k_with "m mine len" => first | omega | (simp only [List.length_append, List.length_drop, List.length_take, List.length_nil, List.length_cons] at *; omega)
  k_with "m mine ints" => first | exact IntsAre.nil | assumption
  k_with "m compareOp In int ref" => (k_here; (try dsimp only); k_dflt (refine' in_L ?zqm ?zqi ?_; (case zqm => walk_at "mine list"); (case zqi => assumption)))
  k_with "m compareOp NotEq ref ref" => (k_here; k_dflt (refine' ne_intsK ?zqa ?zqi ?zqb ?zqj ?zqu ?_; (case zqa => walk_at "mine list"); (case zqb => walk_at "mine list"); (case zqi => walk_at "mine ints"); (case zqj => walk_at "mine ints"); (case zqu => (have := cl100b; simp only [units_deeper]; omega))))
  k_with "m compareOp NotEq ref ref" => (k_here; (with_reducible show wpAny _ _ (compareOp CmpOp.NotEq (Value.ref _) (Value.ref _)) _ _ _); first | k_dflt (refine' ne_intsK ?zqa ?zqi ?zqb ?zqj ?zqu ?_; (case zqa => walk_at "mine list"); (case zqb => walk_at "mine list"); (case zqi => walk_at "mine ints"); (case zqj => walk_at "mine ints"); (case zqu => (have := cl100b; simp only [units_deeper]; omega))) | refine park ?_)
  k_with "m subscriptTail Name Constant ref int" => (k_here; (try dsimp only); (with_reducible show wpAny _ _ (subscriptTail _ _ (Value.ref _) (Value.int _ _)) _ _ _); k_dflt (first | ((with_reducible show wpAny _ _ (subscriptTail _ _ (Value.ref _) (Value.int 1 _)) _ _ _); refine' item_T2 ?zqa ?_ ?zqk8 ?zqk9; (case zqa => ((try dsimp only); with_reducible assumption)); (case zqk8 => with_unfolding_all rfl); (case zqk9 => (intro _; with_unfolding_all rfl)); k_whole) | (refine' item_L ?zqk1 ?zqk3 ?zqk4 ?zqk5 ?zqk6 ?_ ?zqk8; (case zqk1 => walk_at "mine list"); (case zqk3 => assumption); (case zqk5 => with_reducible assumption); (case zqk4 => omega); (case zqk6 => omega); (case zqk8 => with_unfolding_all rfl); k_whole; intro t9)))
  k_with "m subscriptTail Name Name ref int" => (k_here; (try dsimp only); (with_reducible show wpAny _ _ (subscriptTail _ _ (Value.ref _) (Value.int _ _)) _ _ _); k_dflt (refine' item_S ?zqk1 ?zqk3 ?zqk4 ?zqk5 ?zqk6 ?_ ?zqk8; (case zqk1 => walk_at "mine list"); (case zqk3 => assumption); (case zqk5 => with_reducible assumption); (case zqk4 => omega); (case zqk6 => omega); (case zqk8 => with_unfolding_all rfl); k_whole; intro t9))
  k_with "m call builtin:str.join" => (k_here; refine park ?_)
  k_with "m getMethod ref" => (k_here; refine park ?_)
  k_with "m call builtin:list.count" => (k_here; refine park ?_)
  k_with "m call builtin:list.index" => (k_here; refine park ?_)
  k_with "m binaryOp Mult str int" => (k_here; refine park ?_)
  k_with "m binaryOp Add str str" => (k_here; refine park ?_)
  k_with "m eval ListComp" => (k_here; refine park ?_)
  k_with "m call type:list" => (k_here; refine park ?_)
  k_with "m call builtin:sorted" => (k_here; refine park ?_)
  k_with "m call ref" => (k_here; refine park ?_)
  trivial
theorem new_off {base h : Heap} {L x : Addr} : ∀ {news : List (Addr × Obj)}, News base L h news → h.get? x = none → LCg.Off1 x news
  | [], _, _ => trivial
  | p :: news, N, hn => ⟨(fun q => by
    have h1 := (N p (.head _)).1
    have q' : p.1 = x := q
    rw [q', hn] at h1
    cases h1), new_off (fun q hq => N q (.tail _ hq)) hn⟩
theorem new_led {base h h' : Heap} {L x : Addr} {o : Obj} {m : Str → Option Value} {news : List (Addr × Obj)} (F : Fr base L h m) (N : News base L h' news) (hx : h'.get? x = some o) (hn : h.get? x = none) : News base L h' ((x, o) :: news) := fun p hp => by
  rcases List.mem_cons.mp hp with rfl | hp
  · refine ⟨hx, fun q => ?_, ?_⟩
    · obtain ⟨oL, _, _, hL, _⟩ := F.ns
      have q' : x = L := q
      rw [q', hL] at hn; cases hn
    · show base.get? x = none
      cases q : base.get? x with
      | none => rfl
      | some o' => rw [F.keep _ _ q] at hn; cases hn
  · exact N p hp
theorem keep_frame {base h h' : Heap} {L : Addr} {m : Str → Option Value} {oL : Obj} {frs : List (Addr × Obj)} (F : Fr base L h m) (hoL : h.get? L = some oL) (SU : TI.SameUp [(L, oL)] frs) (ht : ∀ p ∈ frs, h'.get? p.1 = some p.2)
    (keep : ∀ b o, b ∉ ([(L, oL)] : List (Addr × Obj)).map (·.1) → h.get? b = some o → h'.get? b = some o) : Fr base L h' m ∧ ∀ news, News base L h news → News base L h' news := by
  cases frs with
  | nil => exact SU.elim
  | cons q frs =>
    obtain ⟨q1, q2⟩ := q
    obtain ⟨hq, ⟨sl, hsl⟩, _⟩ := SU
    dsimp only at hq hsl
    subst hq
    have k' : ∀ b o, b ≠ q1 → h.get? b = some o → h'.get? b = some o := fun b o hb e => keep b o (fun q => hb (List.mem_singleton.mp q)) e
    have hLb : base.get? q1 = none := Heap.get?_none_of_le F.above
    have hL' : h'.get? q1 = some q2 := ht (q1, q2) (.head _)
    refine ⟨⟨?_, fun b o e => k' b o (fun q => by rw [q, hLb] at e; cases e) (F.keep b o e), F.above⟩, fun news N p hp => ⟨k' _ _ (N p hp).2.1 (N p hp).1, (N p hp).2⟩⟩
    obtain ⟨o, es, ep, ho, hd, r⟩ := F.ns
    rw [hoL] at ho
    cases ho
    exact ⟨q2, es, ep, hL', by rw [hsl]; exact hd, r⟩
theorem new_ne {base h : Heap} {L x c : Addr} {o : Obj} {news : List (Addr × Obj)} (N : News base L h news) (hm : (c, o) ∈ news) (hn : h.get? x = none) : @Ne Nat x c := fun q => by
  have q' : x = c := q
  rw [q', (N _ hm).1] at hn; cases hn
theorem blk_len {c : Nat} (h : c ≤ 7) : (⟨(blk c).toArray⟩ : Str).length ≤ 100 := by
  show (blk c).toArray.size ≤ 100
  rw [List.size_toArray, blk, List.length_append, List.length_replicate]
  show c + 1 ≤ 100
  omega
theorem strs_vals : ∀ {zs : List Value} {xs : List Str}, StrsAre zs xs → ∃ l : List (Str × Tok), zs = strValues l ∧ l.map (·.1) = xs
  | [], [], _ => ⟨[], rfl, rfl⟩
  | z :: zs, x :: xs, h => by
    obtain ⟨⟨t, rfl⟩, h⟩ := h
    obtain ⟨l, rfl, rfl⟩ := strs_vals h
    exact ⟨(x, t) :: l, rfl, rfl⟩
  | [], _ :: _, h => h.elim
  | _ :: _, [], h => h.elim
theorem join_cps : ∀ texts : List Str, (Str.join (Str.ofString "") texts).cps.toList = (texts.map fun x => x.cps.toList).flatten
  | [] => rfl
  | [x] => by simp [Str.join]
  | x :: y :: r => by
    show (x ++ Str.ofString "" ++ Str.join (Str.ofString "") (y :: r)).cps.toList = _
    rw [KT.app_list, KT.app_list, join_cps (y :: r)]
    simp
    rfl
theorem join_txt (texts : List Str) : Txt.join (Str.ofString "") texts = ⟨((texts.map fun x => x.cps.toList).flatten).toArray⟩ := by
  have h1 : Txt.join (Str.ofString "") texts = Str.join (Str.ofString "") texts := StrLaws.glued_eq_join _ _
  rw [h1, ← join_cps]
theorem sum_le (B : Nat) : ∀ (xs : List Str), (∀ x ∈ xs, x.length ≤ B) → (xs.map (·.length)).sum ≤ xs.length * B
  | [], _ => by simp
  | x :: xs, h => by
    have h1 := h x (.head _)
    have h2 := sum_le B xs fun y hy => h y (.tail _ hy)
    simp only [List.map_cons, List.sum_cons, List.length_cons, Nat.add_mul]
    omega
theorem join_S {prog : Program} {w : World} {A : Around} {E : Value → Shared → Prop} {s : Shared} {t : Tok} {Q : Value → Shared → Prop} {D : Addr} {zs : List Value} {xs : List Str} (hl : s.heap.IsList D zs.toArray) (hx : StrsAre zs xs) (hB : ∀ x ∈ xs, x.length ≤ 100) (hn : xs.length ≤ 1000)
    (h : ∀ t' k, Q (.str ⟨((xs.map fun x => x.cps.toList).flatten).toArray⟩ t') { s with toks := k }) : wpAny (model prog w) A (call (.builtin "str.join") [.str (Str.ofString "") t, .ref D]) Q E s := by
  obtain ⟨l, rfl, hl2⟩ := strs_vals hx
  refine SC.join hl hl2 ?_ fun t' k => by rw [join_txt]; exact h t' k
  have h1 := sum_le 100 xs hB
  have h2 : xs.length * 100 ≤ 1000 * 100 := Nat.mul_le_mul_right _ hn
  have z : (Str.ofString "").length = 0 := by decide
  unfold JoinOk
  rw [StrLaws.joinTotal, z]
  rw [Bool.not_eq_true']
  refine decide_eq_false ?_
  rw [sizeLine_eq]
  omega
theorem op_eq : Str.ofString "(" = ⟨#[40]⟩ := by rfl
theorem cl_eq : Str.ofString ")" = ⟨#[41]⟩ := by rfl
theorem blk_eq (c : Nat) : Txt.mul (Str.ofString "(") (c : Int) ++ Str.ofString ")" = ⟨(blk c).toArray⟩ := by
  have h : (Txt.mul (Str.ofString "(") (c : Int) ++ Str.ofString ")").cps.toList = blk c := by
    rw [KT.app_list, op_eq, mul_one_list, cl_eq, Int.toNat_natCast]; rfl
  rw [← h]
theorem mul_len (c : Nat) (h : c ≤ 7) : (Txt.mul (Str.ofString "(") (c : Int)).length ≤ 16 := by
  have h1 : (Txt.mul (Str.ofString "(") (c : Int)).cps.toList = List.replicate c 40 := by rw [op_eq, mul_one_list, Int.toNat_natCast]
  show (Txt.mul (Str.ofString "(") (c : Int)).cps.size ≤ 16
  rw [← Array.length_toList, h1, List.length_replicate]
  omega
theorem txt_str {ws : List Int} (hl : ws.length ≤ 6) (s : Int) : PyData.strOk (txt ws s) = true := by
  unfold PyData.strOk
  rw [← Array.all_toList, List.all_eq_true]
  intro c hc
  rcases (txt_ok hl s).1 c hc with rfl | rfl <;> decide
theorem g_end {h₀ h' : Heap} {L I C D T : Addr} {m : Str → Option Value} {s : Shared} {oI oC o : Obj} {ys : List Value} {tk' : Nat} {a tups : List (Addr × Obj)} {J : List (Addr × Obj) → Prop} (F : Fr h₀ L h' m) (N : News h₀ L h' ((T, o) :: (I, oI) :: (C, oC) :: (D, LCg.lst ys) :: (a ++ tups)))
    (off : LCg.Off3 I C D (a ++ tups)) (hT : @LT.lt Nat _ I T ∧ @LT.lt Nat _ C T ∧ @LT.lt Nat _ D T) (hJ : J (a ++ (T, o) :: tups)) : GEndC h₀ L m s I oI C oC D ys J { s with heap := h', toks := tk' } := by
  refine ⟨_, _, a ++ (T, o) :: tups, rfl, F, fun p hp => N p ?_, LCg.Off3.of fun p hp => ?_, hJ⟩
  · have h1 : ∀ p ∈ ((I, oI) :: (C, oC) :: (D, LCg.lst ys) :: a) ++ (T, o) :: tups, p ∈ (T, o) :: (((I, oI) :: (C, oC) :: (D, LCg.lst ys) :: a) ++ tups) := fun p hp => by
      rcases List.mem_append.mp hp with h | h
      · exact .tail _ (List.mem_append_left _ h)
      · rcases List.mem_cons.mp h with rfl | h
        · exact .head _
        · exact .tail _ (List.mem_append_right _ h)
    exact h1 p hp
  · rcases List.mem_append.mp hp with h | h
    · exact off.mem p (List.mem_append_left _ h)
    · rcases List.mem_cons.mp h with rfl | h
      · exact ⟨Nat.ne_of_gt hT.1, Nat.ne_of_gt hT.2.1, Nat.ne_of_gt hT.2.2⟩
      · exact off.mem p (List.mem_append_right _ h)
theorem item_T2 {prog : Program} {w : World} {A : Around} {E : Value → Shared → Prop} {s : Shared} {a : Addr} {x y : Value} {u : Tok} {n : Nat} {value slice : Expr} {Q : Value → Shared → Prop} (ht : s.heap.get? a = some { cls := .type "tuple", data := .seq #[x, y] n }) (h : Q y s)
    (hs : subscripted slice false (.ref a) (.int 1 u) = operate [.ref a, .int 1 u] (getItem (.ref a) (.int 1 u))) (hg : ∀ r, letTemporaryGo value (.ref a) r = pure ()) : wpAny (model prog w) A (subscriptTail value slice (.ref a) (.int 1 u)) Q E s :=
  item_tuple (items := #[x, y]) (j := 1) ⟨_, ht, rfl, _, rfl⟩ (by decide) (by decide) (by rfl) (by rfl) h hs hg
/-- the law's own objects behind the texts -/
noncomputable def ledB (L lm lT lW lD : Addr) (f : Int) (tf : Tok) (mn tn : Nat) (ti ys di : List Value) (oR oF oT oW oS oD : Obj) : List (Addr × Obj) :=
  [(lm, listOf [.int f tf].toArray mn), (lT, listOf ti.toArray tn), (lW, listOf ys.toArray ys.length), (lD, listOf di.toArray 0), (L + 1 + 1 + 1 + 1 + 1 + 1 + 1, oR), (L + 1 + 1 + 1 + 1 + 1, oF), (L + 1 + 1 + 1 + 1, oT), (L + 1 + 1 + 1, oW), (L + 1 + 1, oS), (L + 1, oD)]
theorem ins_mem {α : Type} {a b : List α} {x : α} : ∀ p ∈ a ++ x :: b, p ∈ x :: (a ++ b) := fun p hp => by
  rcases List.mem_append.mp hp with h | h
  · exact .tail _ (List.mem_append_left _ h)
  · rcases List.mem_cons.mp h with rfl | h
    · exact .head _
    · exact .tail _ (List.mem_append_right _ h)
noncomputable def MidG (base : Heap) (L : Addr) (s : Shared) (m : Str → Option Value) (news : List (Addr × Obj)) (s3 : Shared) : Prop := ∃ h tk gn, s3 = { s with heap := h, toks := tk, gens := gn } ∧ AllBare gn ∧ Fr base L h m ∧ News base L h news
theorem mid_cutG {prog : Program} {w : World} {A : Around} {E : Value → Shared → Prop} {s : Shared} {base : Heap} {L : Addr} {m : Str → Option Value} {news : List (Addr × Obj)} {t : Sem Flow} {Q : Flow → Shared → Prop} (_ : Fr base L s.heap m) (_ : News base L s.heap news)
    (h1 : wpAny (model prog w) A t (fun f s' => f = .next ∧ MidG base L s m news s') E s) (h2 : ∀ h tk gn, AllBare gn → Fr base L h m → News base L h news → Q .next { s with heap := h, toks := tk, gens := gn }) : wpAny (model prog w) A t Q E s :=
  wpAny_mono h1 (fun f s' hf => by obtain ⟨rfl, h, tk, gn, rfl, hb, F, N⟩ := hf; exact h2 h tk gn hb F N) fun _ _ e => e
theorem rsz1 (n : Nat) : Builtin.Range.rangeSize 1 ((n : Int) + 1) 1 = ((n : Nat) : Int) := by
  unfold Builtin.Range.rangeSize
  simp
  omega
theorem rng_pw (n : Nat) : (rng n).Pairwise (· < ·) := by
  rw [List.pairwise_map]
  exact List.Pairwise.imp (fun {a b} h => by omega) List.pairwise_lt_range
theorem rng_mem (n : Nat) (x : Int) : x ∈ rng n ↔ 0 ≤ x ∧ x < (n : Int) := by
  constructor
  · intro h
    obtain ⟨i, hi, rfl⟩ := List.mem_map.mp h
    have := List.mem_range.mp hi
    omega
  · rintro ⟨a, b⟩
    exact List.mem_map.mpr ⟨x.toNat, List.mem_range.mpr (by omega), by omega⟩
theorem le_lt {l : List Int} (h : l.Pairwise (· ≤ ·)) (n : l.Nodup) : l.Pairwise (· < ·) :=
  List.Pairwise.imp (fun {a b} h => by have := h.1; have := h.2; omega) (List.Pairwise.and h n)
theorem fillM18 (w : World) (h : Heap) : PySem.Challenge.rw_oh0070_01.foot = 5 → (hd.heap_1 w.params).In h → True := by
  k_fill
  intro _ _
  trivial
theorem cl100b : 120 ≤ cLine := by decide
noncomputable abbrev law_cP := (World) × (ExcName → Option Value) × (Str → Option Value) × (Str → Option Value) × (Around) × (Shared) × (Value → Shared → Prop) × (Value → Shared → Prop) × (Addr) × (List Value) × (List Int)
noncomputable def law_cS : law_cP → Prop := fun p => (fun (w : World) (mean : ExcName → Option Value) (mg : Str → Option Value) (mb : Str → Option Value) (A : Around) (s : Shared) (Q : Value → Shared → Prop) (E : Value → Shared → Prop) (ls : Addr) (si : List Value) (sc : List Int) => ∀ (X : (hd.heap_1 w.params).In s.heap)
   (T : Top hd.view_1 (looseW hd.view_1 [Str.ofString "_NodeInfo"]) mean mg mb s.heap)
   (hfr : A.frames = some [])
   (hh : A.handled = none)
   (hun : A.units ≤ 4)
   (hd : A.depth + 30 < recursionLimit)
   (hbare : AllBare s.gens)
   (hls : s.heap.IsList ls si.toArray)
   (his : IntsAre si sc)
   (hsl : sc.length ≤ 63)
   (hret : ∀ h' tk' gn', AllBare gn' → (∀ b o, s.heap.get? b = some o → h'.get? b = some o) → Q (.bool true) { s with heap := h', toks := tk', gens := gn' }),
    wpAny (model PySem.Challenge.rw_oh0070_01.row.prog w) A (call (.ref 212) [.ref ls]) Q E s) p.1 p.2.1 p.2.2.1 p.2.2.2.1 p.2.2.2.2.1 p.2.2.2.2.2.1 p.2.2.2.2.2.2.1 p.2.2.2.2.2.2.2.1 p.2.2.2.2.2.2.2.2.1 p.2.2.2.2.2.2.2.2.2.1 p.2.2.2.2.2.2.2.2.2.2
noncomputable def law_cX : law_cP := @Classical.epsilon law_cP ⟨⟨⟨fun _ _ => 0, { strHash := fun _ => 0, shareClass := fun _ => 0, mergeTok := fun t => t, idOf := fun _ => 0, idOfShared := fun _ _ => 0, followText := fun _ => false, idOfImm := fun _ => 0 }⟩, fun _ => none, fun _ => none, fun _ => none, callerA, {}, fun _ _ => True, fun _ _ => True, 0, [], []⟩⟩ fun x => ¬ law_cS x
namespace law_cC
noncomputable def w : World := law_cX.1
noncomputable def mean : ExcName → Option Value := law_cX.2.1
noncomputable def mg : Str → Option Value := law_cX.2.2.1
noncomputable def mb : Str → Option Value := law_cX.2.2.2.1
noncomputable def A : Around := law_cX.2.2.2.2.1
noncomputable def s : Shared := law_cX.2.2.2.2.2.1
noncomputable def Q : Value → Shared → Prop := law_cX.2.2.2.2.2.2.1
noncomputable def E : Value → Shared → Prop := law_cX.2.2.2.2.2.2.2.1
noncomputable def ls : Addr := law_cX.2.2.2.2.2.2.2.2.1
noncomputable def si : List Value := law_cX.2.2.2.2.2.2.2.2.2.1
noncomputable def sc : List Int := law_cX.2.2.2.2.2.2.2.2.2.2
noncomputable def base : Heap := hideAll s.heap []
noncomputable def L : Addr := s.heap.objs.size
theorem key : ∀ (X : (hd.heap_1 w.params).In s.heap)
   (T : Top hd.view_1 (looseW hd.view_1 [Str.ofString "_NodeInfo"]) mean mg mb s.heap)
   (hfr : A.frames = some [])
   (hh : A.handled = none)
   (hun : A.units ≤ 4)
   (hd : A.depth + 30 < recursionLimit)
   (hbare : AllBare s.gens)
   (hls : s.heap.IsList ls si.toArray)
   (his : IntsAre si sc)
   (hsl : sc.length ≤ 63)
   (hret : ∀ h' tk' gn', AllBare gn' → (∀ b o, s.heap.get? b = some o → h'.get? b = some o) → Q (.bool true) { s with heap := h', toks := tk', gens := gn' }),
    wpAny (model PySem.Challenge.rw_oh0070_01.row.prog w) A (call (.ref 212) [.ref ls]) Q E s := by
  intro X T hfr hh hun hd hbare hls his hsl hret
  refine wpAny_call ?_
  have St : s.heap.StaysIn s.heap := fun b o e => e
  k_dflt (refine' enter_cells (H := []) (binds := [(Str.ofString "script", .ref ls)]) ?k1 ?k2 ?k3 ?k4 ?k6 ?k7 ?k8 ?k9 ?kB ?kD ?_ ?c2 ?c3 ?c4; (case k1 => k_asm); (case k2 => k_asm); (case k3 => k_asm); (case k4 => first | assumption | (intro a ha; cases ha)); (case k6 => k_is); (case k7 => k_is); (case k8 => k_room); (case k9 => exact BindsTo.of_eq rfl); (case kB => exact rfl); (case kD => decide +kernel); (case c2 => exact rfl); (case c3 => exact rfl); (case c4 => exact rfl); k_whole; intro g L' h' tk' cells' hg hL' F' N' Y' K' X' T' S')
  subst hg hL'
  have hSk : ∀ b o, s.heap.get? b = some o → (hideAll s.heap []).get? b = some o := fun b o e => hideAll_get _ e (fun q => nomatch q)
  have hlg : (hideAll s.heap []).IsList ls si.toArray := stays_list hSk hls
  generalize hbase : hideAll s.heap [] = base at *
  obtain rfl : base = law_cC.base := hbase.symm
  generalize hLL : s.heap.objs.size = L at *
  obtain rfl : L = law_cC.L := hLL.symm
  obtain ⟨oR, oX, oF, oT, oW, oS, oD, hcl, dR, dX, dF, dT, dW, dS, dD⟩ := PyProof.Rows.kc_seven Y'
  subst hcl
  clear Y'
  replace dR : oR.data = .cell none := dR
  replace dX : oX.data = .cell none := dX
  replace dF : oF.data = .cell none := dF
  replace dT : oT.data = .cell none := dT
  replace dW : oW.data = .cell none := dW
  replace dS : oS.data = .cell none := dS
  replace dD : oD.data = .cell none := dD
  obtain ⟨m0, F1⟩ : ∃ m0, Fr base L h' (kstB m0 [(Str.ofString "script", .ref ls)]) := ⟨_, by
    rw [kstB_same]
    · exact F'
    · intro p hp
      cases List.mem_singleton.mp hp; rfl⟩
  clear F' X T St S' K' hls hbase hLL
  ((try clear pk); (try clear pk))
  k_steps
  refine unpark ?_
  rename_i lD di h2a idr e2a e2b h2b oD2 dD2 h2c oS2 F2 N2 dS2
  have l2 := l9
  clear l9
  have hwle : (sc.take (Int.toNat 6)).length ≤ 6 := by rw [List.length_take]; exact Nat.min_le_left _ _
  generalize sc.take (Int.toNat 6) = dr at *
  obtain ⟨tS, dS3⟩ : ∃ t, oS2.data = .cell (some (.int ((dr.length : Int) + 1) t)) := ⟨_, dS2⟩
  clear dS2 dS dD e2a e2b
  have dl := idr.length
  have hsz0 : (0 : Int) < (dr.length : Int) + 1 := by omega
  refine LCg.ListComp_U (F₀ := F2) (by with_unfolding_all rfl) (by decide) (by rfl) (by decide) (by rfl) ?_
  ((try clear pk); (try clear pk))
  k_steps
  refine LCg.CompSrc.ledger (by show A.handled = none; exact hh) F2 N2 (.head _) (by rw [sizeLine_eq, List.size_toArray]; omega)
    (fun g => restU (fun i ys => IntsAre ys ((dr.take i).map fun x => x.fmod ((dr.length : Int) + 1))) (.inr ⟨_, .head _, rfl, _, rfl⟩) .nil ?_ ?_)
  · intro ys hys
    rw [List.size_toArray, dl, List.take_length] at hys
    clear F2 N2
    unfold LCg.FinE
    intro lW h3 tk3 F3 N3 o3
    obtain ⟨ws, hws⟩ : ∃ ws, ws = dr.map fun x => x.fmod ((dr.length : Int) + 1) := ⟨_, rfl⟩
    have hwl : dr.length = ws.length := by rw [hws, List.length_map]
    have hwI : InR ws.length ws := fun x hx => by
      rw [hws] at hx
      obtain ⟨y, _, rfl⟩ := List.mem_map.mp hx
      rw [← hwl]
      exact ⟨Int.fmod_nonneg_of_pos _ hsz0, Int.fmod_lt_of_pos _ hsz0⟩
    rw [← hws] at hys
    obtain ⟨n1, n2, n3, n4, n5, n6, _⟩ := id o3
    have m7 : @Ne Nat lD (L + 1 + 1 + 1 + 1 + 1 + 1 + 1) := Nat.ne_of_gt l2.1
    have m6 : @Ne Nat lD (L + 1 + 1 + 1 + 1 + 1 + 1) := Nat.ne_of_gt l2.2.1
    have m5 : @Ne Nat lD (L + 1 + 1 + 1 + 1 + 1) := Nat.ne_of_gt l2.2.2.1
    have m4 : @Ne Nat lD (L + 1 + 1 + 1 + 1) := Nat.ne_of_gt l2.2.2.2.1
    have m3 : @Ne Nat lD (L + 1 + 1 + 1) := Nat.ne_of_gt l2.2.2.2.2.1
    dsimp only at n1 n2 n3 n4 n5 n6
    clear o3 l2
    ((try clear pk); (try clear pk))
    k_steps
    refine unpark ?_
    rename Fr _ _ _ _ => F4
    rename News _ _ _ _ => N4
    rename Obj => oW2
    refine table_c X' T' F4.keep (isL N4 (.head _)) hys (by omega) (by show A.handled = none; exact hh) (fun pre x post e => table_hst hwI pre x post e) (by k_room) ?_
    intro lT ti tn h5 tk5 K5 hT nT iT
    have F5 := fr_keeps F4 K5
    have N5 := new_led F4 (news_keeps N4 K5) hT nT
    obtain ⟨p1, p2, p3, p4, p5, p6, _⟩ := new_off N4 nT
    dsimp only at p1 p2 p3 p4 p5 p6
    obtain ⟨tl, tnd, tr⟩ := table_props hwI
    clear F4 N4 hT nT K5 n1 n6 m3 p1 p2
    ((try clear pk); (try clear pk))
    k_steps
    refine unpark ?_
    rename IsRange _ _ _ _ _ _ _ _ => hR6
    rename Fr _ _ _ _ => F6
    rename News _ _ _ _ => N6
    rename Obj => oT2
    clear n5 m4 p6
    rw [show (dr.length : Int) + 1 = ((dr.length + 1 : Nat) : Int) from rfl] at hR6
    refine kll_range (n := dr.length + 1) (by show A.handled = none; exact hh) F6 N6 hR6 (small_one (by decide) (by decide) (by omega) (by omega)) (by rw [rangeSize_nat]; simp) (by omega) ?_
    intro lr us cr h7 tk7 F7 N7 lt7 ius
    have eR : rangeKs 0 (dr.length + 1) = rng (dr.length + 1) := by
      unfold rangeKs
      exact List.map_congr_left fun i _ => Int.zero_add _
    rw [eR] at ius
    have usl : (rng (dr.length + 1)).length = dr.length + 1 := by rw [List.length_map, List.length_range]
    clear F6 N6 hR6
    ((try clear pk); (try clear pk))
    k_steps
    refine unpark ?_
    rename Fr _ _ _ _ => F8
    rename News _ _ _ _ => N8
    refine kso_sorted F8 N8 (isL N8 (.tail _ (.head _))) iT (by omega) fun lZ zi zs cz h9 F9 N9 lt9 iz ez pz oz _ => ?_
    clear F8 N8
    have tno : (tableOf ws).length = ws.length := tl
    ((try clear pk); (try clear pk))
    k_steps
    refine unpark ?_
    obtain ⟨oL, esL, epL, hoL, hdL, rL⟩ := id F9.ns
    have hLb : base.get? L = none := Heap.get?_none_of_le F9.above
    obtain ⟨f, hf0, hf1, hfT, hall⟩ := free_one tl tnd tr
    have znd : zs.Nodup := pz.nodup_iff.mpr tnd
    have hst := sld_table (n := ws.length) (es := rng (dr.length + 1)) (as := zs) (rng_pw _) (fun x => by rw [rng_mem, hwl]; push_cast; exact Iff.rfl) (le_lt oz znd) (fun x => pz.mem_iff) tr hf0 hf1 hfT hall
    refine sld_c (l := [_]) (frs := [(L, oL)]) X' T' F9.keep (Around.frames_deeper hfr) ⟨⟨(by show ScopeKind.function ≠ ScopeKind.module; decide), rfl, ⟨esL, epL, hdL⟩, trivial⟩, fun p hp => by cases List.mem_singleton.mp hp; exact ⟨hoL, hLb⟩⟩ (by show A.handled = none; exact hh) (isL N9 (.tail _ (.head _))) ius (isL N9 (.head _)) iz (by omega) (by omega) (rng_pw _) hst.1 (by omega) (by k_room) ?_
    rw [hst.2]
    intro lt lm lu mi mn un frs10 h10 tk10 P
    obtain ⟨F10, K10⟩ := keep_frame F9 hoL P.up P.frames P.keep
    have N10 := new_led F9 (new_led F9 (new_led F9 (K10 _ N9) P.une P.newU) P.mis P.newM) P.tup P.newT
    have imi := P.areInts
    obtain ⟨tf, rfl⟩ : ∃ t, mi = [.int f t] := by
      cases imi with
      | cons k t r => cases r; exact ⟨t, rfl⟩
    have f1l : ([f] : List Int).length = 1 := rfl
    have u5 : @Ne Nat lu (L + 1 + 1 + 1 + 1 + 1) := new_ne N9 (.tail _ (.tail _ (.tail _ (.tail _ (.tail _ (.tail _ (.tail _ (.head _)))))))) P.newU
    have v5 : @Ne Nat lm (L + 1 + 1 + 1 + 1 + 1) := new_ne N9 (.tail _ (.tail _ (.tail _ (.tail _ (.tail _ (.tail _ (.tail _ (.head _)))))))) P.newM
    have v6 : @Ne Nat lm (L + 1 + 1 + 1 + 1 + 1 + 1) := new_ne N9 (.tail _ (.tail _ (.tail _ (.tail _ (.tail _ (.tail _ (.head _))))))) P.newM
    have v7 : @Ne Nat lm (L + 1 + 1 + 1 + 1 + 1 + 1 + 1) := new_ne N9 (.tail _ (.tail _ (.tail _ (.tail _ (.tail _ (.head _)))))) P.newM
    have w5 : @Ne Nat lt (L + 1 + 1 + 1 + 1 + 1) := new_ne N9 (.tail _ (.tail _ (.tail _ (.tail _ (.tail _ (.tail _ (.tail _ (.head _)))))))) P.newT
    have z5 : @Ne Nat lr (L + 1 + 1 + 1 + 1 + 1) := Nat.ne_of_gt (lt7 _ (.tail _ (.tail _ (.tail _ (.tail _ (.tail _ (.head _)))))))
    have y5 : @Ne Nat lZ (L + 1 + 1 + 1 + 1 + 1) := Nat.ne_of_gt (lt9 _ (.tail _ (.tail _ (.tail _ (.tail _ (.tail _ (.tail _ (.head _))))))))
    clear F9 N9 K10 P hst lt7 lt9 hdL rL hLb hoL
    refine unpackN_ F10 N10 (News.isTup N10 (.head _)) (by show A.handled = none; exact hh) rfl rfl fun h11 F11 N11 => ?_
    clear F10 N10
    ((try clear pk); (try clear pk))
    have pk : PkAt 0 := trivial
    k_steps
    refine unpark ?_
    rename Fr _ _ _ _ => F12
    rename News _ _ _ _ => N12
    rename Obj => oF2
    refine mid_cut F12 N12 ?_ fun h13 tk13 F13 N13 => ?_
    · ((try clear pk); (try clear pk))
      k_steps
      all_goals first
        | exact absurd (show (([f] : List Int).length : Int) = 1 from rfl) (by assumption)
        | (rename Fr _ _ _ _ => fE; rename News _ _ _ _ => nE; exact ⟨_, _, rfl, fE, fun p hp => nE p (.tail _ hp)⟩)
    · clear F12 N12 iz ius usl eR u5 v5 w5 z5 y5 n4 m5 p5
      obtain ⟨m1, F14⟩ : ∃ m1, Fr base L h13 m1 := ⟨_, F13⟩
      have N14 : News base L h13 [(lm, listOf [.int f tf].toArray mn), (lT, listOf ti.toArray tn), (lW, listOf ys.toArray ys.length), (lD, listOf di.toArray 0), (L + 1 + 1 + 1 + 1 + 1 + 1 + 1, oR), (L + 1 + 1 + 1 + 1 + 1 + 1, oX), (L + 1 + 1 + 1 + 1 + 1, _), (L + 1 + 1 + 1 + 1, _), (L + 1 + 1 + 1, _), (L + 1 + 1, oS2), (L + 1, oD2)] := fun p hp => by
        rcases List.mem_cons.mp hp with rfl | hp
        · exact N13 _ (.tail _ (.head _))
        · exact N13 p (.tail _ (.tail _ (.tail _ (.tail _ (.tail _ hp)))))
      clear F13 N13
      ((try clear pk); (try clear pk))
      k_steps
      refine unpark ?_
      refine comp_cell (h₀ := base) (L := L) (m := m1) (by with_unfolding_all rfl) (fun k acc => rfl) (fun h => rfl) (by rfl) (by decide) (by rfl) ?_ (by intro _; rfl)
      ((try clear pk); (try clear pk))
      k_steps
      rename IsRange _ _ _ _ _ _ _ _ => hR15
      rename_i F15 N15 K15
      rw [show (dr.length : Int) + 1 = ((dr.length + 1 : Nat) : Int) from rfl] at hR15
      refine ⟨_, 0, _, _, _, _, dr.length + 1, _, fun i vs => StrsAre vs ((List.range i).map fun s : Nat => txt ws (s : Int)), rfl, (by show A.handled = none; exact hh), F15, N15, hR15, small_one (by decide) (by decide) (by omega) (by omega), (by rw [rangeSize_nat]; simp), (by rw [sizeLine_eq]; omega), trivial, ?_, ?_⟩
      · clear F15 N15 K15 hR15 hret
        intro i vs I oI C oC K oK Z h16 tk16 t16 E16 hi hJ hdK F16 N16 off4 ne1 ne2
        rw [Int.zero_add] at hdK
        ((try clear pk); (try clear pk))
        k_steps
        refine unpark ?_
        rename Fr _ _ _ _ => F17
        rename News _ _ _ _ => N17
        refine LCg.ListComp_U (F₀ := F17) (by with_unfolding_all rfl) (by decide) (by rfl) (by decide) (by rfl) ?_
        ((try clear pk); (try clear pk))
        k_steps
        rename IsRange _ _ _ _ _ _ _ _ => hR18
        rename_i F18 N18 K18
        rename Fr _ _ h16 _ => F17b
        rename News _ _ h16 _ => N17b
        refine LCg.CompSrc.range (n := dr.length) (by show A.handled = none; exact hh) F18 N18 hR18 (small_one (by decide) (by decide) (by omega) (by omega)) (rsz1 dr.length) (by rw [sizeLine_eq]; omega)
          (fun g => restU (fun j zs => StrsAre zs ((List.range j).map fun d : Nat => (⟨(blk (ws.count (((i : Int) + ((d : Int) + 1)) % ((ws.length : Int) + 1)))).toArray⟩ : Str))) trivial trivial ?_ ?_)
        · intro zs hzs
          clear F17b N17b F18 N18 K18 hR18
          unfold LCg.FinE
          intro Z2 h19 tk19 F19 N19 o19
          ((try clear pk); (try clear pk))
          k_steps
          refine unpark ?_
          rename Fr _ _ _ _ => F20
          rename News _ _ _ _ => N20
          refine join_S (isL N20 (.head _)) hzs (fun x hx => ?_) (by rw [List.length_map, List.length_range]; omega) fun t20 tk20 => ?_
          · obtain ⟨d, _, rfl⟩ := List.mem_map.mp hx
            exact blk_len (Nat.le_trans List.count_le_length (by omega))
          ((try clear pk); (try clear pk))
          k_steps
          rename News _ _ _ _ => nE
          refine cend (by assumption) (fun p hp => nE p (.tail _ hp)) ?_
          show StrsAre _ ((List.range (i + 1)).map fun s : Nat => txt ws (s : Int))
          rw [List.range_succ, List.map_append]
          have et : (⟨((((List.range dr.length).map fun d : Nat => (⟨(blk (ws.count (((i : Int) + ((d : Int) + 1)) % ((ws.length : Int) + 1)))).toArray⟩ : Str)).map fun x => x.cps.toList).flatten).toArray⟩ : Str) = txt ws (i : Int) := by
            unfold txt
            rw [List.map_map, hwl, List.range_eq_range']
            rfl
          rw [et]
          exact hJ.snoc _ _
        · clear F17b N17b F18 N18 K18 hR18
          intro j zs v I2 oI2 C2 oC2 Z2 m2 h19 tk19 E19 hj hv hJ19 hC19 hx19 F19 N19 off19 ne19
          obtain ⟨tv, rfl⟩ := hv
          ((try clear pk); (try clear pk))
          k_steps
          refine unpark ?_
          rename Fr _ _ _ _ => F20
          rename News _ _ _ _ => N20
          refine method_B (N20 (lW, _) (.tail _ (.tail _ (.tail _ (.tail _ (.tail _ (.tail _ (.tail _ (.tail _ (.tail _ (.head _))))))))))).1 PySem.F.slot_list_count PySem.F.type_list_count ?_
          ((try clear pk); (try clear pk))
          k_steps
          refine unpark ?_
          refine count_list_ints (isL N20 (.tail _ (.tail _ (.tail _ (.tail _ (.tail _ (.tail _ (.tail _ (.tail _ (.tail _ (.head _))))))))))) hys ?_
          have ecx : ((i : Int) + (1 + (j : Int))).fmod ((dr.length : Int) + 1) = ((i : Int) + ((j : Int) + 1)) % ((ws.length : Int) + 1) := by rw [fmod_pos hsz0, hwl, Int.add_comm 1 (j : Int)]
          rw [ecx]
          have hcnt : ws.count (((i : Int) + ((j : Int) + 1)) % ((ws.length : Int) + 1)) ≤ ws.length := List.count_le_length
          generalize hcc : ws.count (((i : Int) + ((j : Int) + 1)) % ((ws.length : Int) + 1)) = cc at hcnt
          ((try clear pk); (try clear pk))
          k_steps
          refine unpark ?_
          refine SB.mul (mulOk_of 16 100 (by decide) (by omega) (by omega) (by decide) (by decide)) fun t21 tk21 => ?_
          ((try clear pk); (try clear pk))
          k_steps
          refine unpark ?_
          have hml := mul_len cc (by omega)
          have hcl : (Str.ofString ")").length = 1 := by decide
          refine SB.add (fun t22 tk22 => ?_) (by rw [hcl, sizeLine_eq]; omega)
          rw [blk_eq]
          ((try clear pk); (try clear pk))
          k_steps
          rename News _ _ _ _ => nE
          refine cend (by assumption) nE ?_
          rw [List.range_succ, List.map_append, ← hcc]
          exact hJ19.snoc _ _
      · clear F15 N15 K15 hR15
        intro vs lX h16 tk16 hvs F16 N16 off16
        have x6 : @Ne Nat lX (L + 1 + 1 + 1 + 1 + 1 + 1) := Ne.symm (off16 _ (.tail _ (.tail _ (.tail _ (.tail _ (.tail _ (.head _)))))))
        have x7 : @Ne Nat lX (L + 1 + 1 + 1 + 1 + 1 + 1 + 1) := Ne.symm (off16 _ (.tail _ (.tail _ (.tail _ (.tail _ (.head _))))))
        clear off16
        have hxl : ((List.range (dr.length + 1)).map fun s : Nat => txt ws (s : Int)).length = dr.length + 1 := by rw [List.length_map, List.length_range]
        have f1i : ([f] : List Int)[(0 : Int).toNat]? = some f := rfl
        ((try clear pk); (try clear pk))
        have pk : PkAt 0 := trivial
        k_steps
        refine unpark ?_
        rename Fr _ _ _ _ => F17
        rename News _ _ _ _ => N17
        rename_i oX2 dX2
        refine mid_cutG F17 N17 ?_ fun h21 tk21 gn21 hb21 F21 N21 => ?_
        · clear hret
          ((try clear pk); (try clear pk))
          k_steps
          refine unpark ?_
          rename Fr _ _ _ _ => F18
          rename News _ _ _ _ => N18
          refine ppv_c X' T' F18.keep (isL N18 (.head _)) hvs (fun x hx => ?_) (by rw [hxl]; omega) (by show A.handled = none; exact hh) hbare (by k_room) ?_
          · obtain ⟨d, _, rfl⟩ := List.mem_map.mp hx
            exact txt_ok (by omega) _
          intro lP pi pn h19 tk19 gn19 hb19 K19 nP hP iP
          have F19 := fr_keeps F18 K19
          have N19 := new_led F18 (news_keeps N18 K19) hP nP
          clear F18 N18 K19 nP hP
          ((try clear pk); (try clear pk))
          k_steps
          refine unpark ?_
          rename Fr _ _ _ _ => F20
          rename News _ _ _ _ => N20
          refine LCg.ListComp_U (F₀ := F20) (by with_unfolding_all rfl) (by decide) (by rfl) (by decide) (by rfl) ?_
          ((try clear pk); (try clear pk))
          k_steps
          rename IsRange _ _ _ _ _ _ _ _ => hR22
          rename_i F22 N22 K22
          rw [show (dr.length : Int) + 1 = ((dr.length + 1 : Nat) : Int) from rfl] at hR22
          refine LCg.CompSrc.range (n := dr.length + 1) (by show A.handled = none; exact hh) F22 N22 hR22 (small_one (by decide) (by decide) (by omega) (by omega)) (by rw [rangeSize_nat]; simp) (by rw [sizeLine_eq]; omega)
            (fun g => restU (fun i zs => StrsAre zs ((List.range i).map fun s : Nat => if (s : Int) = f then txt ws (s : Int) else Str.ofString "('', '')")) trivial trivial ?_ ?_)
          · intro qs hqs
            clear F22 N22 K22 hR22
            unfold LCg.FinE
            intro Z2 h23 tk23 F23 N23 o23
            ((try clear pk); (try clear pk))
            k_steps
            refine unpark ?_
            rename Fr _ _ _ _ => F24
            rename News _ _ _ _ => N24
            have eP : ((List.range (dr.length + 1)).map fun s : Nat => txt ws (s : Int)).map ppv = (List.range (dr.length + 1)).map fun s : Nat => if (s : Int) = f then txt ws (s : Int) else Str.ofString "('', '')" := by
              rw [List.map_map]
              refine List.map_congr_left fun s hs => ?_
              have := List.mem_range.mp hs
              exact ppv_txt hwI hf0 hf1 hfT hall (by omega) (by omega)
            rw [eP] at iP
            refine ne_strs (isL N24 (.tail _ (.head _))) iP (isL N24 (.head _)) hqs (fun x hx => ?_) (by have := cl100b; simp only [units_deeper]; omega) ?_
            · obtain ⟨d, _, rfl⟩ := List.mem_map.mp hx
              split
              · exact txt_str (by omega) _
              · decide +kernel
            ((try clear pk); (try clear pk))
            k_steps
            rename Fr _ _ _ _ => fE
            rename News _ _ _ _ => nE
            exact ⟨_, _, _, rfl, hb19, fE, fun p hp => nE p (.tail _ (.tail _ hp))⟩
          · clear F22 N22 K22 hR22
            intro i qs v I oI C oC Z m2 h23 tk23 E23 hi hv hJ23 hC23 hx23 F23 N23 off23 ne23
            obtain ⟨tv, rfl⟩ := hv
            rw [Int.zero_add] at hx23
            have hxi : ((List.range (dr.length + 1)).map fun s : Nat => txt ws (s : Int))[((i : Nat) : Int).toNat]? = some (txt ws (i : Int)) := by
              rw [Int.toNat_natCast, List.getElem?_map, List.getElem?_range hi]; rfl
            ((try clear pk); (try clear pk))
            k_steps
            · rename News _ _ _ _ => nE
              have ef : (i : Int) = f := by assumption
              refine cend (by assumption) nE ?_
              rw [List.range_succ, List.map_append]
              have e2 : ([i].map fun s : Nat => if (s : Int) = f then txt ws (s : Int) else Str.ofString "('', '')") = [txt ws (i : Int)] := by
                show [if (i : Int) = f then _ else _] = _
                rw [if_pos ef]
              rw [e2]
              exact hJ23.snoc _ _
            · rename News _ _ _ _ => nE
              have ef : (i : Int) ≠ f := by assumption
              refine cend (by assumption) nE ?_
              rw [List.range_succ, List.map_append]
              have e2 : ([i].map fun s : Nat => if (s : Int) = f then txt ws (s : Int) else Str.ofString "('', '')") = [Str.ofString "('', '')"] := by
                show [if (i : Int) = f then _ else _] = _
                rw [if_neg ef]
              rw [e2]
              exact hJ23.snoc _ _
        · clear F17 N17 hvs hxl x6 x7 hbare
          have N22 : News base L h21 [(lm, listOf [.int f tf].toArray mn), (lT, listOf ti.toArray tn), (lW, listOf ys.toArray ys.length), (lD, listOf di.toArray 0), (L + 1 + 1 + 1 + 1 + 1 + 1 + 1, oR), (L + 1 + 1 + 1 + 1 + 1, _), (L + 1 + 1 + 1 + 1, _), (L + 1 + 1 + 1, _), (L + 1 + 1, oS2), (L + 1, oD2)] := fun p hp => by
            rcases List.mem_cons.mp hp with rfl | hp
            · exact N21 _ (.tail _ (.head _))
            rcases List.mem_cons.mp hp with rfl | hp
            · exact N21 _ (.tail _ (.tail _ (.head _)))
            rcases List.mem_cons.mp hp with rfl | hp
            · exact N21 _ (.tail _ (.tail _ (.tail _ (.head _))))
            rcases List.mem_cons.mp hp with rfl | hp
            · exact N21 _ (.tail _ (.tail _ (.tail _ (.tail _ (.head _)))))
            rcases List.mem_cons.mp hp with rfl | hp
            · exact N21 _ (.tail _ (.tail _ (.tail _ (.tail _ (.tail _ (.head _))))))
            · exact N21 p (.tail _ (.tail _ (.tail _ (.tail _ (.tail _ (.tail _ (.tail _ hp)))))))
          clear N21
          ((try clear pk); (try clear pk))
          k_steps
          refine unpark ?_
          rename Fr _ _ _ _ => F23
          rename News _ _ _ _ => N23
          refine LCg.ListComp_U (F₀ := F23) (by with_unfolding_all rfl) (by decide) (by rfl) (by decide) (by rfl) ?_
          ((try clear pk); (try clear pk))
          k_steps
          refine unpark ?_
          refine LCg.ListComp_U (F₀ := F23) (by with_unfolding_all rfl) (by decide) (by rfl) (by decide) (by rfl) ?_
          ((try clear pk); (try clear pk))
          k_steps
          rename IsRange _ _ _ _ _ _ _ _ => hR24
          rename_i F24 N24 K24
          refine LCg.CompSrc.range (n := dr.length) (by show A.handled = none; exact hh) F24 N24 hR24 (small_one (by decide) (by decide) (by omega) (by omega)) (by rw [rangeSize_nat]; simp) (by rw [sizeLine_eq]; omega)
            (fun g => restG (fun i vs news => ∃ tups zz, news = ledB L lm lT lW lD f tf mn tn ti ys di oR oF2 oT2 oW2 oS2 oD2 ++ tups ∧ zz.map (·.1) = vs ∧ zz.map (·.2) = rng i ∧ PairIn tups zz) (fun _ => trivial) ⟨[], [], rfl, rfl, rfl, fun z hz => nomatch hz⟩ ?_ ?_)
          · intro vs news hJ
            obtain ⟨tups, zz, rfl, hz1, hz2, hz3⟩ := hJ
            clear F24 N24 K24 hR24
            unfold LCg.FinE
            intro Z h25 tk25 F25 N25 o25
            have vsl : vs.length = dr.length := by
              have h1 := congrArg List.length hz2
              rw [List.length_map, List.length_map, List.length_range] at h1
              rw [← hz1, List.length_map, h1]
            ((try clear pk); (try clear pk))
            k_steps
            refine unpark ?_
            refine sorted_pairs F25 N25 (isL N25 (.head _)) (fun v hv => ?_) (by omega) fun Z2 vs2 c2 h27 F27 N27 hperm hlt => ?_
            · rw [← hz1] at hv
              obtain ⟨z, hz, rfl⟩ := List.mem_map.mp hv
              obtain ⟨a, x, t, u, n, e, hm⟩ := hz3 z hz
              exact ⟨a, x, z.2, t, u, n, e, .tail _ (List.mem_append_right _ hm)⟩
            clear F25 N25 o25 hlt
            obtain ⟨zz2, zp, ze⟩ := lift_perm hperm zz hz1
            have zl : zz2.length = dr.length := by rw [zp.length_eq, ← vsl, ← hz1, List.length_map]
            refine LCg.CompSrc.ledger (by show A.handled = none; exact hh) F27 N27 (.head _) (by rw [sizeLine_eq, List.size_toArray, ← ze, List.length_map]; omega)
              (fun g => restU (fun i qs => IntsAre qs ((zz2.take i).map (·.2))) (.inr ⟨_, .head _, rfl, _, rfl⟩) .nil ?_ ?_)
            · intro qs hqs
              clear F27 N27
              intro lR h29 tk29 F29 N29 o29
              rw [List.size_toArray, ← ze, List.length_map, List.take_length] at hqs
              obtain ⟨rs, hrs⟩ : ∃ rs, rs = zz2.map (·.2) := ⟨_, rfl⟩
              have rp : rs.Perm (rng dr.length) := by rw [hrs, ← hz2]; exact zp.map _
              rw [← hrs] at hqs
              have r7 : @Ne Nat lR (L + 1 + 1 + 1 + 1 + 1 + 1 + 1) := Ne.symm (off1_mem o29 (L + 1 + 1 + 1 + 1 + 1 + 1 + 1, oR) (.tail _ (.tail _ (List.mem_append_left _ (.tail _ (.tail _ (.tail _ (.tail _ (.head _)))))))))
              have N30 : News base L h29 ((lR, listOf qs.toArray qs.length) :: ledB L lm lT lW lD f tf mn tn ti ys di oR oF2 oT2 oW2 oS2 oD2) := fun p hp => by
                rcases List.mem_cons.mp hp with rfl | hp
                · exact N29 _ (.head _)
                · exact N29 p (.tail _ (.tail _ (.tail _ (List.mem_append_left _ hp))))
              dsimp only [ledB] at N30
              clear N29 o29 zp ze zl hrs hz1 hz2 hz3 hperm
              ((try clear pk); (try clear pk))
              k_steps
              rename IsRange _ _ _ _ _ _ _ _ => hR32
              rename_i F32 N32 K32
              rename Obj => oR2
              have rsl : rs.length = dr.length := by rw [rp.length_eq, List.length_map, List.length_range]
              have zsl : zs.length = dr.length := by rw [ez, tno, hwl]
              refine LCg.CompSrc.range (n := dr.length) (by show A.handled = none; exact hh) F32 N32 hR32 (small_one (by decide) (by decide) (by omega) (by omega)) (by rw [rangeSize_nat]; simp) (by rw [sizeLine_eq]; omega)
                (fun g => restU (fun i os => IntsAre os ((List.range i).map fun k : Nat => zs.getD (rs.idxOf (k : Int)) 0)) trivial .nil ?_ ?_)
              · intro os hos
                clear F32 N32 K32 hR32
                unfold LCg.FinA
                intro lO h33 tk33 F33 N33 o33
                replace hos : IntsAre os (otherOf dr.length zs rs) := hos
                clear o33
                ((try clear pk); (try clear pk))
                k_steps
                refine unpark ?_
                rename Fr _ _ _ _ => F34
                rename News _ _ _ _ => N34
                have hLb : base.get? L = none := Heap.get?_none_of_le F34.above
                obtain ⟨oL5, esL5, epL5, hoL5, hdL5, rL5⟩ := id F34.ns
                refine agrees_c (l := [_]) (frs := [(L, oL5)]) X' T' F34.keep (Around.frames_deeper hfr) ⟨⟨(by show ScopeKind.function ≠ ScopeKind.module; decide), rfl, ⟨esL5, epL5, hdL5⟩, trivial⟩, fun p hp => by cases List.mem_singleton.mp hp; exact ⟨hoL5, hLb⟩⟩ (by simp) (by show A.handled = none; exact hh)
                  (N34 (lW, listOf ys.toArray ys.length) (.tail _ (.tail _ (.tail _ (.tail _ (.head _)))))).1 hys (N34 (lT, listOf ti.toArray tn) (.tail _ (.tail _ (.tail _ (.head _))))).1 iT (by omega) tno tr (by k_room) (by simp only [units_deeper]; omega)
                  (fun spots refused np HA => agreed_of hwI tl tnd tr hf0 hf1 hfT hall (fun _ => rfl) HA) ?_
                intro frs35 h35 tk35 SU35 k35 t35
                obtain ⟨F35, K35⟩ := keep_frame F34 hoL5 SU35 t35 k35
                have N35 := K35 _ N34
                clear F34 N34 K35 k35 t35 hoL5 hdL5 rL5
                ((try clear pk); (try clear pk))
                k_steps
                refine unpark ?_
                rename Fr _ _ _ _ => F36
                rename News _ _ _ _ => N36
                obtain ⟨oL6, esL6, epL6, hoL6, hdL6, rL6⟩ := id F36.ns
                obtain ⟨ol, ond, omem⟩ := other_props zsl znd pz rp
                refine agrees_c (l := [_]) (frs := [(L, oL6)]) X' T' F36.keep (Around.frames_deeper hfr) ⟨⟨(by show ScopeKind.function ≠ ScopeKind.module; decide), rfl, ⟨esL6, epL6, hdL6⟩, trivial⟩, fun p hp => by cases List.mem_singleton.mp hp; exact ⟨hoL6, hLb⟩⟩ (by simp) (by show A.handled = none; exact hh)
                  (N36 (lW, listOf ys.toArray ys.length) (.tail _ (.tail _ (.tail _ (.tail _ (.head _)))))).1 hys (N36 (lO, listOf os.toArray os.length) (.head _)).1 hos (by omega) (ol.trans hwl) (fun x hx => tr x ((omem x).mp hx)) (by k_room) (by simp only [units_deeper]; omega)
                  (fun spots refused np HA => agreed_of hwI (ol.trans hwl) ond (fun x hx => tr x ((omem x).mp hx)) hf0 hf1 (fun q => hfT ((omem f).mp q)) (fun x a b c => (omem x).mpr (hall x a b c)) (fun q => nomatch q) HA) ?_
                intro frs37 h37 tk37 SU37 k37 t37
                obtain ⟨F37, K37⟩ := keep_frame F36 hoL6 SU37 t37 k37
                clear F36 N36 K37 k37 t37 hoL6 hdL6 rL6
                ((try clear pk); (try clear pk))
                k_steps
                rename Fr _ _ _ _ => fE
                exact hret _ _ gn21 hb21 (fun b o e => fE.keep b o (hSk b o e))
              · clear F32 N32 K32 hR32 hret
                intro i os v I oI C oC Z3 m2 h33 tk33 E33 hi hv hJ33 hC33 hx33 F33 N33 off33 ne33
                obtain ⟨tv, rfl⟩ := hv
                rw [Int.zero_add] at hx33
                obtain ⟨hoi0, hoi1⟩ := other_at zsl rp hi
                have hoi : zs[((rs.idxOf (i : Int) : Nat) : Int).toNat]? = some (zs.getD (rs.idxOf (i : Int)) 0) := by rw [Int.toNat_natCast]; exact hoi1
                have him : (i : Int) ∈ rs := rp.mem_iff.mpr (List.mem_map.mpr ⟨i, List.mem_range.mpr hi, rfl⟩)
                ((try clear pk); (try clear pk))
                k_steps
                refine unpark ?_
                rename Fr _ _ _ _ => F34
                rename News _ _ _ _ => N34
                refine kso_sorted F34 N34 (isL N34 (.tail _ (.tail _ (.tail _ (.tail _ (.tail _ (.head _))))))) iT (by omega) fun lZ3 zi3 zs3 c3 h35 F35 N35 lt35 iz3 ez3 pz3 oz3 _ => ?_
                have ezs : zs3 = zs := lks_uniq (pz3.trans pz.symm) oz3 oz
                rw [ezs] at iz3
                clear F34 N34 lt35 ez3 pz3 oz3 ezs
                ((try clear pk); (try clear pk))
                k_steps
                refine unpark ?_
                rename Fr _ _ _ _ => F36
                rename News _ _ _ _ => N36
                refine method_B (N36 (lR, _) (.tail _ (.tail _ (.tail _ (.tail _ (.head _)))))).1 PySem.F.slot_list_index PySem.F.type_list_index ?_
                ((try clear pk); (try clear pk))
                k_steps
                refine unpark ?_
                refine index_B (N36 (lR, _) (.tail _ (.tail _ (.tail _ (.tail _ (.head _)))))).1 hqs him (by omega) ?_
                ((try clear pk); (try clear pk))
                iterate 1 (focus (first | (k_unfold; (try dsimp only)) | (k_end; wrow_close) | (leave1; try dsimp only)))
                refine item_L (isL N36 (.head _)) iz3 (by omega) hoi (by omega) (fun t37 => ?_) (by with_unfolding_all rfl)
                ((try clear pk); (try clear pk))
                k_steps
                rename News _ _ _ _ => nE
                refine cend (by assumption) (fun p hp => nE p (.tail _ hp)) ?_
                rw [List.range_succ, List.map_append]
                exact ints_snoc hJ33 _ _
            · clear F27 N27 hret
              intro i qs v I oI C oC Q2 m2 h29 tk29 E29 hi hv hJ29 hC29 hx29 F29 N29 off29 ne29
              have hi2 : i < zz2.length := by rw [List.size_toArray, ← ze, List.length_map] at hi; exact hi
              have hvi : v = zz2[i].1 := by
                rw [List.getElem?_toArray, ← ze, List.getElem?_map, List.getElem?_eq_getElem hi2] at hv
                exact (Option.some.inj hv).symm
              obtain ⟨a, x, t, u, n, e, hm⟩ := hz3 _ (zp.mem_iff.mp (List.getElem_mem hi2))
              rw [e] at hvi
              subst hvi
              have hta := (N29 _ (.tail _ (.tail _ (.tail _ (.tail _ (.tail _ (List.mem_append_right _ hm))))))).1
              dsimp only at hta
              ((try clear pk); (try clear pk))
              k_steps
              rename News _ _ _ _ => nE
              refine cend (by assumption) nE ?_
              rw [List.take_add_one, List.getElem?_eq_getElem hi2, List.map_append]
              exact ints_snoc hJ29 _ _
          · clear F24 N24 K24 hR24 hret
            intro i vs news v I oI C oC Z m2 h25 tk25 E25 hi hv hJ hC25 hx25 F25 N25 off25 ne25
            obtain ⟨tups, zz, rfl, hz1, hz2, hz3⟩ := hJ
            obtain ⟨tv, rfl⟩ := hv
            rw [Int.zero_add] at hx25
            have off := off25
            have N26 := N25
            dsimp only [ledB, List.cons_append, List.nil_append] at N26
            clear N25 off25
            have hdi : dr[((i : Nat) : Int).toNat]? = some dr[i] := by rw [Int.toNat_natCast]; exact List.getElem?_eq_getElem hi
            ((try clear pk); (try clear pk))
            k_steps
            rename Fr _ _ _ _ => fE
            rename News _ _ _ _ => nE
            rename (_ < _ ∧ _ < _ ∧ _) => l1
            refine g_end (a := ledB L lm lT lW lD f tf mn tn ti ys di oR oF2 oT2 oW2 oS2 oD2) (tups := tups) fE nE off ⟨l1.1, l1.2.1, l1.2.2.1⟩ ⟨_ :: tups, zz ++ [(.ref _, (i : Int))], rfl, ?_, ?_, hz3.snoc⟩
            · rw [List.map_append, hz1]; rfl
            · rw [List.map_append, hz2]
              unfold rng
              rw [List.range_succ, List.map_append]; rfl
  · clear F2 N2
    intro i ys v I oI C oC D m2 h9 tk9 E9 hi hv hJ9 hC9 hx9 F9 N9 off9 ne9
    have hi' : i < dr.length := by rw [List.size_toArray] at hi; omega
    obtain ⟨t, ht⟩ := idr.get i dr[i] (List.getElem?_eq_getElem hi')
    obtain rfl : v = .int dr[i] t := by
      rw [List.getElem?_toArray] at hv
      rw [ht] at hv
      exact (Option.some.inj hv).symm
    ((try clear pk); (try clear pk))
    k_steps
    rename News _ _ _ _ => nE
    refine cend (by assumption) nE ?_
    rw [List.take_add_one, List.getElem?_eq_getElem hi', List.map_append]
    exact ints_snoc hJ9 _ _
end law_cC
section
variable {w : World} {mean : ExcName → Option Value} {mg mb : Str → Option Value} {A : Around} {hb : Heap} {s : Shared} {Q E : Value → Shared → Prop}
theorem law_c {ls : Addr} {si : List Value} {sc : List Int} (X : (hd.heap_1 w.params).In s.heap) (T : Top hd.view_1 (looseW hd.view_1 [Str.ofString "_NodeInfo"]) mean mg mb s.heap)
   (hfr : A.frames = some []) (hh : A.handled = none) (hun : A.units ≤ 4) (hd : A.depth + 30 < recursionLimit) (hbare : AllBare s.gens) (hls : s.heap.IsList ls si.toArray) (his : IntsAre si sc) (hsl : sc.length ≤ 63)
   (hret : ∀ h' tk' gn', AllBare gn' → (∀ b o, s.heap.get? b = some o → h'.get? b = some o) → Q (.bool true) { s with heap := h', toks := tk', gens := gn' }) :
    wpAny (model PySem.Challenge.rw_oh0070_01.row.prog w) A (call (.ref 212) [.ref ls]) Q E s := by
  refine Classical.byContradiction fun hz9 => ?_
  exact @Classical.epsilon_spec law_cP (fun x => ¬ law_cS x) ⟨⟨w, mean, mg, mb, A, s, Q, E, ls, si, sc⟩, fun zz9 => hz9 (zz9 X T hfr hh hun hd hbare hls his hsl hret)⟩ law_cC.key
end
end Part_M18
section Part_M20
theorem anew_M20 : True := by k_with_none; w_top off; trivial
theorem law_fa {mg : Str → Option Value} {K : Frag} {h : Heap} {p : Program} {loose : List Str} {mean : ExcName → Option Value} {mb : Str → Option Value} {x y : Str} {fa n : Addr} (X : K.In h) (T : Top p loose mean mg mb h) (e : x = y) (hm : mg x = some (.ref fa)) (hn : nsIn K mainGlobals y = some (some (.ref n))) : fa = n := by
  have h1 := mg_of X T.g hn
  rw [← e, hm] at h1
  cases h1; rfl
theorem law_all : PySem.Challenge.rw_oh0070_01.Holds := hd (by
  k_fill
  intro w s₀ s₁ mg mb G Y fa o pm cd doc dV kV ho hd hcd hD hmg hg args vals as hpre hlay hrd hwl hlo
  have KX := kIn_of Y
  refine Ground.open G ?_
  intro T B D TE TW
  obtain rfl : fa = 212 := law_fa (y := Str.ofString "law") KX T (by rfl) hmg (by k_is)
  clear hd hcd hD hmg
  wrow_args hpre hlay hrd hwl hlo
  clear G Y ho B TE TW D
  refine wpAny_mono (Q := fun v s' => v = .bool true ∧ (∀ b o, s₁.heap.get? b = some o → s'.heap.get? b = some o) ∧ s'.os = s₁.os ∧ AllBare s'.gens) (E := fun _ _ => False) ?_ (fun v s' e => ?_) (fun _ _ e => e.elim)
  · rename IntsAre _ _ => hI9
    rename (s₁.heap.IsList _ _) => hL9
    exact law_c (A := callerA) KX T rfl rfl (by decide) (by decide) (.of_eq hg) hL9 hI9 (by omega) fun h' tk' gn' hb hk => ⟨rfl, hk, rfl, hb⟩
  · obtain ⟨rfl, hk, hos, hbr⟩ := e
    refine ⟨.inl ⟨_, _, _, rfl, raisesW_false (by wrow_none_raised), ReadsW.bool _, ?_, ?_⟩, .of_keep hk, hos, hbr⟩
    · wrow_post
    · exact fun _ => ⟨List.nodup_nil, fun a ha => nomatch ha⟩)
end Part_M20
end Mine
end Walks
theorem PySem.Challenge.cw_oh0070_01_holds : PySem.Challenge.rw_oh0070_01.Holds := by
  exact Mine.law_all
