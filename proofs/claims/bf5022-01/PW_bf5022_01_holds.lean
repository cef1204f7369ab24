import PyProof.Rows.All
import Wide.All
import OpenK.AllK
import Wide.FinOn
import Lean
import PySem.Challenge.RW_bf5022_01
open PySem PySem.W PyProof.Rows
set_option Elab.async false
set_option maxRecDepth 100000
set_option maxHeartbeats 8000000

namespace Mine

/-- builtins whose activation may hold a bytearray's buffer -/
def holders : List String := ["bytearray.__contains__", "bytearray.__mod__", "bytearray.__rmod__", "_struct.pack_into.held", "bytearray.find.held"] ++ Builtin.Bytes.decodersThatHold

def free (c : Code) : Bool := match c with
  | .builtin id _ => !holders.contains id
  | _ => true

def Clear (Γ : Ctx) : Prop := free Γ.code = true ∧ ∀ x ∈ Γ.below, free x.1 = true

def wpC {α : Type} (M : Model) (A : Around) (t : Sem α) (Q : α → Shared → Prop) (E : Value → Shared → Prop) (s : Shared) : Prop :=
  ∀ Γ p, Γ.In A → Clear Γ → Sem.wp M Γ t (fun a _ s' => Q a s') (fun e _ s' => E e s') p s

def codeC (M : Model) (A : Around) (c : Code) (R : Result → Shared → Prop) (s : Shared) : Prop :=
  ∀ Γ p, Γ.code = c → Γ.Below A → (∀ x ∈ Γ.below, free x.1 = true) → wpCode M Γ R p s

section
variable {α β : Type} {M : Model} {A : Around} {E : Value → Shared → Prop} {s : Shared}

theorem wpC_any {t : Sem α} {Q : α → Shared → Prop} (h : wpAny M A t Q E s) : wpC M A t Q E s := fun Γ p hΓ _ => h Γ p hΓ
theorem codeC_any {c : Code} {R : Result → Shared → Prop} (h : codeAny M A c R s) : codeC M A c R s := fun Γ p hc hΓ _ => h Γ p hc hΓ

theorem wpC_pure {a : α} {Q : α → Shared → Prop} (h : Q a s) : wpC M A (pure a) Q E s := wpC_any (wpAny_pure h)

theorem wpC_mono {t : Sem α} {Q Q' : α → Shared → Prop} {E' : Value → Shared → Prop} (h : wpC M A t Q E s)
    (hQ : ∀ a s, Q a s → Q' a s) (hE : ∀ e s, E e s → E' e s) : wpC M A t Q' E' s :=
  fun Γ p hΓ hc => Sem.wp_mono M Γ t (fun a _ s => hQ a s) (fun e _ s => hE e s) p s (h Γ p hΓ hc)

theorem wpC_bind {m : Sem α} {f : α → Sem β} {Q : β → Shared → Prop} (h : wpC M A m (fun a s' => wpC M A (f a) Q E s') E s) :
    wpC M A (m >>= f) Q E s := fun Γ p hΓ hc => by
  rw [Sem.wp_bind']
  exact Sem.wp_mono M Γ m (fun a p' s' h' => h' Γ p' hΓ hc) (fun _ _ _ h' => h') p s (h Γ p hΓ hc)

/-- a first part that asks nothing of the stack, then the rest -/
theorem wpC_then {m : Sem α} {f : α → Sem β} {Q : β → Shared → Prop} (h : wpAny M A m (fun a s' => wpC M A (f a) Q E s') E s) :
    wpC M A (m >>= f) Q E s := wpC_bind (wpC_any h)

theorem wpC_holding {vs : List Value} {m : Sem α} {Q : α → Shared → Prop} (h : wpC M A m Q E s) : wpC M A (holding vs m) Q E s :=
  fun Γ p hΓ hc => by rw [Sem.wp_holding]; exact h Γ p hΓ hc

theorem wpC_onRaise {m : Sem α} {k : Value → Sem Unit} {Q : α → Shared → Prop}
    (h : wpC M A m Q (fun e s' => wpC M A (k e) (fun _ s'' => E e s'') E s') s) : wpC M A (m.onRaise k) Q E s := fun Γ p hΓ hc => by
  rw [Sem.wp_onRaise]
  exact Sem.wp_mono M Γ m (fun _ _ _ h' => h') (fun e p' s' h' => h' Γ p' hΓ hc) p s (h Γ p hΓ hc)

theorem wpC_run {c : Code} {h : Option Value} {Q : Flow → Shared → Prop}
    (hc : codeC M (A.mark h) c (fun r s' => match r with | .ok f => Q f s' | .error e => E e s') s) (hnb : h ≠ some byPass := by intro x; cases x) :
    wpC M A (run c h) Q E s :=
  fun Γ p hΓ cl => by
    rw [Sem.wp_run]
    refine hc _ p rfl (hΓ.enter c h p hnb) fun x hx => ?_
    rcases List.mem_cons.mp hx with rfl | hx
    · exact cl.1
    · exact cl.2 x hx

theorem wpC_runValue {c : Code} {Q : Value → Shared → Prop}
    (hc : codeC M A c (fun r s' => match r with | .ok (.ret v) => Q v s' | .ok _ => False | .error e => E e s') s) :
    wpC M A (runValue c) Q E s := fun Γ p hΓ cl => by
  rw [Sem.wp_runValue]
  refine hc _ p rfl (hΓ.enter c none p (by intro x; cases x)) fun x hx => ?_
  rcases List.mem_cons.mp hx with rfl | hx
  · exact cl.1
  · exact cl.2 x hx

theorem wpC_call {f : Value} {pos : List Value} {kw : List (PySem.Str × Value)} {Q : Value → Shared → Prop}
    (hc : codeC M A (.call f ⟨pos, kw⟩) (fun r s' => match r with | .ok (.ret v) => Q v s' | .ok _ => False | .error e => E e s') s) :
    wpC M A (call f pos kw) Q E s := wpC_runValue hc

theorem codeC_mono {c : Code} {R R' : Result → Shared → Prop} (h : codeC M A c R s) (hR : ∀ r s, R r s → R' r s) : codeC M A c R' s :=
  fun Γ p hc hΓ cl => wpCode_mono hR (h Γ p hc hΓ cl)

theorem codeC_of_tree {c : Code} {R : Result → Shared → Prop} (hf : free c = true)
    (h : wpC M (A.under c) (M.den c) (fun fin s' => match fin with | .done f => R (.ok f) s' | .again c' => c'.quiet = true ∧ codeC M A c' R s')
      (fun e s' => R (.error e) s') s) : codeC M A c R s := fun Γ p hc hΓ cl => by
  rw [wpCode_iff_wp, hc]
  refine Sem.wp_mono M Γ _ (fun fin p' s' h' => ?_) (fun _ _ _ h' => h') p s (h Γ p (hc ▸ hΓ.in) ⟨hc ▸ hf, cl⟩)
  cases fin with
  | done f => exact h'
  | again c' => exact ⟨h'.1, h'.2 (Γ.goto c') p' rfl (hΓ.goto c') cl⟩

theorem codeC_loop {c : Code} {R : Result → Shared → Prop} (hf : free c = true) (hq : c.quiet = true) (I : Nat → Shared → Prop)
    (turn : ∀ n s, I n s → wpC M (A.under c) (M.den c)
      (fun fin s' => match fin with | .done f => R (.ok f) s' | .again c' => c' = c ∧ ∃ m, m < n ∧ I m s') (fun e s' => R (.error e) s') s)
    (n : Nat) (h : I n s) : codeC M A c R s := by
  induction n using Nat.strongRecOn generalizing s with
  | ind n ih =>
    refine codeC_of_tree hf (wpC_mono (turn n s h) (fun fin s' hf' => ?_) fun _ _ h' => h')
    cases fin with
    | done f => exact hf'
    | again c' => obtain ⟨rfl, m, hm, hI⟩ := hf'; exact ⟨hq, ih m hm hI⟩

theorem any_clear {F : Code × Pos → Bool} (hF : ∀ x, free x.1 = true → F x = false) : ∀ l : List (Code × Pos), (∀ x ∈ l, free x.1 = true) → l.any F = false
  | [], _ => rfl
  | x :: l, h => by
    rw [List.any_cons, hF x (h x (.head _)), any_clear hF l fun y hy => h y (.tail _ hy)]
    rfl

/-- what a clear stack answers: nothing holds the buffer -/
theorem exported_clear {v : Value} {Q : Bool → Shared → Prop} (h : Q false s) : wpC M A (Builtin.Bytes.exported v) Q E s := fun Γ p _ cl => by
  unfold Builtin.Bytes.exported
  rw [Sem.wp_bind']
  unfold stack
  rw [Sem.wp_stack, Sem.wp_pure, Sem.wp_pure']
  have hall : ∀ x ∈ (Γ.code, p) :: Γ.below, free x.1 = true := fun x hx => by
    rcases List.mem_cons.mp hx with rfl | hx
    · exact cl.1
    · exact cl.2 x hx
  rw [any_clear (fun x hf => ?_) _ hall]
  · exact h
  · obtain ⟨c, q⟩ := x
    cases c with
    | builtin id args =>
      simp only [free, Bool.not_eq_true'] at hf
      unfold holders at hf
      simp only [List.contains_eq_mem, decide_eq_false_iff_not, List.mem_append, List.mem_cons, List.not_mem_nil, or_false, not_or] at hf
      obtain ⟨⟨h1, h2, h3, h4, h5⟩, h6⟩ := hf
      split <;> simp_all
    | _ => rfl
end
end Mine

namespace Mine

/-- the caller's own context: nothing stands below it -/
def caller0 : PySem.Ctx := ⟨.builtin "claim.caller" {}, none, none, [], none⟩
theorem caller0_clear : Clear caller0 := ⟨by decide +kernel, fun _ h => nomatch h⟩

/-- a tree that comes through on every clear stack comes through at the caller -/
theorem caller_ends {prog : Program} {w : World} {t : Sem Fin} {s : Shared} {R : Result → Shared → Prop} (awake : s.asleep)
    (h : wpC (model prog w) callerA t (fun fin s' => ∃ f, fin = .done f ∧ R (.ok f) s' ∧ AllBare s'.gens) (fun e s' => R (.error e) s' ∧ AllBare s'.gens) s) :
    ∃ n r s' s'', schedN (denote table) prog w n (.single s ⟨t, .builtin "claim.caller" {}, default, []⟩) = .halted (outcomeOf r) s' ∧
      runN (denote table) prog w n s ⟨t, .builtin "claim.caller" {}, default, []⟩ = .halted (outcomeOf r) s' ∧ s'.forget = s''.forget ∧ R r s'' := by
  have at0 := h caller0 default caller_in caller0_clear
  obtain ⟨n, r, s₁, s₂, hs, hr, hf, hR⟩ := wp_halts_full (M := model prog w) (R := R) (c := .builtin "claim.caller" {}) (t := t) (p := default) awake
    (Sem.wp_mono _ _ t (fun fin p' s' hq => by
      obtain ⟨f, rfl, h1, h2⟩ := hq
      exact ⟨h1, leftWithCleanup_false_of_bare h2⟩) (fun e p' s' hq => ⟨hq.1, leftWithCleanup_false_of_bare hq.2⟩) default s at0)
  exact ⟨n, r, s₂, s₁, hs, hr, hf, hR⟩

/-- the walk that is asked: as the library's, but on clear stacks alone -/
abbrev WalkC (q : Program) (loose : List PySem.Str) (XP : (PySem.Str → Option Value) → Heap → Prop) (YP : World → Heap → Prop) (r : RowW) (d : DefRec) (kwd : List (PySem.Str × PySem.Expr)) : Prop :=
  ∀ (w : World) (s₀ s₁ : Shared) (mg mb : PySem.Str → Option Value), Ground q loose r.records XP w s₀ mg mb s₁.heap → YP w s₁.heap →
  ∀ (a : Addr) (o : Obj) (pm cd doc dV kV : Value), s₁.heap.get? a = some o →
    o.data = .func { Calls.docDef d.name d.params d.body d.scope pm cd doc with defaults := dV, kwdefaults := kV } → s₁.heap.CodeRec cd d.name → Dflts mg s₁.heap d.params kwd dV kV → mg d.name = some (.ref a) → s₁.gens = #[] →
  ∀ (args : List WData) (vals : List Value) (as : List Addr), r.claim.pre args = true → WData.layableAll args = true → ReadsAllW r.records (classAt s₀.heap) s₁.heap vals args as → WellAll w.params s₁.heap vals args → (∀ a ∈ as, (a == sysModules) = false) →
    wpC (model r.prog w) callerA (PySem.call (.ref a) vals) (fun v s' => GoodWG r.claim (classAt s₀.heap) (ExcName.means s₀.heap) args s₁ (.ok (.ret v)) s')
      (fun e s' => GoodWG r.claim (classAt s₀.heap) (ExcName.means s₀.heap) args s₁ (.error e) s') s₁

/-- the head: the claim from the walk on clear stacks -/
theorem PySem.W.holds_open {r : OpenRow} {q : Program} {loose : List PySem.Str} {Xt : Shared → Bool} {XP : (PySem.Str → Option Value) → Heap → Prop} {α : Type} {Yf : Shared → α} {Ya : World → α} {YP : World → Heap → Prop} {d : DefRec} {kwd : List (PySem.Str × PySem.Expr)} {N : Nat}
    (left : LeftO r.prog q loose Xt Yf Ya N) (seen : ∀ w s, Yf s = Ya w → YP w s.heap) (seenK : ∀ w h h', YP w h → (∀ b o, h.get? b = some o → h'.get? b = some o) → YP w h')
    (top : ∀ s, Xt s = true → XP (s.heap.nsMap mainGlobals) s.heap) (topK : ∀ mg h h', XP mg h → (∀ b o, h.get? b = some o → h'.get? b = some o) → XP mg h')
    (isDef : defOf q r.name = some (d, kwd)) (isThe : r.prog.theDef r.name = some (d.params, d.body, d.scope)) (kws : kwWritten? d.params.kwonlyargs d.params.kw_defaults = some kwd)
    (recs : ∀ s, Xt s = true → RecFacts r.records s.heap) (apart : (!r.writes || r.records.isEmpty) = true)
    (said : r.wellSaid = true) (looks : (chainsOk q && opensWell r.prog && (frees r.toRowW && r.within.isEmpty)) = true) (bare : r.prog.bare) (promise : r.toRowW.promised)
    (walk : WalkC q loose XP YP r.toRowW d kwd) : r.Holds := by
  obtain ⟨looks, free⟩ := Bool.and_eq_true_iff.mp looks
  obtain ⟨chains, opens⟩ := Bool.and_eq_true_iff.mp looks
  obtain ⟨free, within⟩ := Bool.and_eq_true_iff.mp free
  obtain ⟨hsame, hun, haf, hap, hmk⟩ := frees_parts free
  have within' : r.toRowW.claim.within = [] := List.isEmpty_iff.mp within
  have ids := ident_freeW (r := r.toRowW) hun haf hap
  refine ⟨said, promise, ⟨bare, opens, by show r.makers.map _ = []; rw [hmk]; rfl⟩, promise.witness, fun w => ⟨(left.behind top chains w).1, fun s' run => ?_⟩⟩
  obtain ⟨s₀, fence, none0, s, ran, hz, hgens, hns, G', y⟩ := (left.behind (XP := fun mg h => XP mg h ∧ RecFacts r.records h) (fun s e => ⟨top s e, recs s e⟩) chains w).2 s' run
  have G0 : Ground q loose [] XP w s (s.heap.nsMap mainGlobals) (s.heap.nsMap builtinsNs) s.heap := ⟨G'.T, G'.B, G'.D, G'.TE, G'.TD, G'.W, G'.X.1, G'.cls, G'.has, G'.apart, G'.once, G'.K⟩
  have RF := G'.X.2
  have noGens : s.gens = #[] := Array.eq_empty_of_size_eq_zero (beq_iff_eq.mp hgens)
  refine ⟨s₀, fence, none0, s, ran, fun n hn => ?_, RF.1, RF.2.1, fun args pre lay ord perm => ?_⟩
  · obtain rfl : n = r.name := by split at hn <;> simp_all
    exact pinned_of_view hns G0 isDef isThe kws
  have G : Ground q loose r.records XP w s _ _ s.heap := RF.ground G0
  obtain ⟨⟨vs, s₁⟩, laid⟩ := Option.isSome_iff_exists.mp (layAllW_isSome (P := w.params) (ord := ord) G.has args r.args s (pre_splitW pre).1)
  have keeps := layAllW_keeps _ _ _ laid
  have rest := layAllW_rest _ _ _ laid
  obtain ⟨as, reads, inn, old⟩ := reads_layAllW perm _ _ _ laid lay s₁.heap (fun _ _ e => e)
  have L : Laid r.records w s s₁ args vs as := ⟨⟨ord, perm, laid⟩, reads, inn, old, keeps, rest.1.trans noGens, rest.2.2.1⟩
  have G₁ := G.keeps topK keeps
  obtain ⟨a, o, pm, cd, doc, dV, kV, f1, f2, f3, f4, f5⟩ := G₁.fn isDef
  have step := walk w s s₁ _ _ G₁ (seenK _ _ _ (seen w s y) keeps) a o pm cd doc dV kV f2 f3 f4 f5 (defOf_name isDef ▸ f1) L.gens args vs as pre lay L.reads L.well (L.low G.low)
  have good : ∀ res s', GoodWG r.toRowW.claim (classAt s.heap) (ExcName.means s.heap) args s₁ res s' →
      (r.toRowW.claim.Ends s args vs s₁ res s' ∧ s'.os = s.os ∧ (r.writes = true → namesKept r.prog r.keeps s.heap s'.heap ∧ ∀ x ∈ r.records, ∀ a, classAt s.heap x.1 = some a → recordClass s'.heap a x.1 (x.2.map (·.1)) = true)) ∧ AllBare s'.gens := fun res s' g => by
    obtain ⟨e1, e2, e3⟩ := g.laid (c := r.toRowW.claim) hsame within' ids L
    exact ⟨⟨e1, e2, fun wr => ⟨namesKept_of ran hns r.keeps keeps g.2.1.old, noTable apart wr⟩⟩, e3⟩
  obtain ⟨n, res, s₂, s₃, sched, runs, forg, ends, os, kept⟩ := caller_ends (prog := r.prog) (w := w) (s := s₁)
    (t := do match ← nsGet mainNs r.name with
      | some f => do ret (← PySem.call f vs)
      | none => unsupported "claim.caller:no-such-global")
    (R := fun res s' => r.toRowW.claim.Ends s args vs s₁ res s' ∧ s'.os = s.os ∧ (r.writes = true → namesKept r.prog r.keeps s.heap s'.heap ∧ ∀ x ∈ r.records, ∀ a, classAt s.heap x.1 = some a → recordClass s'.heap a x.1 (x.2.map (·.1)) = true))
    (Shared.asleep_of_life rest.2.2.2 hz)
    (wpC_then (wpAny_nsGet (m := _) G₁.T.g (by
      rw [f1]
      exact wpC_bind (wpC_mono step (fun v s' g => wpC_pure ⟨_, rfl, (good _ _ g).1, (good _ _ g).2⟩) fun e s' g => good _ _ g))))
  obtain ⟨eh, _, _, eo, _⟩ := Shared.forget_eq forg
  have ends := ends.congr eh
  have life : s₂.heap.life = s.heap.life := (runN_life _ _ _ runs).trans rest.2.2.2
  rw [← eh] at kept
  rw [← eo] at os
  refine ⟨vs, s₁, laid, n, _, s₂, sched, ?_, (fun _ i x hx => by rw [noGens] at hx; simp at hx), kept, by rw [life], Shared.rest_eq os⟩
  rcases ends with ⟨v, rfl, d1, d2, d3, d4, d5⟩ | ⟨e, ob, cls, rfl, d1, d2, d3, d4, d5⟩
  · exact .inl ⟨v, rfl, d1, d2, d3, fun b o y _ => d4 b o y, d5⟩
  · exact .inr ⟨e, ob, cls, rfl, d1, d2, d3, d4, fun b o y _ => d5 b o y⟩
end Mine

namespace Mine
open_top hd for PySem.Challenge.rw_bf5022_01
end Mine

namespace Mine

/-- a bytearray that holds these ints -/
def bya (ns : List Int) : Obj := { cls := .type "bytearray", data := .bytearray (byteArr ns) }

theorem slot_len : Slot "bytearray" "__len__" "bytearray.__len__" :=
  .of (owner := "bytearray") (n := "__len__") (by rw [typeLookup_type, builtinLookup_eq_fast]; kernel_rfl) (by decide +kernel) (by decide +kernel) (by decide +kernel)
    (by first | exact .inl (by decide +kernel) | exact .inr (by decide +kernel)) (by rw [isSubtype_type]; kernel_rfl)
theorem slot_getitem : Slot "bytearray" "__getitem__" "bytearray.__getitem__" :=
  .of (owner := "bytearray") (n := "__getitem__") (by rw [typeLookup_type, builtinLookup_eq_fast]; kernel_rfl) (by decide +kernel) (by decide +kernel) (by decide +kernel)
    (by first | exact .inl (by decide +kernel) | exact .inr (by decide +kernel)) (by rw [isSubtype_type]; kernel_rfl)
theorem slot_setitem : Slot "bytearray" "__setitem__" "bytearray.__setitem__" :=
  .of (owner := "bytearray") (n := "__setitem__") (by rw [typeLookup_type, builtinLookup_eq_fast]; kernel_rfl) (by decide +kernel) (by decide +kernel) (by decide +kernel)
    (by first | exact .inl (by decide +kernel) | exact .inr (by decide +kernel)) (by rw [isSubtype_type]; kernel_rfl)
theorem entry_len : entryFor table "bytearray.__len__" = some Builtin.«bytearray.__len__» := by first | exact entryFor_of_fast (by kernel_rfl) | exact entryFor_of_tree (by kernel_rfl)
theorem entry_getitem : entryFor table "bytearray.__getitem__" = some Builtin.«bytearray.__getitem__» := by first | exact entryFor_of_fast (by kernel_rfl) | exact entryFor_of_tree (by kernel_rfl)
theorem entry_setitem : entryFor table "bytearray.__setitem__" = some Builtin.«bytearray.__setitem__» := by first | exact entryFor_of_fast (by kernel_rfl) | exact entryFor_of_tree (by kernel_rfl)
theorem args_len (a : Value) : argsOk "bytearray.__len__" ⟨[a], []⟩ := by unfold argsOk; kernel_rfl
theorem args_getitem (a b : Value) : argsOk "bytearray.__getitem__" ⟨[a, b], []⟩ := by unfold argsOk; kernel_rfl
theorem args_setitem (a b c : Value) : argsOk "bytearray.__setitem__" ⟨[a, b, c], []⟩ := by unfold argsOk; kernel_rfl

theorem byte_back {n : Int} (h0 : 0 ≤ n) (h1 : n < 256) : ((n.toNat.toUInt8).toNat : Int) = n := by
  have h : n.toNat < 256 := by omega
  have : (n.toNat.toUInt8).toNat = n.toNat := by
    simp [Nat.toUInt8]
    omega
  rw [this]; omega
theorem byteArr_get {ns : List Int} {i : Nat} {n : Int} (h : ns[i]? = some n) : (byteArr ns)[i]? = some n.toNat.toUInt8 := by
  simp [byteArr, h]
theorem byteArr_set {ns : List Int} {i : Nat} {n : Int} : (byteArr ns).setIfInBounds i n.toNat.toUInt8 = byteArr (ns.set i n) := by
  simp [byteArr, List.map_set]

section
variable {prog : Program} {w : World} {A : Around} {E : Value → Shared → Prop} {s : Shared}

theorem bya_type {a : Addr} {ns : List Int} (ho : s.heap.get? a = some (bya ns)) : s.TypeIs (.ref a) "bytearray" := ⟨_, ho, rfl⟩

theorem payload_bya {a : Addr} {ns : List Int} {Q : Array UInt8 → Shared → Prop} (ho : s.heap.get? a = some (bya ns)) (h : Q (byteArr ns) s) :
    wpAny (model prog w) A (Builtin.Bytes.payload (.ref a)) Q E s := by
  unfold Builtin.Bytes.payload Builtin.Bytes.payload?
  refine wpAny_bind (wpAny_bind (wpAny_load ho ?_))
  exact wpAny_pure (wpAny_pure h)

theorem subscript_int {k : Int} {t : Tok} {Q : Option Int → Shared → Prop} (h0 : 0 ≤ k) (hfit : k < 2 ^ 63) (h : Q (some k) s) :
    wpAny (model prog w) A (Builtin.Bytes.subscript? (.int k t)) Q E s := by
  unfold Builtin.Bytes.subscript?
  refine wpAny_bind (wpAny_specialOf (T := "int") (typeIs_int s k t) int_index ?_)
  show wpAny (model prog w) A (asIndex (.int k t) >>= _) Q E s
  refine wpAny_bind (wpAny_of_eq (a := k) rfl ?_)
  have hf : Builtin.Bytes.fitsIndex k = true := by
    unfold Builtin.Bytes.fitsIndex
    simp only [Bool.and_eq_true, decide_eq_true_eq]
    omega
  show wpAny (model prog w) A (if (!Builtin.Bytes.fitsIndex k) = true then _ else _) Q E s
  rw [if_neg (by rw [hf]; decide)]
  exact wpAny_pure h

theorem getItem_bya {a : Addr} {ns : List Int} {k n : Int} {t : Tok} {Q : Value → Shared → Prop} (ho : s.heap.get? a = some (bya ns)) (h0 : 0 ≤ k) (hfit : k < 2 ^ 63)
    (hx : ns[k.toNat]? = some n) (hlo : 0 ≤ n) (hhi : n < 256) (h : Q (.int n s.toks) { s with toks := s.toks + 1 }) :
    wpAny (model prog w) A (getItem (.ref a) (.int k t)) Q E s := by
  have hT := bya_type (s := s) ho
  unfold getItem
  try with_reducible refine wpAny_holding ?_
  first | refine wpAny_bind (wpAny_pure ?_) | skip
  refine wpAny_bind (wpAny_sequenceKey hT (by decide) ?_)
  refine wpAny_bind (wpAny_callSpecial?_slot (name := PySem.Str.ofString "__getitem__") hT slot_getitem (wpAny_call_entry slot_getitem hT entry_getitem ?_ (args_getitem _ _)))
  unfold Builtin.«bytearray.__getitem__»
  refine wpAny_bind (wpAny_of_eq (a := (Value.ref a, [Value.int k t])) rfl ?_)
  refine wpAny_bind (subscript_int h0 hfit ?_)
  refine wpAny_bind (payload_bya ho ?_)
  have hlt : k.toNat < ns.length := by
    rcases Nat.lt_or_ge k.toNat ns.length with h1 | h1
    · exact h1
    · rw [List.getElem?_eq_none h1] at hx; cases hx
  have hsz : (byteArr ns).size = ns.length := byteArr_size ns
  rw [seqIndex_of (n := (byteArr ns).size) h0 (by rw [hsz]; omega)]
  have hg := byteArr_get hx
  show wpAny _ _ (match ((byteArr ns)[k.toNat]?) with | some x => _ | none => _) _ _ _
  rw [hg]
  show wpAny _ _ (do return ← retInt (n.toNat.toUInt8).toNat) _ _ _
  rw [byte_back hlo hhi]
  exact wpAny_ret_mkInt (wpAny_pure h)

theorem item_bya {value slice : PySem.Expr} {a : Addr} {ns : List Int} {k n : Int} {t : Tok} {Q : Value → Shared → Prop} (ho : s.heap.get? a = some (bya ns)) (h0 : 0 ≤ k) (hfit : k < 2 ^ 63)
    (hx : ns[k.toNat]? = some n) (hlo : 0 ≤ n) (hhi : n < 256) (h : Q (.int n s.toks) { s with toks := s.toks + 1 })
    (hs : subscripted slice false (.ref a) (.int k t) = operate [.ref a, .int k t] (getItem (.ref a) (.int k t)) := by with_unfolding_all rfl) :
    wpAny (model prog w) A (subscriptTail value slice (.ref a) (.int k t)) Q E s :=
  tail_any (bya_type ho) slot_getitem.lookup (getItem_bya ho h0 hfit hx hlo hhi h) hs

theorem setItem_bya {a : Addr} {ns : List Int} {k n : Int} {t u : Tok} {Q : Unit → Shared → Prop} (ho : s.heap.get? a = some (bya ns)) (h0 : 0 ≤ k) (hfit : k < 2 ^ 63)
    (hlt : k < ns.length) (hlo : 0 ≤ n) (hhi : n < 256) (hz : ns.length ≤ sizeLine)
    (h : ∀ h', h'.get? a = some (bya (ns.set k.toNat n)) → Heap.SameBut a s.heap h' → Q () { s with heap := h' }) :
    wpAny (model prog w) A (setItem (.ref a) (.int k t) (.int n u)) Q E s := by
  have hT := bya_type (s := s) ho
  unfold setItem
  try with_reducible refine wpAny_holding ?_
  first | refine wpAny_bind (wpAny_pure ?_) | skip
  refine wpAny_bind (wpAny_sequenceKey hT (by decide) ?_)
  refine wpAny_bind (wpAny_callSpecial?_slot (name := PySem.Str.ofString "__setitem__") hT slot_setitem (wpAny_call_entry slot_setitem hT entry_setitem ?_ (args_setitem _ _ _)))
  unfold Builtin.«bytearray.__setitem__»
  refine bm_if_false rfl ?_
  refine wpAny_bind (subscript_int h0 hfit ?_)
  show wpAny _ _ (Builtin.Bytes.byteValue (.int n u) >>= _) _ _ _
  unfold Builtin.Bytes.byteValue
  refine wpAny_bind (wpAny_bind (wpAny_of_eq (rfl : asIndex (.int n u) = pure n) ?_))
  refine bm_if_false (by simp only [Bool.or_eq_false_iff, decide_eq_false_iff_not]; omega) ?_
  refine wpAny_pure ?_
  refine wpAny_bind (payload_bya ho ?_)
  have hsz : (byteArr ns).size = ns.length := byteArr_size ns
  rw [seqIndex_of (n := (byteArr ns).size) h0 (by rw [hsz]; omega)]
  show wpAny _ _ (updateBytearray a (·.setIfInBounds k.toNat n.toNat.toUInt8) >>= _) _ _ _
  unfold updateBytearray
  refine wpAny_bind (wpAny_bind (wpAny_load ho ?_))
  show wpAny _ _ (update a (Obj.mapBytearray (·.setIfInBounds k.toNat n.toNat.toUInt8)) >>= fun _ => lookBehind a) _ _ _
  refine wpAny_bind (wpAny_update ho ?_)
  have e : Obj.mapBytearray (·.setIfInBounds k.toNat n.toNat.toUInt8) (bya ns) = bya (ns.set k.toNat n) := by
    show ({ cls := _, data := .bytearray ((byteArr ns).setIfInBounds k.toNat n.toNat.toUInt8) _ } : Obj) = _
    rw [byteArr_set]; rfl
  have h2 : (s.heap.update a (Obj.mapBytearray (·.setIfInBounds k.toNat n.toNat.toUInt8))).get? a = some (bya (ns.set k.toNat n)) := by
    rw [← e]
    exact Heap.get?_update_self (Obj.mapBytearray (·.setIfInBounds k.toNat n.toNat.toUInt8)) ho (by rw [e]; rfl)
  refine wpAny_lookBehind h2 ?_ ?_
  · show (if (byteArr (ns.set k.toNat n)).size > sizeLine then some "bytearray:memory" else none) = none
    rw [if_neg]
    rw [byteArr_size, List.length_set]
    omega
  · first
      | exact wpAny_pure ⟨.none, rfl, wpAny_pure (h _ h2 (Heap.SameBut.update ..))⟩
      | exact wpAny_bind (wpAny_pure (wpAny_pure ⟨.none, rfl, wpAny_pure (h _ h2 (Heap.SameBut.update ..))⟩))

theorem len_bya {a : Addr} {ns : List Int} {Q : Value → Shared → Prop} (ho : s.heap.get? a = some (bya ns)) (hfit : ns.length ≤ sizeLine)
    (h : Q (.int ns.length (s.toks + 1)) { s with toks := s.toks + 1 + 1 }) : wpAny (model prog w) A (call (.builtin "len") [.ref a]) Q E s := by
  have hT := bya_type (s := s) ho
  have hsz : (byteArr ns).size = ns.length := byteArr_size ns
  have hl : ns.length ≤ 16777216 := by rw [← sizeLine_eq]; exact hfit
  refine Calls.call_function_entry PySem.kind_len PySem.plain_len PySem.entry_len (PySem.args_len1 _) ?_
  unfold Builtin.«len»
  refine wpAny_bind (m := oneArg "len" _) (wpAny_pure ?_)
  refine wpAny_bind (m := callSpecial? (.ref a) (PySem.Str.ofString "__len__")) (wpAny_callSpecial?_slot (name := PySem.Str.ofString "__len__") hT slot_len
    (wpAny_call_entry slot_len hT entry_len ?_ (args_len _)))
  unfold Builtin.«bytearray.__len__»
  refine wpAny_bind (wpAny_of_eq (a := (Value.ref a, ([] : List Value))) rfl ?_)
  refine wpAny_bind (payload_bya ho ?_)
  rw [hsz]
  refine wpAny_ret_mkInt ?_
  refine wpAny_bind (wpAny_holding (wpAny_pure ?_))
  refine wpAny_bind (wpAny_letGo ?_)
  show wpAny _ _ (if ((ns.length : Nat) : Int) < 0 then _ else _) _ _ _
  rw [if_neg (by omega)]
  show wpAny _ _ (if ((ns.length : Nat) : Int) ≥ 2 ^ 63 then _ else _) _ _ _
  rw [if_neg (by omega)]
  exact wpAny_bind (wpAny_mkInt (wpAny_pure ⟨_, rfl, h⟩))
end

/-! ### a walk over a bytearray -/
theorem slot_iter : Slot "bytearray" "__iter__" "bytearray.__iter__" :=
  .of (owner := "bytearray") (n := "__iter__") (by rw [typeLookup_type, builtinLookup_eq_fast]; kernel_rfl) (by decide +kernel) (by decide +kernel) (by decide +kernel)
    (by first | exact .inl (by decide +kernel) | exact .inr (by decide +kernel)) (by rw [isSubtype_type]; kernel_rfl)
theorem slot_next : Slot "bytearray_iterator" "__next__" "bytearray_iterator.__next__" :=
  .of (owner := "bytearray_iterator") (n := "__next__") (by rw [typeLookup_type, builtinLookup_eq_fast]; kernel_rfl) (by decide +kernel) (by decide +kernel) (by decide +kernel)
    (by first | exact .inl (by decide +kernel) | exact .inr (by decide +kernel)) (by rw [isSubtype_type]; kernel_rfl)
theorem slot_self : Slot "bytearray_iterator" "__iter__" "bytearray_iterator.__iter__" :=
  .of (owner := "bytearray_iterator") (n := "__iter__") (by rw [typeLookup_type, builtinLookup_eq_fast]; kernel_rfl) (by decide +kernel) (by decide +kernel) (by decide +kernel)
    (by first | exact .inl (by decide +kernel) | exact .inr (by decide +kernel)) (by rw [isSubtype_type]; kernel_rfl)
theorem entry_iter : entryFor table "bytearray.__iter__" = some Builtin.«bytearray.__iter__» := by first | exact entryFor_of_fast (by kernel_rfl) | exact entryFor_of_tree (by kernel_rfl)
theorem entry_next : entryFor table "bytearray_iterator.__next__" = some Builtin.«bytearray_iterator.__next__» := by first | exact entryFor_of_fast (by kernel_rfl) | exact entryFor_of_tree (by kernel_rfl)
theorem entry_self : entryFor table "bytearray_iterator.__iter__" = some Builtin.«dict_keyiterator.__iter__» := entryFor_alias (id' := "dict_keyiterator.__iter__") (by kernel_rfl) rfl (by decide +kernel) (by kernel_rfl)
theorem args_iter (a : Value) : argsOk "bytearray.__iter__" ⟨[a], []⟩ := by unfold argsOk; kernel_rfl
theorem args_next (a : Value) : argsOk "bytearray_iterator.__next__" ⟨[a], []⟩ := by unfold argsOk; kernel_rfl
theorem args_self (a : Value) : argsOk "bytearray_iterator.__iter__" ⟨[a], []⟩ := by unfold argsOk; kernel_rfl

/-- the iterator I stands at place i of the bytearray a -/
def IsByaIter (h : Heap) (I a : Addr) (i : Nat) : Prop := ∃ o, h.get? I = some o ∧ o.cls = .type "bytearray_iterator" ∧ o.data = .fields #[.ref a, .int i 0]
theorem IsByaIter.type {s : Shared} {I a : Addr} {i : Nat} (y : IsByaIter s.heap I a i) : s.TypeIs (.ref I) "bytearray_iterator" :=
  let ⟨o, ho, hc, _⟩ := y; ⟨o, ho, hc⟩

section
variable {prog : Program} {w : World} {A : Around} {E : Value → Shared → Prop} {s : Shared}

theorem iter_bya {a : Addr} {ns : List Int} {Q : Value → Shared → Prop} (ho : s.heap.get? a = some (bya ns))
    (hQ : Q (.ref s.heap.objs.size) { s with heap := s.heap.push { cls := .type "bytearray_iterator", data := .fields #[.ref a, .int 0 0] } }) :
    wpAny (model prog w) A (pyIter (.ref a)) Q E s := by
  have hT := bya_type (s := s) ho
  refine wpAny_pyIter_slot hT slot_iter (wpAny_call_entry slot_iter hT entry_iter ?_ (args_iter _))
  show wpAny _ _ (do ret (← newFields "bytearray_iterator" [.ref a, rawInt 0])) _ _ s
  exact wpAny_bind (wpAny_newObj_type (wpAny_pure ⟨_, rfl, "bytearray_iterator", _, ⟨_, Heap.get?_push_size _ rfl, rfl⟩, slot_next.lookup, hQ⟩))

theorem iter_self {I a : Addr} {i : Nat} {Q : Value → Shared → Prop} (hit : IsByaIter s.heap I a i) (h : Q (.ref I) s) : wpAny (model prog w) A (pyIter (.ref I)) Q E s := by
  refine wpAny_pyIter_slot hit.type slot_self (wpAny_call_entry slot_self hit.type entry_self ?_ (args_self _))
  show wpAny _ _ (ret (.ref I)) _ _ s
  exact wpAny_pure ⟨_, rfl, "bytearray_iterator", _, hit.type, slot_next.lookup, h⟩

theorem next_item {I a : Addr} {i : Nat} {ns : List Int} {n : Int} {Q : Option Value → Shared → Prop} (hit : IsByaIter s.heap I a i) (ho : s.heap.get? a = some (bya ns)) (hx : ns[i]? = some n) (hlo : 0 ≤ n) (hhi : n < 256)
    (hQ : ∀ h', IsByaIter h' I a (i + 1) → Heap.SameBut I s.heap h' → Q (some (.int n s.toks)) { s with heap := h', toks := s.toks + 1 }) : wpAny (model prog w) A (pyNext (.ref I)) Q E s := by
  obtain ⟨o, hI, hc, hd⟩ := id hit
  unfold pyNext
  refine wpAny_bind (wpAny_attempt (wpAny_callSpecial?_slot (name := PySem.Str.ofString "__next__") hit.type slot_next
    (wpAny_call_entry slot_next hit.type entry_next ?_ (args_next _))))
  show wpAny _ _ (field (.ref I) 0 >>= _) _ _ s
  refine wpAny_bind (wpAny_field hI hd (x := .ref a) rfl ?_)
  refine wpAny_bind (wpAny_load ho ?_)
  show wpAny _ _ (field (.ref I) 1 >>= _) _ _ s
  refine wpAny_bind (wpAny_field hI hd (x := .int i 0) rfl ?_)
  have hg := byteArr_get hx
  simp only [Int.toNat_natCast, hg]
  refine wpAny_bind (wpAny_setField hI hd (by simp) ?_)
  rw [byte_back hlo hhi]
  refine wpAny_ret_mkInt (wpAny_pure (hQ _ ?_ (Heap.SameBut.update ..)))
  exact ⟨_, Heap.get?_update_self _ hI (Obj.isFreed_of_fields (Obj.data_mapFields hd _)), (Obj.cls_mapFields ..).trans hc, by
    rw [Obj.data_mapFields hd]; simp [rawInt]⟩

theorem next_end {I a : Addr} {i : Nat} {ns : List Int} {Q : Option Value → Shared → Prop} (hh : A.handled = none) (hit : IsByaIter s.heap I a i) (ho : s.heap.get? a = some (bya ns)) (hx : ns[i]? = none)
    (hQ : ∀ h', Heap.ExtBut I s.heap h' → Q none { s with heap := h' }) : wpAny (model prog w) A (pyNext (.ref I)) Q E s := by
  obtain ⟨o, hI, hc, hd⟩ := id hit
  unfold pyNext
  refine wpAny_bind (wpAny_attempt (wpAny_callSpecial?_slot (name := PySem.Str.ofString "__next__") hit.type slot_next
    (wpAny_call_entry slot_next hit.type entry_next ?_ (args_next _))))
  show wpAny _ _ (field (.ref I) 0 >>= _) _ _ s
  refine wpAny_bind (wpAny_field hI hd (x := .ref a) rfl ?_)
  refine wpAny_bind (wpAny_load ho ?_)
  show wpAny _ _ (field (.ref I) 1 >>= _) _ _ s
  refine wpAny_bind (wpAny_field hI hd (x := .int i 0) rfl ?_)
  have hg : (byteArr ns)[i]? = none := by
    rw [Array.getElem?_eq_none_iff, byteArr_size]
    exact List.getElem?_eq_none_iff.mp hx
  simp only [Int.toNat_natCast, hg]
  refine wpAny_bind (wpAny_rule (wpAny_bind (wpAny_setField hI hd (by simp) ?_)))
  refine wpAny_bind (wpAny_letGo ?_)
  show wpAny _ _ (newExc (.type "StopIteration") [] >>= _) _ _ _
  refine wpAny_bind ?_
  simp only [newExc, newTuple]
  refine wpAny_bind (wpAny_newObj_type ?_ (by size_fits))
  refine wpAny_bind (m := firstArgMember _ _) (wpAny_of_eq (a := Value.none) (by first | rfl | (simp only [firstArgMember]; rfl)) ?_)
  refine wpAny_newObj_type ?_ (by size_fits)
  simp only [raiseNew]
  refine wpAny_bind (wpAny_handled ?_)
  rw [show A.in1.handled = none from hh]
  refine wpAny_bind (wpAny_pure (wpAny_throw ?_))
  refine wpAny_bind (wpAny_isInstance (T := "StopIteration") (b := true) ⟨_, Heap.get?_push_size _ rfl, rfl⟩ isSubtype_stop ?_)
  exact wpAny_pure (hQ _ (((Heap.SameBut.update ..).extBut.push _).push _))
end

theorem walks_bya {prog : Program} {w : World} {A : Around} (hh : A.handled = none) (I a : Addr) (hne : a ≠ I) (ns : List Int) (hr : ∀ n ∈ ns, 0 ≤ n ∧ n < 256) :
    Walks prog w A I [I, a] [I] ns.length (fun i v => ∃ n t, ns[i]? = some n ∧ v = .int n t) (fun i h => IsByaIter h I a i ∧ h.get? a = some (bya ns)) where
  sub := fun b hb => by simp at hb; simp [hb]
  frame := fun _ _ _ st hk => ⟨let ⟨o, ho, r⟩ := st.1; ⟨o, hk I (by simp) o ho, r⟩, hk a (by simp) _ st.2⟩
  item := fun i s Q E hi st hQ => by
    have hn : ns[i]? = some ns[i] := List.getElem?_eq_getElem hi
    have hb := hr ns[i] (List.getElem_mem hi)
    refine next_item st.1 st.2 hn hb.1 hb.2 fun h' hit' hs' => ?_
    exact hQ _ h' (s.toks + 1) ⟨_, _, hn, rfl⟩ ⟨hit', (hs'.2 a hne).trans st.2⟩ fun b o hb e => hs'.extBut b o (fun h => hb (by simp [h])) e
  done := fun s Q E st hQ => next_end hh st.1 st.2 (by simp) fun h' he' => hQ h' s.toks fun b o hb e => he' b o (fun h => hb (by simp [h])) e
  self := fun _ _ _ _ st hQ => iter_self st.1 hQ
end Mine

namespace Mine
theorem ints_of_get : ∀ {us : List Value} {ns : List Int}, us.length = ns.length → (∀ (j : Nat) (v : Value), us[j]? = some v → ∃ n t, ns[j]? = some n ∧ v = Value.int n t) → IntsAre us ns
  | [], [], _, _ => .nil
  | [], _ :: _, h, _ => by simp at h
  | _ :: _, [], h, _ => by simp at h
  | u :: us, n :: ns, h, g => by
    obtain ⟨m, t, e, rfl⟩ := g 0 u rfl
    cases (show n = m by simpa using e)
    exact .cons n t (ints_of_get (by simpa using h) fun j v hv => by simpa using g (j + 1) v (by simpa using hv))
theorem split_len : splitId "bytearray.__len__" = some ("bytearray", "__len__") := by decide +kernel
theorem sub_self : isSubtype (.type "bytearray") (.type "bytearray") = pure true := by rw [isSubtype_type]; kernel_rfl
section
variable {prog : Program} {w : World} {A : Around} {E : Value → Shared → Prop} {s : Shared}

theorem hint_bya {a : Addr} {ns : List Int} {Q : Bool → Shared → Prop} (ho : s.heap.get? a = some (bya ns)) (h : Q false s) :
    wpAny (model prog w) A (Builtin.List.listLengthHint (.ref a)) Q E s := by
  have hT := bya_type (s := s) ho
  unfold Builtin.List.listLengthHint
  refine wpAny_bind (wpAny_specialOf hT slot_len.lookup ?_)
  dsimp only
  rw [split_len]
  dsimp only
  refine wpAny_bind (wpAny_isInstance hT sub_self ?_)
  refine bm_if_false rfl ?_
  refine bm_if_true (by decide +kernel) ?_
  refine wpAny_bind (wpAny_typeOf hT ?_)
  exact wpAny_pure h

theorem extend_bya {R : Result → Shared → Prop} {a : Addr} {ns : List Int} (hh : A.handled = none) (ho : s.heap.get? a = some (bya ns)) (hr : ∀ n ∈ ns, 0 ≤ n ∧ n < 256) (hz : ns.length ≤ sizeLine)
    (S : Addr) (res : Value) (c₀ : Nat) (hS : s.heap.get? S = some { cls := .type "list", data := .seq #[] c₀ })
    (hR : ∀ h' tk acc' c', (∀ b o, b ≠ S → s.heap.get? b = some o → h'.get? b = some o) → h'.get? S = some { cls := .type "list", dict := none, data := .seq acc' c', slots := #[] } →
      ItemsOf (fun i v => ∃ n t, ns[i]? = some n ∧ v = .int n t) acc' ns.length → R (.ok (.ret res)) { s with heap := h', toks := tk }) :
    wpAny (model prog w) A.in1 (Builtin.List.listExtendWith (.ref S) (.ref a) res)
      (fun fin s' => match fin with | .done f => R (.ok f) s' | .again c' => c'.quiet = true ∧ codeAny (model prog w) A c' R s') (fun e s' => R (.error e) s') s := by
  have hT := bya_type (s := s) ho
  have hSa : S ≠ a := fun e => by rw [e, ho] at hS; simp [bya] at hS
  have hSI : S ≠ s.heap.objs.size := Nat.ne_of_lt (Heap.lt_size hS)
  have haI : a ≠ s.heap.objs.size := Nat.ne_of_lt (Heap.lt_size ho)
  have hSf : S ∉ [s.heap.objs.size, a] := fun hm => by
    rcases List.mem_cons.mp hm with e | hm
    · exact hSI e
    · exact hSa (List.mem_singleton.mp hm)
  have W := (walks_bya (prog := prog) (w := w) (A := A.in1) hh s.heap.objs.size a haI ns hr).toS
  have key : ∀ (h : Heap) (c₁ tk : Nat), (IsByaIter h s.heap.objs.size a 0 ∧ h.get? a = some (bya ns)) → (∀ b o, b ≠ S → s.heap.get? b = some o → h.get? b = some o) →
      h.get? S = some { cls := .type "list", data := .seq #[] c₁ } → codeAny (model prog w) A (.builtin "list.extend.loop" ⟨[.ref S, .ref s.heap.objs.size, res], []⟩) R { s with heap := h, toks := tk } := by
    intro h c₁ tk hit hk hS₁
    refine codeAny_extend_loopS W hz S hSf res ns.length 0 _ #[] c₁ rfl (Nat.zero_le _) hit hS₁ (ItemsOf.nil _) fun s' acc' c' hm hS' hacc => ?_
    rw [Moved.eq_with hm]
    refine hR s'.heap s'.toks acc' c' (fun b o hb e => hm.heap b o (fun hmem => ?_) (hk b o hb e)) hS' hacc
    rcases List.mem_cons.mp hmem with e' | hmem
    · exact hb e'
    · exact absurd (Heap.lt_size e) (by rw [List.mem_singleton.mp hmem]; exact Nat.lt_irrefl _)
  unfold Builtin.List.listExtendWith
  refine wpAny_bind (wpAny_typeOf hT ?_)
  have h1 : Builtin.List.listSameRef (.ref S) (.ref a) = false := by simp [Builtin.List.listSameRef, hSa]
  have h2 : (Value.type "bytearray" == Value.type "list") = false := by decide
  have h3 : (Value.type "bytearray" == Value.type "tuple") = false := by decide
  simp only [h1, h2, h3, Bool.or_false, Bool.false_eq_true, if_false]
  refine wpAny_bind (iter_bya ho ?_)
  have ho₁ : (s.heap.push { cls := .type "bytearray_iterator", data := .fields #[.ref a, .int 0 0] }).get? a = some (bya ns) := Heap.get?_push_of_some _ ho
  refine wpAny_bind (wpAny_holding (hint_bya (ns := ns) ho₁ ?_))
  have hit₁ : IsByaIter (s.heap.push { cls := .type "bytearray_iterator", data := .fields #[.ref a, .int 0 0] }) s.heap.objs.size a 0 := ⟨_, Heap.get?_push_size _ rfl, rfl, rfl⟩
  have hS₁ := Heap.get?_push_of_some { cls := .type "bytearray_iterator", data := .fields #[.ref a, .int 0 0] } hS
  refine wpAny_ite_split (fun _ => ?_) (fun _ => wpAny_pure ⟨plainId_quiet F.plain_extend_loop _, key _ c₀ _ ⟨hit₁, ho₁⟩ (fun b o _ e => Heap.get?_push_of_some _ e) hS₁⟩)
  refine wpAny_bind (wpAny_rule ?_)
  refine wpAny_bind ?_
  show wpAny _ _ (updateSeq S (·.push .none) >>= fun _ => updateSeq S (·.pop)) _ _ _
  refine wpAny_bind (wpAny_updateSeq hS₁ rfl ?_)
  have hS₂ := Heap.get?_update_self (Obj.mapSeq (·.push Value.none)) hS₁ rfl
  refine wpAny_updateSeq (hz := by seq_fits) hS₂ rfl ?_
  have hS₃ := Heap.get?_update_self (Obj.mapSeq (·.pop)) hS₂ rfl
  have oth : ∀ b o, b ≠ S → (s.heap.push { cls := .type "bytearray_iterator", data := .fields #[.ref a, .int 0 0] }).get? b = some o → (((s.heap.push { cls := .type "bytearray_iterator", data := .fields #[.ref a, .int 0 0] }).update S (Obj.mapSeq (·.push Value.none))).update S (Obj.mapSeq (·.pop))).get? b = some o :=
    fun b o hb e => (Heap.get?_update_other _ _ (Ne.symm hb)).trans ((Heap.get?_update_other _ _ (Ne.symm hb)).trans e)
  refine wpAny_pure ⟨plainId_quiet F.plain_extend_loop _, key _ _ _ ⟨?_, oth a _ (Ne.symm hSa) ho₁⟩ (fun b o hb e => oth b o hb (Heap.get?_push_of_some _ e)) hS₃⟩
  obtain ⟨oI, hI, hr'⟩ := hit₁
  exact ⟨oI, oth _ _ (Ne.symm hSI) hI, hr'⟩

/-- list(b) of a bytearray: a new list of its ints -/
theorem list_bya {a : Addr} {ns : List Int} {Q : Value → Shared → Prop} (hh : A.handled = none) (ho : s.heap.get? a = some (bya ns)) (hr : ∀ n ∈ ns, 0 ≤ n ∧ n < 256) (hz : ns.length ≤ sizeLine)
    (hQ : ∀ h' tk us c', (∀ b o, s.heap.get? b = some o → h'.get? b = some o) → h'.get? s.heap.objs.size = some (listOf (List.toArray us) c') → IntsAre us ns → Q (.ref s.heap.objs.size) { s with heap := h', toks := tk }) :
    wpAny (model prog w) A (call (.type "list") [.ref a]) Q E s := by
  refine callType_codes (Q₁ := fun obj s₁ => obj = .ref s.heap.objs.size ∧ s₁ = { s with heap := s.heap.push { cls := .type "list", data := .seq #[] } }) F.called_list (F.typeCall_list_1 _) F.entry_list_init
    (code_list_new _ ⟨rfl, rfl⟩) fun obj s₁ h₁ => ?_
  obtain ⟨rfl, rfl⟩ := h₁
  have hS : (s.heap.push { cls := .type "list", data := .seq #[] }).get? s.heap.objs.size = some { cls := .type "list", data := .seq #[] } := Heap.get?_push_size _ rfl
  have ho₁ : (s.heap.push { cls := .type "list", data := .seq #[] }).get? a = some (bya ns) := Heap.get?_push_of_some _ ho
  have haS : a ≠ s.heap.objs.size := Nat.ne_of_lt (Heap.lt_size ho)
  refine ⟨⟨_, hS, rfl⟩, F.args_list_init_2 _ _, ?_⟩
  show wpAny _ _ (do let old ← Builtin.List.listItems (.ref s.heap.objs.size); Builtin.List.listUpdate (.ref s.heap.objs.size) (fun _ => #[]); letGo old.toList.reverse; Builtin.List.listExtendWith (.ref s.heap.objs.size) (.ref a) .none) _ _ _
  refine wpAny_bind ?_
  unfold Builtin.List.listItems
  refine wpAny_bind (wpAny_seqItems hS rfl (wpAny_pure ?_))
  show wpAny _ _ (updateSeq s.heap.objs.size (fun _ => #[]) >>= fun _ => letGo (#[] : Array Value).toList.reverse >>= fun _ => Builtin.List.listExtendWith (.ref s.heap.objs.size) (.ref a) .none) _ _ _
  refine wpAny_bind (wpAny_updateSeq hS rfl ?_)
  have hS₂ := Heap.get?_update_self (Obj.mapSeq (fun _ => (#[] : Array Value))) hS rfl
  have oth : ∀ b o, b ≠ s.heap.objs.size → (s.heap.push { cls := .type "list", data := .seq #[] }).get? b = some o → ((s.heap.push { cls := .type "list", data := .seq #[] }).update s.heap.objs.size (Obj.mapSeq (fun _ => (#[] : Array Value)))).get? b = some o :=
    fun b o hb e => (Heap.get?_update_other _ _ (Ne.symm hb)).trans e
  refine wpAny_bind (wpAny_letGo ?_)
  refine extend_bya (A := A.in1) hh (oth a _ haS ho₁) hr hz s.heap.objs.size .none _ hS₂ fun h' tk acc' c' hk hS' hacc => ⟨rfl, ?_⟩
  refine hQ h' tk acc'.toList c' (fun b o e => hk b o (Nat.ne_of_lt (Heap.lt_size e)) (oth b o (Nat.ne_of_lt (Heap.lt_size e)) (Heap.get?_push_of_some _ e))) ?_ ?_
  · rw [hS']
  · exact ints_of_get (by simp [hacc.1]) fun j v hv => hacc.2 j v (by simpa using hv)
end
end Mine

namespace Mine
theorem bya_mro : mroOf (.type "bytearray") = pure [.type "bytearray", .type "object"] := by rw [mroOf_type]; kernel_rfl
theorem bya_lookup_new : typeLookup (.type "bytearray") "__new__" = pure (some (.builtin "bytearray.__new__")) := by rw [typeLookup_type, builtinLookup_eq_fast]; kernel_rfl
theorem slot_init : Slot "bytearray" "__init__" "bytearray.__init__" :=
  .of (owner := "bytearray") (n := "__init__") (by rw [typeLookup_type, builtinLookup_eq_fast]; kernel_rfl) (by decide +kernel) (by decide +kernel) (by decide +kernel)
    (by first | exact .inl (by decide +kernel) | exact .inr (by decide +kernel)) (by rw [isSubtype_type]; kernel_rfl)
theorem bya_called : TypeCalled "bytearray" "bytearray.__new__" "bytearray.__init__" :=
  ⟨by decide +kernel, by decide +kernel, ⟨_, _, bya_mro⟩, madeBy_type bya_mro bya_lookup_new (by decide +kernel), by decide +kernel, by rw [isSubtype_type]; kernel_rfl, slot_init⟩
theorem bya_typeCall (a : Value) : checkTypeCall "bytearray" ⟨[a], []⟩ = pure () := by kernel_rfl
theorem bya_newCall (a : Value) : checkBuiltinCall "bytearray.__new__" ⟨[.type "bytearray", a], []⟩ = pure () := by kernel_rfl
theorem bya_entry_new : entryFor table "bytearray.__new__" = some Builtin.«list.__new__» := entryFor_alias (id' := "list.__new__") (by kernel_rfl) rfl (by decide +kernel) (by kernel_rfl)
theorem bya_plain_new : plainId "bytearray.__new__" = true := by decide +kernel
theorem bya_entry_init : entryFor table "bytearray.__init__" = some Builtin.«bytearray.__init__» := by first | exact entryFor_of_fast (by kernel_rfl) | exact entryFor_of_tree (by kernel_rfl)
theorem args_init (a b : Value) : argsOk "bytearray.__init__" ⟨[a, b], []⟩ := by unfold argsOk; kernel_rfl
theorem bya_owner : ("bytearray.__new__".splitOn ".__new__").headD "" = "bytearray" := by simp +decide [String.splitOn, String.splitOnAux]
theorem bya_release : typeLookup (.type "bytearray") "__release_buffer__" = pure (some (.builtin "bytearray.__release_buffer__")) := by rw [typeLookup_type, builtinLookup_eq_fast]; kernel_rfl
theorem bya_bind (v : Value) : Builtin.Bytes.bindOptional "bytearray.__init__" "bytearray" ["source", "encoding", "errors"] [v] [] = pure [some v, none, none] := by kernel_rfl

section
variable {α : Type} {prog : Program} {w : World} {A : Around} {E : Value → Shared → Prop} {s : Shared}
theorem wpC_if_false {M : Model} {c : Bool} {a b : Sem α} {Q : α → Shared → Prop} (hc : c = false) (h : wpC M A b Q E s) : wpC M A (if c = true then a else b) Q E s := by
  subst hc
  exact h
theorem wpC_if_true {M : Model} {c : Bool} {a b : Sem α} {Q : α → Shared → Prop} (hc : c = true) (h : wpC M A a Q E s) : wpC M A (if c = true then a else b) Q E s := by
  subst hc
  exact h

theorem code_bya_new (a : Value) {Q₁ : Value → Shared → Prop}
    (h : Q₁ (.ref s.heap.objs.size) { s with heap := s.heap.push { cls := .type "bytearray", data := .bytearray #[] } }) :
    codeAny (model prog w) A (.call (.builtin "bytearray.__new__") ⟨[.type "bytearray", a], []⟩) (wants Q₁ E) s := by
  refine codeAny_of_tree ?_
  show wpAny _ A.in1 (do checkBuiltinCall "bytearray.__new__" ⟨[.type "bytearray", a], []⟩; again (.builtin "bytearray.__new__" ⟨[.type "bytearray", a], []⟩)) _ _ s
  refine wpAny_bind (wpAny_of_eq (bya_newCall a) (wpAny_pure ⟨plainId_quiet bya_plain_new _, codeAny_builtin_stack bya_entry_new rfl fun p st => ?_⟩))
  rw [Around.under_plainId bya_plain_new _]
  have hsub := sub_self
  have hown := bya_owner
  obtain ⟨hp, g, d, tk, os⟩ := s
  simp only [hown]
  wp_walk
  exact h

theorem release_name : ("bytearray.__release_buffer__".endsWith ("." ++ "__release_buffer__")) = true := by decide +kernel
theorem release_owner : "bytearray.__release_buffer__".dropRight ("__release_buffer__".length + 1) = "bytearray" := by decide +kernel

theorem release_bya {a : Addr} {Q : Bool → Shared → Prop} (hT : s.TypeIs (.ref a) "bytearray") (h : Q false s) :
    wpAny (model prog w) A (Builtin.Bytes.ownRelease (.ref a)) Q E s := by
  unfold Builtin.Bytes.ownRelease Builtin.Bytes.slotIsOwn
  refine wpAny_bind (wpAny_bind (wpAny_specialOf hT bya_release ?_))
  refine bm_if_false (by rw [release_name]; rfl) ?_
  rw [release_owner]
  refine wpAny_isInstance hT sub_self ?_
  exact wpAny_pure h

theorem exportsOf_bya {a : Addr} {ns : List Int} {Q : Nat → Shared → Prop} (ho : s.heap.get? a = some (bya ns)) (h : Q 0 s) :
    wpAny (model prog w) A (Builtin.Bytes.exportsOf (.ref a)) Q E s := by
  unfold Builtin.Bytes.exportsOf
  exact wpAny_bind (wpAny_load ho (wpAny_pure h))

theorem write_bya {a : Addr} {ns ms : List Int} {f : Array UInt8 → Array UInt8} {Q : Unit → Shared → Prop} (ho : s.heap.get? a = some (bya ns)) (hf : f (byteArr ns) = byteArr ms) (hz : ms.length ≤ sizeLine)
    (h : ∀ h', h'.get? a = some (bya ms) → Heap.SameBut a s.heap h' → Q () { s with heap := h' }) : wpAny (model prog w) A (Builtin.Bytes.write (.ref a) f) Q E s := by
  show wpAny _ _ (updateBytearray a f) _ _ _
  unfold updateBytearray
  refine wpAny_bind (wpAny_load ho ?_)
  show wpAny _ _ (update a (Obj.mapBytearray f) >>= fun _ => lookBehind a) _ _ _
  refine wpAny_bind (wpAny_update ho ?_)
  have e : Obj.mapBytearray f (bya ns) = bya ms := by
    show ({ cls := _, data := .bytearray (f (byteArr ns)) _ } : Obj) = _
    rw [hf]; rfl
  have h2 : (s.heap.update a (Obj.mapBytearray f)).get? a = some (bya ms) := by
    rw [← e]
    exact Heap.get?_update_self (Obj.mapBytearray f) ho (by rw [e]; rfl)
  refine wpAny_lookBehind h2 ?_ (h _ h2 (Heap.SameBut.update ..))
  show (if (byteArr ms).size > sizeLine then some "bytearray:memory" else none) = none
  rw [if_neg]
  rw [byteArr_size]
  omega

theorem good_take {p : Value → Bool} (hp : ∀ n t, 0 ≤ n → n < 256 → p (.int n t) = true) : ∀ {vs : List Value} {ns : List Int}, IntsAre vs ns → (∀ n ∈ ns, 0 ≤ n ∧ n < 256) → vs.takeWhile p = vs
  | _, _, .nil, _ => rfl
  | _, _, .cons n t h, hr => by
    have h1 := hr n (.head _)
    rw [List.takeWhile_cons, good_take hp h fun m hm => hr m (.tail _ hm), if_pos (hp n t h1.1 h1.2)]
theorem good_bytes {g : Value → Option UInt8} (hg : ∀ n t, g (.int n t) = some n.toNat.toUInt8) : ∀ {vs : List Value} {ns : List Int}, IntsAre vs ns → vs.filterMap g = ns.map fun n => n.toNat.toUInt8
  | _, _, .nil => rfl
  | _, _, .cons n t h => by
    rw [List.filterMap_cons, good_bytes hg h, hg]; rfl
theorem bya_no_index : typeLookup (.type "list") "__index__" = pure none := by rw [typeLookup_type, builtinLookup_eq_fast]; kernel_rfl
theorem bya_no_buffer : typeLookup (.type "list") "__buffer__" = pure none := by rw [typeLookup_type, builtinLookup_eq_fast]; kernel_rfl

theorem init_bya {A' : Around} {a l : Addr} {vs : List Value} {ns : List Int} {R : Result → Shared → Prop} (ho : s.heap.get? a = some (bya [])) (hl : s.heap.IsList l vs.toArray) (hi : IntsAre vs ns) (hr : ∀ n ∈ ns, 0 ≤ n ∧ n < 256) (hz : ns.length ≤ sizeLine)
    (h : ∀ h', h'.get? a = some (bya ns) → Heap.ExtBut a s.heap h' → R (.ok (.ret .none)) { s with heap := h' }) :
    wpC (model prog w) A (Builtin.«bytearray.__init__» ⟨[.ref a, .ref l], []⟩)
      (fun fin s' => match fin with | .done f => R (.ok f) s' | .again c' => c'.quiet = true ∧ codeC (model prog w) A' c' R s') (fun e s' => R (.error e) s') s := by
  have hT := bya_type (s := s) ho
  obtain ⟨ol, hol, hoc, nl, hod⟩ := id hl
  have hla : l ≠ a := fun e => by
    rw [e, ho] at hol
    cases hol
    exact absurd hoc (by decide)
  unfold Builtin.«bytearray.__init__»
  refine wpC_then (release_bya hT ?_)
  refine wpC_if_false rfl ?_
  refine wpC_then (wpAny_of_eq (bya_bind _) ?_)
  refine wpC_then (wpAny_of_eq (a := ()) rfl ?_)
  refine wpC_then (wpAny_of_eq (a := ()) rfl ?_)
  refine wpC_bind ?_
  refine wpC_bind (exported_clear ?_)
  show wpC _ _ (do return decide ((← Builtin.Bytes.exportsOf (.ref a)) > 0)) _ _ _
  refine wpC_then (exportsOf_bya ho (wpC_pure ?_))
  refine wpC_if_false rfl ?_
  refine wpC_then (write_bya (ms := []) ho rfl (Nat.zero_le _) fun h' ho' hs' => ?_)
  have hk : ∀ b o, b ≠ a → s.heap.get? b = some o → h'.get? b = some o := hs'.extBut
  have hol' := hk l ol hla hol
  have hL' : ({ s with heap := h' } : Shared).TypeIs (.ref l) "list" := ⟨ol, hol', hoc⟩
  dsimp only
  refine wpC_then ?_
  show wpAny _ _ (load l >>= _) _ _ _
  refine wpAny_bind (wpAny_load hol' ?_)
  rw [hod]
  refine wpAny_pure ?_
  refine wpC_if_false rfl ?_
  refine wpC_then (wpAny_of_eq (a := ()) rfl ?_)
  refine wpC_then (wpAny_specialOf hL' bya_no_index ?_)
  refine wpC_if_false rfl ?_
  refine wpC_bind (wpC_any ?_)
  unfold Builtin.Bytes.buffer?
  refine wpAny_bind (wpAny_specialOf hL' bya_no_buffer ?_)
  refine wpAny_bind (wpAny_specialOf hL' bya_no_buffer ?_)
  refine wpAny_pure ?_
  refine wpC_then (wpAny_typeOf hL' ?_)
  refine wpC_if_true rfl ?_
  refine wpC_then ?_
  show wpAny _ _ (load l >>= _) _ _ _
  refine wpAny_bind (wpAny_load hol' ?_)
  rw [hod]
  refine wpAny_pure ?_
  dsimp only
  rw [good_take (fun n t h0 h1 => by simp [h0, h1]) hi hr, good_bytes (fun n t => rfl) hi]
  have e2 : vs.toArray[vs.length]? = none := by simp
  rw [e2]
  refine wpC_then (wpAny_rule ?_)
  refine wpC_then (write_bya (ms := ns) ho' rfl hz fun h'' ho'' hs'' => ?_)
  exact wpC_pure (h h'' ho'' fun b o hb e => hs''.extBut b o hb (hk b o hb e))

theorem codeC_builtin {R : Result → Shared → Prop} {id : String} {args : Args} {b : Builtin} (hf : holders.contains id = false) (hb : entryFor table id = some b)
    (h : wpC (model prog w) (A.under (.builtin id args)) (b args)
      (fun fin s' => match fin with | .done f => R (.ok f) s' | .again c' => c'.quiet = true ∧ codeC (model prog w) A c' R s') (fun e s' => R (.error e) s') s) :
    codeC (model prog w) A (.builtin id args) R s := by
  refine codeC_of_tree (by show (!holders.contains id) = true; rw [hf]; rfl) ?_
  show wpC _ _ (match entryFor table id with | some b => b args | none => unsupported ((withoutEnding? id "#data").getD id)) _ _ s
  rw [hb]; exact h

theorem codeC_call_builtin {R : Result → Shared → Prop} {id : String} {args : Args} {b : Builtin} (hf : holders.contains id = false) (hq : plainId id = true) (hb : entryFor table id = some b)
    (h : wpAny (model prog w) A.in1 (checkBuiltinCall id args) (fun _ s₁ => wpC (model prog w) A.in1 (b args)
      (fun fin s' => match fin with | .done f => R (.ok f) s' | .again c' => c'.quiet = true ∧ codeC (model prog w) A c' R s') (fun e s' => R (.error e) s') s₁)
      (fun e s' => R (.error e) s') s) : codeC (model prog w) A (.call (.builtin id) args) R s := by
  refine codeC_of_tree rfl ?_
  show wpC _ A.in1 (do checkBuiltinCall id args; again (.builtin id args)) _ _ s
  refine wpC_then (wpAny_mono h (fun _ s₁ h₁ => wpC_pure ⟨plainId_quiet hq args, codeC_builtin hf hb ?_⟩) fun _ _ h' => h')
  rw [Around.under_plainId hq args]
  exact h₁

theorem free_type_call : holders.contains "type.__call__" = false := by decide +kernel
theorem free_init : holders.contains "bytearray.__init__" = false := by decide +kernel

end
end Mine

namespace Mine
section
variable {prog : Program} {w : World} {A : Around} {E : Value → Shared → Prop} {s : Shared}

theorem type_call_quiet (args : Args) : (Code.builtin "type.__call__" args).quiet = true := Code.quiet_builtin _ (by decide +kernel)

/-- a special method by its slot, on a clear stack -/
theorem special_clear {self : Value} {T : String} {name : PySem.Str} {id : String} {args : List Value} {Q : Option Value → Shared → Prop} (hT : s.TypeIs self T) (h : Slot T name id)
    (hc : wpC (model prog w) A (call (.builtin id) (self :: args)) (fun v => Q (some v)) E s) : wpC (model prog w) A (callSpecial? self name args []) Q E s := by
  simp only [callSpecial?]
  refine wpC_then (wpAny_specialOf hT h.lookup ?_)
  simp only [h.bind]
  exact wpC_holding (wpC_bind (wpC_pure (wpC_bind (wpC_mono hc (fun v s' h' => wpC_pure h') fun _ _ h' => h'))))

/-- what the making of a bytearray leaves -/
def Made (s : Shared) (ns : List Int) (r : Result) (s₂ : Shared) : Prop :=
  r = .ok (.ret .none) ∧ ∃ h', s₂ = { s with heap := h' } ∧ h'.get? s.heap.objs.size = some (bya ns) ∧ ∀ b o, s.heap.get? b = some o → h'.get? b = some o

/-- bytearray(l) of a list of small ints, on a clear stack -/
theorem call_bya {l : Addr} {vs : List Value} {ns : List Int} {Q : Value → Shared → Prop} (hl : s.heap.IsList l vs.toArray) (hi : IntsAre vs ns) (hr : ∀ n ∈ ns, 0 ≤ n ∧ n < 256) (hz : ns.length ≤ sizeLine)
    (hQ : ∀ h', (∀ b o, s.heap.get? b = some o → h'.get? b = some o) → h'.get? s.heap.objs.size = some (bya ns) → Q (.ref s.heap.objs.size) { s with heap := h' }) :
    wpC (model prog w) A (call (.type "bytearray") [.ref l]) Q E s := by
  obtain ⟨ol, hol, hoc, nl, hod⟩ := id hl
  refine wpC_call (codeC_of_tree rfl ?_)
  show wpC _ _ (callAny (.type "bytearray") _) _ _ _
  refine wpC_pure ⟨type_call_quiet _, codeC_builtin free_type_call F.entry_type_call ?_⟩
  rw [Around.under_plain (weight_type_call_type "bytearray" _ []) rfl]
  unfold Builtin.«type.__call__»
  simp only [bya_called.notType, bya_called.canCreate, bya_typeCall (.ref l), bya_mro, bya_called.made, Bool.false_eq_true, if_false]
  change wpC _ _ (holding [.builtin "bytearray.__new__"] (call (.builtin "bytearray.__new__") [.type "bytearray", .ref l] []) >>= _) _ _ _
  refine wpC_bind (wpC_holding (wpC_any ?_))
  refine wpAny_call (codeAny_mono (code_bya_new (A := A.in1) (.ref l) (Q₁ := fun obj s₁ => obj = .ref s.heap.objs.size ∧ s₁ = { s with heap := s.heap.push (bya []) }) (E := fun _ _ => False) ⟨rfl, rfl⟩) fun r s₁ hr₁ => ?_)
  cases r with
  | error e => exact hr₁.elim
  | ok fl =>
    cases fl with
    | ret obj =>
      obtain ⟨rfl, rfl⟩ := hr₁
      have hS : (s.heap.push (bya [])).get? s.heap.objs.size = some (bya []) := Heap.get?_push_size _ rfl
      have hT : ({ s with heap := s.heap.push (bya []) } : Shared).TypeIs (.ref s.heap.objs.size) "bytearray" := bya_type (s := { s with heap := s.heap.push (bya []) }) hS
      have hl₁ : (s.heap.push (bya [])).IsList l vs.toArray := hl.push _
      refine wpC_then (wpAny_isInstance hT sub_self ?_)
      refine wpC_if_false rfl ?_
      refine wpC_bind (wpC_holding (special_clear hT slot_init ?_))
      refine wpC_call (codeC_mono (R := Made s ns)
        (codeC_call_builtin free_init slot_init.plain bya_entry_init (slot_init.check _ _ _ _ _ _ _ _ hT (args_init _ _) ?_)) fun r s₂ hr₂ => ?_)
      · refine init_bya (R := Made s ns) (s := { s with heap := s.heap.push (bya []) }) hS hl₁ hi hr hz fun h' ho' hk' => ?_
        exact ⟨rfl, h', rfl, ho', fun b o e => hk' b o (Nat.ne_of_lt (Heap.lt_size e)) (Heap.get?_push_of_some _ e)⟩
      · obtain ⟨rfl, h', rfl, ho', hk'⟩ := hr₂
        refine wpC_if_false rfl ?_
        exact wpC_pure (hQ h' hk' ho')
    | _ => exact hr₁.elim
end
end Mine

namespace Mine
section
variable {prog : Program} {w : World} {A : Around} {E : Value → Shared → Prop} {s : Shared} {R : Result → Shared → Prop}

/-- a def's body that comes through without a raise, on a clear stack -/
theorem codeC_func {body : List Stmt} {env : Env}
    (h : wpC (model prog w) (A.deeper env) (execs body env) (fun f s' => R (.ok (.ret (match f with | .ret v => v | _ => .none))) s') (fun _ _ => False) s) :
    codeC (model prog w) A (.func body env) R s := by
  refine codeC_of_tree rfl ?_
  show wpC _ (A.deeper env) (do point; match ← (execs body env).onRaise (leaving env) with | .ret v => ret v | _ => ret .none) _ _ s
  refine wpC_then (wpAny_point (wpC_bind (wpC_onRaise (wpC_mono h (fun f s' h' => ?_) fun _ _ h' => h'.elim))))
  cases f <;> exact wpC_pure h'

theorem codeC_call_function {a : Addr} {args : Args} {o : Obj} {fd : FuncData} {body : List Stmt} (hroom : A.depth < recursionLimit)
    (ho : s.heap.get? a = some o) (hd' : o.data = .func fd) (hco : fd.scope.isCoroutine = false) (hgen : fd.scope.isGenerator = false) (hbody : fd.body = .stmts body) (hcd : s.heap.CodeRec fd.code fd.qualname)
    (h : wpAny (model prog w) A.in1 (bindArgs fd args) (fun binds s₁ =>
      wpAny (model prog w) A.in1 (newFunctionEnv fd.scope fd.globals fd.closure binds (fd.qualname ++ ".<locals>.") (some a) fd.code none fd.builtins)
        (fun env s₂ => s₂.heap.NoLimit ∧ codeC (model prog w) A (.func body env) R s₂) (fun e s' => R (.error e) s') s₁) (fun e s' => R (.error e) s') s) :
    codeC (model prog w) A (.call (.ref a) args) R s := by
  refine codeC_of_tree rfl ?_
  show wpC _ A.in1 (callAny (.ref a) args) _ _ s
  simp only [callAny]
  refine wpC_then (wpAny_load ho ?_)
  obtain ⟨c, oc, vs, tq, hc, hoc, hdc, hq⟩ := hcd
  simp only [hd', callFunction, hco, hgen, hbody, hc]
  rw [hc] at h
  refine wpC_then (m := field (.ref c) 1) (wpAny_field hoc hdc hq (wpC_then (wpAny_pure ?_)))
  exact wpC_then (wpAny_mono h (fun binds s₁ h₁ => wpC_then (wpAny_mono h₁ (fun env s₂ h₂ => wpC_then (wpAny_enterFrame h₂.1 hroom
    (wpC_pure (And.intro rfl h₂.2)))) fun _ _ h' => h')) fun _ _ h' => h')
end

section
variable {prog : Program} {w : World} {A₀ A : Around} {s : Shared} {base h₀ : Heap} {outer : List Env} {L : Addr} {m : PySem.Str → Option Value} {env : Env} {news : List (Addr × Obj)}
  {R : Result → Shared → Prop} {name qual : PySem.Str} {params : Arguments} {body : List Stmt} {scope : Scope} {dV kV doc pm cdv ct : Value} {an : Option Addr} {fo : Obj} {f : Addr} {args : Args} {binds : List (PySem.Str × Value)}

/-- a def of the text without cells, called on a clear stack: its body stands in a frame of its own -/
theorem callC_plain (B : Below A₀ base outer h₀) (F : Fr h₀ L s.heap m) (N : News h₀ L s.heap news) (hlim : h₀.NoLimit) (hA : A.frames = some (env :: outer)) (hf : env.frame = some L) (hke : env.scope.kind = .function)
    (ho : s.heap.get? f = some fo) (hd : fo.data = .func (fnX name qual params body scope [] dV kV doc pm an cdv ct)) (hcd : s.heap.CodeRec cdv qual) (hroom : A.depth < recursionLimit)
    (hbind : PySem.BindsTo s (fnX name qual params body scope [] dV kV doc pm an cdv ct) args binds) (hloc : ∀ y ∈ binds, scope.names.lookup y.1 = some .local)
    (h : ∀ g L' h₁, Fr h₀ L g m → Fr g L' h₁ (fun y => binds.reverse.lookup y) → News g L' h₁ news → Below A base (env :: outer) g → h₀.StaysIn g → (∀ p ∈ news, p.1 < L') →
      wpC (model prog w) (A.deeper (envX qual scope L' f cdv [])) (execs body (envX qual scope L' f cdv []))
        (fun fl s' => LeaveK h₀ L m g R (match fl with | .ret v => v | _ => .none) s') (fun _ _ => False) { s with heap := h₁, toks := s.toks + binds.length })
    (hcell : ∀ x ∈ scope.names, x.2 ≠ .cell) (hco : scope.isCoroutine = false := by rfl) (hgen : scope.isGenerator = false := by rfl) (hk : scope.kind = .function := by rfl) : codeC (model prog w) A (.call (.ref f) args) R s := by
  obtain ⟨FG, BG, st, lv⟩ := groundX (R := R) B F N hA hf hke
  refine codeC_call_function hroom ho hd hco hgen rfl hcd (hbind _ _ _ _ ?_)
  refine wpAny_newFunctionEnv hcell hloc (fun h₁ hns hsb => ⟨(hlim.keeps F.keep).fresh _ hsb, ?_⟩) hk
  have keep : ∀ b o, s.heap.get? b = some o → h₁.get? b = some o := fun b o e => hsb.extBut b o (Nat.ne_of_lt (Heap.lt_size e)) (Heap.get?_push_of_some _ e)
  show codeC _ _ (.func body (envX qual scope s.heap.objs.size f cdv [])) _ _
  refine codeC_func (wpC_mono (h (hideAll s.heap (news.map (·.1))) s.heap.objs.size h₁ FG ⟨hns, fun b o e => keep b o (of_hideAll _ e), Nat.le_of_eq (hideAll_size _ _)⟩
    (fun p hp => ⟨keep _ _ (N p hp).1, Nat.ne_of_lt (Heap.lt_size (N p hp).1), hideAll_none _ (List.mem_map_of_mem hp)⟩) BG st (fun p hp => Heap.lt_size (N p hp).1)) (fun fl s' hl => lv _ _ hl) fun _ _ y => y)

end
end Mine

namespace Mine
section
variable {prog : Program} {w : World} {A : Around} {s : Shared} {env : Env} {h₀ : Heap}

theorem forTurn_den (target : PySem.Expr) (it : Value) (body orelse : List Stmt) (env : Env) :
    (model prog w).den (.forLoop target it body orelse env) = (forTurn target it body orelse env).onRaise (fun x => do noteFrame x env; theTreesLotGoes x) := rfl

/-- a for's turns on a clear stack, none of which raises -/
theorem codeC_forLoop {R : Result → Shared → Prop} {target : PySem.Expr} {it : Value} {body : List Stmt} (I : Nat → Shared → Prop)
    (turn : ∀ n s, I n s → wpAny (model prog w) A (pyNext it) (fun r s₁ => match r with
      | none => R (.ok .next) s₁
      | some v => wpAny (model prog w) A (letOwnedTupleGo target it v) (fun _ s₂ => wpAny (model prog w) A (assign target env v) (fun _ s₃ => wpC (model prog w) A (execs body env) (fun f s₄ => f = .next ∧ ∃ m, m < n ∧ I m s₄) (fun _ _ => False) s₃)
          (fun _ _ => False) s₂) (fun _ _ => False) s₁) (fun _ _ => False) s)
    (n : Nat) (h : I n s) : codeC (model prog w) A (.forLoop target it body [] env) R s := by
  induction n using Nat.strongRecOn generalizing s with
  | ind n ih =>
    refine codeC_of_tree rfl ?_
    rw [forTurn_den]
    refine wpC_onRaise ?_
    show wpC _ A (forTurn target it body [] env) _ _ s
    simp only [forTurn]
    refine wpC_then (wpAny_standAt ?_)
    refine wpC_bind (wpC_onRaise (wpC_any (wpAny_mono (turn n s h) (fun r s₁ h₁ => ?_) fun _ _ h' => h'.elim)))
    cases r with
    | none =>
      refine wpC_pure ⟨rfl, codeC_of_tree rfl ?_⟩
      show wpC _ A (do return Fin.done (← execs [] env)) _ _ s₁
      exact wpC_then (wpAny_pure (wpC_pure h₁))
    | some v =>
      refine wpC_then (wpAny_mono h₁ (fun _ s₂ h₂ => wpC_then (wpAny_mono h₂ (fun _ s₃ h₃ => wpC_bind (wpC_mono h₃ (fun f s₄ h₄ => ?_) fun _ _ h' => h'.elim)) fun _ _ h' => h'.elim)) fun _ _ h' => h'.elim)
      obtain ⟨rfl, m, hm, hI⟩ := h₄
      exact wpC_pure ⟨rfl, ih m hm hI⟩

/-- what a turn leaves -/
def TurnC (h₀ : Heap) (L : Addr) (wr : List Addr) (own : List (Addr × Obj)) (J : (PySem.Str → Option Value) → List (Addr × Obj) → Prop) (s : Shared) (f : Flow) (s₂ : Shared) : Prop :=
  f = .next ∧ ∃ h' tk m' nx, s₂ = { s with heap := h', toks := tk } ∧ Fr h₀ L h' m' ∧ News h₀ L h' (own ++ nx) ∧ (∀ p ∈ nx, p.1 ∉ wr) ∧ J m' nx

/-- for x, y in a walk of pairs, by a word over the frame and the ledger, on a clear stack -/
theorem forC_pairs {R : Result → Shared → Prop} {x y : PySem.Str} {px py tp : Pos} {k : Nat} {body : List Stmt} {I : Addr} {fp wr : List Addr} {n : Nat} {Pt : Nat → Array Value → Prop} {St : Nat → Heap → Prop} {Mid : Nat → Addr → Heap → Prop}
    {P2 : Nat → Value → Value → Prop} {m : PySem.Str → Option Value} {news : List (Addr × Obj)} (hh : A.handled = none) (W : WalksT prog w A I fp wr n Pt St Mid) (h2 : ∀ i vals, Pt i vals → ∃ a b, vals = #[a, b] ∧ P2 i a b)
    (hx : env.kindOf x = some .local) (hy : env.kindOf y = some .local)
    (hp : (env.scope.kind == .class || (env.scope.kind == .module && env.locals != env.globals)) = false)
    (hLf : env.locals ∉ fp) (hwr : ∀ b ∈ wr, h₀.get? b = none) (hlive : ∀ i h, St i h → ∀ b ∈ wr, ∃ o, h.get? b = some o) (hnw : ∀ p ∈ news, p.1 ∉ wr)
    (hst : St 0 s.heap) (F : Fr h₀ env.locals s.heap m) (N : News h₀ env.locals s.heap news)
    (J : Nat → (PySem.Str → Option Value) → List (Addr × Obj) → Prop) (h0 : J 0 m news)
    (step : ∀ i a b m₁ nx h tk own, i < n → P2 i a b → J i m₁ nx → (∀ p ∈ nx, p.1 ∉ wr) → (∀ c ∈ wr, ∃ o, (c, o) ∈ own) → (∀ q ∈ own, q.1 ∈ fp) →
      Fr h₀ env.locals h (fun z => if z = y then some b else if z = x then some a else m₁ z) → News h₀ env.locals h (own ++ nx) →
      wpC (model prog w) A (execs body env) (TurnC h₀ env.locals wr own (J (i + 1)) { s with heap := h, toks := tk }) (fun _ _ => False) { s with heap := h, toks := tk })
    (hR : ∀ h' tk m' nx, Fr h₀ env.locals h' m' → News h₀ env.locals h' nx → J n m' nx → R (.ok .next) { s with heap := h', toks := tk }) :
    codeC (model prog w) A (.forLoop (.Tuple [.Name x px, .Name y py] k tp) (.ref I) body [] env) R s := by
  have hLw : env.locals ∉ wr := fun h => hLf (W.sub _ h)
  have old : ∀ b o, h₀.get? b = some o → b ∉ wr := fun b o e hb => by rw [hwr b hb] at e; cases e
  refine codeC_forLoop
    (fun j s' => ∃ h' tk m' nx i, s' = { s with heap := h', toks := tk } ∧ St i h' ∧ Fr h₀ env.locals h' m' ∧ News h₀ env.locals h' nx ∧ (∀ p ∈ nx, p.1 ∉ wr) ∧ J i m' nx ∧ i ≤ n ∧ j = n + 1 - i) ?_ (n + 1)
    ⟨s.heap, s.toks, m, news, 0, rfl, hst, F, N, hnw, h0, Nat.zero_le _, rfl⟩
  rintro j s' ⟨H, tk, m', nx, i, rfl, hst', F', N', ha', hJ, hi, rfl⟩
  have next : ∀ h₁ : Heap, (∀ b o, b ∉ wr → H.get? b = some o → h₁.get? b = some o) → Fr h₀ env.locals h₁ m' ∧ News h₀ env.locals h₁ nx := fun h₁ hk₁ =>
    ⟨⟨F'.ns.at' fun o e => hk₁ _ o hLw e, fun b o e => hk₁ b o (old b o e) (F'.keep b o e), F'.above⟩, fun p hp => ⟨hk₁ _ _ (ha' p hp) (N' p hp).1, (N' p hp).2⟩⟩
  by_cases hlt : i < n
  · refine W.item i _ _ _ hlt hst' fun T vals h₁ tk₁ hPt _ hT hMid hk₁ => ?_
    obtain ⟨a, b, rfl, hP2⟩ := h2 i vals hPt
    refine W.go _ k tp i T _ _ _ hMid fun h₂ hst₂ hk₂ => ?_
    have ht₂ : h₂.IsTuple T #[a, b] := hT.at fun o e => hk₂ T o (W.apart i T h₁ hMid) e
    refine wpAny_assign_Tuple hh ht₂ rfl rfl fun h₃ hx₃ => ?_
    replace hx₃ : Heap.ExtBut h₂.objs.size h₂ h₃ := hx₃
    have up₃ : ∀ b o, h₂.get? b = some o → h₃.get? b = some o := fun b o x => hx₃ b o (Nat.ne_of_lt (Heap.lt_size x)) x
    obtain ⟨F₃, N₃⟩ := next h₃ fun b o hb x => up₃ b o (hk₂ b o hb (hk₁ b o hb x))
    show wpAny _ A (do holding [b] (assign (.Name x px) env a); do holding [] (assign (.Name y py) env b); pure ()) _ _ _
    refine wpAny_bind (wpAny_holding (wpAny_assign_Name (wpAny_storeName_local hx F₃.ns (fun h₄ hn₄ hs₄ => ?_) hp)))
    replace hs₄ : Heap.SameBut env.locals h₃ h₄ := hs₄
    have F₄ := F₃.set hn₄ hs₄
    refine wpAny_bind (wpAny_holding (wpAny_assign_Name (wpAny_storeName_local hy F₄.ns (fun h₅ hn₅ hs₅ => wpAny_pure ?_) hp)))
    replace hs₅ : Heap.SameBut env.locals h₄ h₅ := hs₅
    have F₅ := F₄.set hn₅ hs₅
    have N₅ : News h₀ env.locals h₅ nx := (N₃.set hs₄).set hs₅
    have hst₅ : St (i + 1) h₅ := W.frame _ _ _ hst₂ fun b hb o e => hs₅.extBut b o (fun q => hLf (q ▸ hb)) (hs₄.extBut b o (fun q => hLf (q ▸ hb)) (up₃ b o e))
    refine wpC_mono (step i a b m' nx h₅ _ (ownOf h₀ fp h₅) hlt hP2 hJ ha' (fun c hc => ?_) ownOf_sub F₅ ((news_ownOf hLf).append N₅)) (fun f s₃ h₆ => ?_) fun _ _ e => e
    · obtain ⟨o, ho⟩ := hlive _ _ hst₅ c hc
      exact ⟨o, mem_ownOf (W.sub _ hc) (hwr c hc) ho⟩
    obtain ⟨rfl, h₆', tk₆, m₂, nx₂, rfl, F₆, N₆, ha₆, hJ₆⟩ := h₆
    refine ⟨rfl, n + 1 - (i + 1), by omega, h₆', tk₆, m₂, nx₂, i + 1, rfl, ?_, F₆, N₆.right, ha₆, hJ₆, hlt, rfl⟩
    refine W.frame _ _ _ hst₅ fun b hb o e => ?_
    cases hn : h₀.get? b with
    | some o₀ =>
      have : o₀ = o := by have q := F₅.keep b o₀ hn; rw [e] at q; exact (Option.some.inj q).symm
      exact this ▸ F₆.keep b o₀ hn
    | none => exact (N₆ _ (List.mem_append_left _ (mem_ownOf hb hn e))).1
  · have hin : i = n := by omega
    subst hin
    refine W.done _ _ _ hst' fun h₁ tk₁ hk₁ => ?_
    obtain ⟨F₁, N₁⟩ := next h₁ hk₁
    exact hR h₁ tk₁ m' nx F₁ N₁ hJ
end

section
variable {M : Model} {A : Around} {E : Value → Shared → Prop} {s : Shared} {env : Env}

theorem wpC_execs_cons {st : Stmt} {rest : List Stmt} {Q : Flow → Shared → Prop}
    (h : wpC M A (exec st env) (fun f s' => match f with | .next => wpC M A (execs rest env) Q E s' | f => Q f s') E s) : wpC M A (execs (st :: rest) env) Q E s := by
  show wpC M A (do match ← exec st env with | .next => execs rest env | f => pure f) Q E s
  refine wpC_bind (wpC_mono h (fun f s' h' => ?_) fun _ _ e => e)
  cases f with
  | next => exact h'
  | _ => exact wpC_pure h'

/-- a statement that asks nothing of the stack, then the rest -/
theorem wpC_execs_any {st : Stmt} {rest : List Stmt} {Q : Flow → Shared → Prop}
    (h : wpAny M A (exec st env) (fun f s' => match f with | .next => wpC M A (execs rest env) Q E s' | f => Q f s') E s) : wpC M A (execs (st :: rest) env) Q E s := wpC_execs_cons (wpC_any h)
theorem wpC_execs_nil {Q : Flow → Shared → Prop} (h : Q .next s) : wpC M A (execs [] env) Q E s := wpC_pure h

theorem wpC_If {test : PySem.Expr} {body orelse : List Stmt} {pos : Pos} {Q : Flow → Shared → Prop}
    (h : wpAny M A (isTrue test env (eval test env)) (fun b s' => if b = true then wpC M A (execs body env) Q E s' else wpC M A (execs orelse env) Q E s') E s) :
    wpC M A (exec (.If test body orelse pos) env) Q E s := by
  show wpC M A (do standAt pos; if ← isTrue test env (eval test env) then execs body env else execs orelse env) Q E s
  refine wpC_then (wpAny_standAt (wpC_then (wpAny_mono h (fun b s' h' => ?_) fun _ _ e => e)))
  cases b with
  | true => exact h'
  | false => exact h'

theorem wpC_spliced_nil {Q : List Value → Shared → Prop} (h : Q [] s) : wpC M A (spliced []) Q E s := wpC_pure h
theorem wpC_spliced_cons {x : Sem Value} {rest : List (Bool × Sem Value)} {Q : List Value → Shared → Prop}
    (h : wpC M A x (fun v s₁ => wpC M A (spliced rest) (fun vs s₂ => Q (v :: vs) s₂) E s₁) E s) : wpC M A (spliced ((false, x) :: rest)) Q E s := by
  rw [spliced]
  refine wpC_bind (wpC_mono h (fun v s₁ h₁ => ?_) fun _ _ e => e)
  refine wpC_then (wpAny_pure ?_)
  exact wpC_bind (wpC_holding (wpC_mono h₁ (fun vs s₂ h₂ => wpC_pure h₂) fun _ _ e => e))

/-- the arguments of a plain call, then the call -/
theorem wpC_callWith {pos : Pos} {f : Value} {args : List (Bool × Sem Value)} {Q : Value → Shared → Prop} (few : args.length ≤ 30) (hs : args.any (·.1) = false)
    (h : wpC M A (spliced args) (fun vs s₁ => wpAny M A (keeperOf f) (fun k s₂ => (k = .machine ∨ k = .frame) ∧ wpC M A (call f vs) Q E s₂) E s₁) E s) : wpC M A (callWith pos f [] args []) Q E s := by
  unfold callWith
  refine wpC_bind (wpC_holding ?_)
  unfold evalArgs
  dsimp only
  split
  · rename_i x _
    simp at hs
  · refine wpC_bind (wpC_mono h (fun vs s₁ h₁ => ?_) fun _ _ e => e)
    refine wpC_then (wpAny_pure ?_)
    dsimp only
    refine wpC_holding ?_
    refine wpC_if_true rfl ?_
    refine wpC_then (wpAny_of_eq (a := []) rfl ?_)
    refine wpC_then (wpAny_pure ?_)
    refine wpC_pure ?_
    refine wpC_then (wpAny_standAt ?_)
    refine wpC_then (wpAny_mono h₁ (fun k s₂ h₂ => ?_) fun _ _ e => e)
    obtain ⟨hk, hc⟩ := h₂
    rw [hs]
    rcases hk with rfl | rfl
    · refine wpC_bind (wpC_mono hc (fun v s₃ h₃ => ?_) fun _ _ e => e)
      exact wpC_then (wpAny_holding (wpAny_point (wpC_pure h₃)))
    · dsimp only
      rw [if_neg (by simp only [List.length_nil]; omega)]
      refine wpC_bind (fun Γ p hΓ cl => ?_)
      unfold callMarked
      rw [Sem.wp_keep]
      refine Sem.wp_mono M Γ _ (fun v p' s₃ h₃ => ?_) (fun _ _ _ e => e) p s₂ (hc Γ p hΓ cl)
      exact wpC_then (wpAny_holding (wpAny_point (wpC_pure h₃)))

theorem wpC_Assign1 {x : PySem.Str} {px pos : Pos} {value : PySem.Expr} {Q : Flow → Shared → Prop}
    (h : wpC M A (eval value env) (fun v s₁ => wpAny M A (storeName env x v) (fun _ s₂ => Q .next s₂) E s₁) E s)
    (hs : swapsWithSole [.Name x px] value pos.line env = pure false := by rfl) (hw : swappedStores [.Name x px] value env = pure none := by rfl) :
    wpC M A (exec (.Assign [.Name x px] value pos) env) Q E s := by
  rw [PyProof.Rows.exec_Assign]
  refine wpC_then (wpAny_standAt ?_)
  rw [hs]
  refine wpC_then (wpAny_pure ?_)
  rw [if_neg (by decide)]
  refine wpC_bind (wpC_mono h (fun v s₁ h₁ => ?_) fun _ _ e => e)
  rw [hw]
  refine wpC_then (wpAny_pure ?_)
  show wpC M A (do assignAll v [assign (.Name x px) env]; pure .next) Q E s₁
  exact wpC_then (assign_Name (wpAny_mono h₁ (fun _ _ e => wpC_pure e) fun _ _ e => e))

theorem wpC_Assign_swapped {elts : List PySem.Expr} {k : Nat} {tpos pos : Pos} {value : PySem.Expr} {names : List PySem.Str} {Q : Flow → Shared → Prop}
    (h : wpC M A (eval value env) (fun v s₁ => wpAny M A (unpackItems v names.length none) (fun items s₂ =>
      wpAny M A (assignInOrder (names.reverse.map fun n => bindName env n) items.reverse) (fun _ => Q .next) E s₂) E s₁) E s)
    (hs : swapsWithSole [.Tuple elts k tpos] value pos.line env = pure false := by rfl)
    (hw : swappedStores [.Tuple elts k tpos] value env = pure (some names) := by rfl) :
    wpC M A (exec (.Assign [.Tuple elts k tpos] value pos) env) Q E s := by
  rw [PyProof.Rows.exec_Assign]
  refine wpC_then (wpAny_standAt ?_)
  rw [hs]
  refine wpC_then (wpAny_pure ?_)
  rw [if_neg (by decide)]
  refine wpC_bind (wpC_mono h (fun v s₁ h₁ => ?_) fun _ _ e => e)
  rw [hw]
  refine wpC_then (wpAny_pure ?_)
  show wpC M A (do rule "assign.swapped-stores"; let items ← unpackItems v names.length none; assignInOrder (names.reverse.map fun n => bindName env n) items.reverse; pure .next) Q E s₁
  exact wpC_then (wpAny_rule (wpC_then (wpAny_mono h₁ (fun items s₂ h₂ => wpC_then (wpAny_mono h₂ (fun _ _ e => wpC_pure e) fun _ _ e => e)) fun _ _ e => e)))

/-- an expression statement whose value is no object -/
theorem wpC_Expr_none {value : PySem.Expr} {pos : Pos} {Q : Flow → Shared → Prop}
    (h : wpC M A (eval value env) (fun v s₁ => v = .none ∧ Q .next s₁) E s) (hi : interactive env = false := by rfl) (hs : swapsWith value none pos.line env = pure false := by rfl) :
    wpC M A (exec (.Expr value pos) env) Q E s := by
  change wpC M A (standAt pos >>= fun _ => ite (interactive env = true) _ (swapsWith value none pos.line env >>= fun _ => _)) Q E s
  refine wpC_then (wpAny_standAt ?_)
  rw [hi, hs]
  refine wpC_if_false rfl ?_
  refine wpC_then (wpAny_pure ?_)
  refine wpC_if_false rfl ?_
  refine wpC_bind (wpC_mono h (fun v s₁ h₁ => ?_) fun _ _ e => e)
  obtain ⟨rfl, h₁⟩ := h₁
  have hd : dropValue value pos .none = pure .next := by
    unfold dropValue
    split <;> first | rfl | simp_all
  rw [hd]
  exact wpC_pure h₁

theorem wpC_Tuple {elts : List PySem.Expr} {k : Nat} {pos : Pos} {Q : Value → Shared → Prop}
    (h : wpC M A (spliced (backTo pos (starEach elts env))) (fun vs s₁ => wpAny M A (newTuple vs) Q E s₁) E s) : wpC M A (eval (.Tuple elts k pos) env) Q E s := by
  show wpC M A (do standAt pos; newTuple (← spliced (backTo pos (starEach elts env)))) Q E s
  exact wpC_then (wpAny_standAt (wpC_bind (wpC_mono h (fun vs s₁ h₁ => wpC_any h₁) fun _ _ e => e)))

/-- a plain call by a name -/
theorem wpC_Call {x : PySem.Str} {px pos : Pos} {args : List PySem.Expr} {Q : Value → Shared → Prop} (few : (backTo pos (starEach args env)).length ≤ 30) (hs : (backTo pos (starEach args env)).any (·.1) = false)
    (h : wpAny M A (eval (.Name x px) env) (fun f s₀ => wpC M A (spliced (backTo pos (starEach args env))) (fun vs s₁ => wpAny M A (keeperOf f) (fun k s₂ => (k = .machine ∨ k = .frame) ∧ wpC M A (call f vs) Q E s₂) E s₁) E s₀) E s) :
    wpC M A (eval (.Call (.Name x px) args [] pos) env) Q E s := by
  show wpC M A (do callWith pos (← eval (.Name x px) env) [] (backTo pos (starEach args env)) (backToKw pos (keywordEach [] env))) Q E s
  exact wpC_then (wpAny_mono h (fun f s₀ h₀ => wpC_callWith few hs h₀) fun _ _ e => e)

theorem wpC_For {target iter : PySem.Expr} {body orelse : List Stmt} {pos : Pos} {Q : Flow → Shared → Prop}
    (h : wpAny M A (eval iter env) (fun x s₁ => wpAny M A (pyIter x) (fun it s₂ => codeC M A (.forLoop target it body orelse env) (fun r s' => match r with | .ok f => Q f s' | .error _ => False) s₂) E s₁) E s)
    (hs : ∀ x, foldedSetIterable iter env x = pure x := by intro _; rfl) : wpC M A (exec (.For target iter body orelse pos) env) Q E s := by
  rw [exec_For]
  refine wpC_then (wpAny_standAt (wpC_then (wpAny_mono h (fun x s₁ h₁ => wpC_then (wpAny_of_eq (hs x) (wpC_then (wpAny_standAt (wpC_then (wpAny_holding (wpAny_mono h₁ (fun it s₂ h₂ => ?_) fun _ _ e => e))))))) fun _ _ e => e)))
  unfold runOwn
  refine wpC_onRaise (wpC_run (codeC_mono h₂ fun r s' hr => ?_))
  cases r with
  | ok f => exact hr
  | error e => exact hr.elim
end
end Mine

namespace Mine
theorem fresh_Und : True := by
  w_top off
  k_with_none
  trivial
end Mine

namespace Mine
section
variable {prog : Program} {w : World} {A : Around} {E : Value → Shared → Prop} {s : Shared} {h₀ : Heap} {L : Addr} {m : PySem.Str → Option Value} {news news' : List (Addr × Obj)}

/-- all are octets -/
def Octets (ns : List Int) : Prop := ∀ n ∈ ns, 0 ≤ n ∧ n < 256

theorem n_len {a : Addr} {ns : List Int} {Q : Value → Shared → Prop} (N : News h₀ L s.heap news) (hm : (a, bya ns) ∈ news) (hz : ns.length ≤ sizeLine)
    (h : Q (.int ns.length (s.toks + 1)) { s with toks := s.toks + 1 + 1 }) : wpAny (model prog w) A (call (.builtin "len") [.ref a]) Q E s := len_bya (N _ hm).1 hz h
theorem n_item {value slice : PySem.Expr} {a : Addr} {ns : List Int} {k : Int} {t : Tok} {Q : Value → Shared → Prop} (N : News h₀ L s.heap news) (hm : (a, bya ns) ∈ news) (hb : Octets ns)
    (h0 : 0 ≤ k) (hlt : k < ns.length) (hz : ns.length ≤ sizeLine) (h : 0 ≤ ns.getD k.toNat 0 → ns.getD k.toNat 0 < 256 → Q (.int (ns.getD k.toNat 0) s.toks) { s with toks := s.toks + 1 })
    (hs : subscripted slice false (.ref a) (.int k t) = operate [.ref a, .int k t] (getItem (.ref a) (.int k t)) := by with_unfolding_all rfl) :
    wpAny (model prog w) A (subscriptTail value slice (.ref a) (.int k t)) Q E s := by
  have hk : k.toNat < ns.length := by omega
  have hx : ns[k.toNat]? = some (ns.getD k.toNat 0) := by rw [List.getD_eq_getElem?_getD, List.getElem?_eq_getElem hk]; rfl
  have hr := hb _ (List.mem_of_getElem? hx)
  have hz' : ns.length ≤ 16777216 := by rw [← sizeLine_eq]; exact hz
  exact item_bya (N _ hm).1 h0 (by omega) hx hr.1 hr.2 (h hr.1 hr.2) hs
theorem n_set {a : Addr} {ns : List Int} {k n : Int} {t u : Tok} {Q : Unit → Shared → Prop} (F : Fr h₀ L s.heap m) (N : News h₀ L s.heap news) (U : Upd a (bya ns) (bya (ns.set k.toNat n)) news news')
    (h0 : 0 ≤ k) (hlt : k < ns.length) (hlo : 0 ≤ n) (hhi : n < 256) (hz : ns.length ≤ sizeLine)
    (h : ∀ h', Fr h₀ L h' m → News h₀ L h' news' → Q () { s with heap := h' }) : wpAny (model prog w) A (setItem (.ref a) (.int k t) (.int n u)) Q E s := by
  obtain ⟨pre, post, rfl, rfl, ha, hb⟩ := U.split
  have z := N (a, bya ns) (List.mem_append.mpr (.inr (.head _)))
  have hz' : ns.length ≤ 16777216 := by rw [← sizeLine_eq]; exact hz
  exact setItem_bya z.1 h0 (by omega) hlt hlo hhi hz fun h' ho' hs' => h h' (F.change hs' z.2.1 z.2.2) (news_set N ha hb hs' ho')
end

/-- a halt for the walker -/
structure Stop (P : Prop) : Prop where
  go : P
theorem stop {P : Prop} (h : Stop P) : P := h.go
theorem Stop.mk' {P : Prop} (h : P) : Stop P := ⟨h⟩

local macro_rules | `(tactic| walk_at "InvEndN") => `(tactic| refine stop ?_)
local macro_rules | `(tactic| k_mem) => `(tactic| first | assumption | (refine List.mem_append.mpr (Or.inl ?_); k_mem))
local macro_rules | `(tactic| k_all) => `(tactic| first | assumption | exact List.forall_mem_append.mpr ⟨by k_all, by k_all⟩)
local macro_rules | `(tactic| walk_at "call builtin:len") => `(tactic| (k_here; (with_reducible show wpAny _ _ (call (Value.builtin "len") [Value.ref _]) _ _ _); k_dflt (refine' n_len ?k1 ?k2 ?k3 ?_; (case k1 => k_asm); (case k2 => k_mem); (case k3 => first | assumption | omega); k_whole)))
local macro_rules | `(tactic| walk_at "subscriptTail") => `(tactic| (k_here; (with_reducible show wpAny _ _ (subscriptTail _ _ (Value.ref _) (Value.int _ _)) _ _ _); k_dflt (refine' n_item ?k1 ?k2 ?k3 ?k4 ?k5 ?k6 ?_ ?k7; (case k1 => k_asm); (case k2 => k_mem); (case k3 => assumption); (case k4 => omega); (case k5 => omega); (case k6 => first | assumption | omega); (case k7 => with_unfolding_all rfl); k_whole); intro h8 h9))
local macro_rules | `(tactic| walk_at "setItem ref int") => `(tactic| (k_here; (with_reducible show wpAny _ _ (setItem (Value.ref _) (Value.int _ _) (Value.int _ _)) _ _ _); (rw [bitAnd_m8]); k_dflt (refine' n_set ?k1 ?k2 ?k3 ?k4 ?k5 ?k6 ?k7 ?k8 ?_; (case k1 => k_asm); (case k2 => k_asm); (case k3 => k_upd); (case k4 => omega); (case k5 => omega); (case k6 => omega); (case k7 => omega); (case k8 => first | assumption | omega); k_whole); intro h' F' N'; (try k_sweep)))

/-- the places from o on, filled one by one: each by what stands so far -/
def fillTo (f : List Int → Nat → Int) (o : Nat) (R : List Int) : Nat → List Int
  | 0 => R
  | k + 1 => (fillTo f o R k).set (o + k) (f (fillTo f o R k) k)
theorem fillTo_length (f : List Int → Nat → Int) (o : Nat) (R : List Int) : ∀ k, (fillTo f o R k).length = R.length
  | 0 => rfl
  | k + 1 => by rw [fillTo, List.length_set, fillTo_length f o R k]
theorem octets_set {c : List Int} {i : Nat} {v : Int} (h : Octets c) (h0 : 0 ≤ v) (h1 : v < 256) : Octets (c.set i v) := fun n hn => by
  rcases List.mem_or_eq_of_mem_set hn with h2 | h2
  · exact h n h2
  · exact h2 ▸ ⟨h0, h1⟩
theorem led_rest {e : Addr × Obj} {rest own : List (Addr × Obj)} : ∀ p ∈ e :: rest, p ∈ e :: (rest ++ own) := fun p hp =>
  (List.mem_cons.mp hp).elim (fun h => h ▸ .head _) fun h => .tail _ (List.mem_append.mpr (.inl h))
theorem led_own {e : Addr × Obj} {rest own : List (Addr × Obj)} : ∀ p ∈ own, p ∈ e :: (rest ++ own) := fun _ h => .tail _ (List.mem_append.mpr (.inr h))
theorem fill_next {f : List Int → Nat → Int} {o : Nat} {R c : List Int} {pre : List Int} {k : Int} {v : Int} {i : Nat} (hc : c = fillTo f o R pre.length) (hi : i = o + pre.length) (hv : v = f c pre.length) :
    c.set i v = fillTo f o R (pre ++ [k]).length := by
  rw [List.length_append, List.length_singleton, fillTo, ← hc, hi, hv]

/-- a place undone by «up» -/
def upAt (S P : List Int) (_ : List Int) (k : Nat) : Int := (S.getD k 0 + P.getD k 0) % 256
/-- a place undone by «sub» -/
def subAt (u : Nat) (S : List Int) (r : List Int) (k : Nat) : Int := (S.getD (u + k) 0 + r.getD k 0) % 256
/-- the nearest of the three, as the code picks it -/
def nearer (a b c : Int) : Int :=
  if (if a + b - c - a < 0 then -(a + b - c - a) else a + b - c - a) ≤ (if a + b - c - b < 0 then -(a + b - c - b) else a + b - c - b) ∧
     (if a + b - c - a < 0 then -(a + b - c - a) else a + b - c - a) ≤ (if a + b - c - c < 0 then -(a + b - c - c) else a + b - c - c) then a
  else if (if a + b - c - b < 0 then -(a + b - c - b) else a + b - c - b) ≤ (if a + b - c - c < 0 then -(a + b - c - c) else a + b - c - c) then b else c
/-- a place undone by Paeth -/
def paethAt (u : Nat) (S P : List Int) (r : List Int) (k : Nat) : Int :=
  (S.getD k 0 + nearer (if k < u then 0 else r.getD (k - u) 0) (P.getD k 0) (if k < u then 0 else P.getD (k - u) 0)) % 256

theorem up_tells (w : World) (loose : List PySem.Str) (mean : ExcName → Option Value) (mg mb : PySem.Str → Option Value)
    (dp un : Nat) (gd : Option (List Code)) (cn : PySem.Str) (cs : Scope) (a : Addr) (ccd : Value) (cl : List (PySem.Str × Addr)) (outer : List Env) (A₀ : Around) (base h₀ : Heap) (L : Addr) (m : PySem.Str → Option Value) (rest : List (Addr × Obj)) (s : Shared)
    (Q E : Value → Shared → Prop) (aS aP aR : Addr) (S P R : List Int) (u : Int) (tk : Tok)
    (B : Below A₀ base outer h₀) (F : Fr h₀ L s.heap m) (X : (hd.heap_39 w.params).In h₀) (N : News h₀ L s.heap ((aR, bya R) :: rest)) (T : Top hd.view_39 loose mean mg mb h₀) (hk : cs.kind = .function)
    (hdp : dp + 1 < recursionLimit) (hun : un + 8 < cLine)
    (hS : (aS, bya S) ∈ rest) (hP : (aP, bya P) ∈ rest) (hoff : ∀ p ∈ rest, p.1 ≠ aR) (bS : Octets S) (bP : Octets P) (bR : Octets R) (lS : S.length = R.length) (lP : P.length = R.length) (lR : R.length ≤ 16)
    (hret : ∀ h' tk', Fr h₀ L h' m → News h₀ L h' ((aR, bya (fillTo (upAt S P) 0 R R.length)) :: rest) → Q .none { s with heap := h', toks := tk' }) :
    wpAny (model PySem.Challenge.rw_bf5022_01.row.prog w) (ktrTop dp un gd cn cs L a ccd cl outer) (call (.ref 28) [.int u tk, .ref aS, .ref aP, .ref aR]) Q E s := by
  revert X
  k_fill
  intro X
  have hz : sizeLine = 16777216 := sizeLine_eq
  have zR : R.length ≤ sizeLine := by omega
  refine wpAny_call ?_
  k_dflt cell_enter
  k_with "pyIter ref" => (refine stop ?_)
  k_steps
  refine Stop.mk ?_
  rename Fr _ _ _ _ => lF
  rename News _ _ _ _ => lN
  rename IsRange _ _ _ _ _ _ _ _ => lR'
  refine kst_range (σ := List Int) (fun c => (aR, bya c) :: rest) (fun _ => []) (fun c => c.length = R.length ∧ Octets c) [PySem.Str.ofString "x", PySem.Str.ofString "b"] (fun pre c => c = fillTo (upAt S P) 0 R pre.length) R
      rfl lR' (small_one (by omega) (by omega) (by omega) (by omega)) (rangeSize_nat _ _) lF lN ⟨rfl, bR⟩ (fun _ h => nomatch h) rfl ?_ ?_
  · intro c pre k t uu hh tkk own hkk hlt hoff' hfac hP' F9 N9
    obtain ⟨hl9, ho9⟩ := hfac
    dsimp only [kstB] at F9
    try dsimp only at N9
    simp only [List.cons_append] at N9
    rw [Int.zero_add] at hkk
    have hk0 : 0 ≤ k := by omega
    have hk1 : k < R.length := by omega
    have hoff9 : ∀ p ∈ own, p.1 ≠ aR := fun p hp => hoff' p hp aR (List.Mem.head _)
    clear hret
    k_steps
    refine Stop.mk ?_
    have e : k.toNat = pre.length := by omega
    refine kst_end (c.set k.toNat ((S.getD k.toNat 0 + P.getD k.toNat 0) % 256)) (by assumption) (by assumption) led_rest led_own rfl ⟨?_, ?_⟩ (fun _ h => nomatch h) (by kst_same) ?_
    · rw [List.length_set]; exact hl9
    · exact octets_set ho9 (by omega) (by omega)
    · exact fill_next hP' (by omega) (by rw [e]; rfl)
  · intro c uu hh tkk hfac hP' F9 N9
    have hc : c = fillTo (upAt S P) 0 R R.length := by rw [hP', rangeKs_length]; congr 1
    subst hc
    k_steps
    exact hret _ _ (by assumption) (by assumption)

theorem sub_tells (w : World) (loose : List PySem.Str) (mean : ExcName → Option Value) (mg mb : PySem.Str → Option Value)
    (dp un : Nat) (gd : Option (List Code)) (cn : PySem.Str) (cs : Scope) (a : Addr) (ccd : Value) (cl : List (PySem.Str × Addr)) (outer : List Env) (A₀ : Around) (base h₀ : Heap) (L : Addr) (m : PySem.Str → Option Value) (rest : List (Addr × Obj)) (s : Shared)
    (Q E : Value → Shared → Prop) (aS aP aR : Addr) (S R : List Int) (u : Int) (tk : Tok)
    (B : Below A₀ base outer h₀) (F : Fr h₀ L s.heap m) (X : (hd.heap_39 w.params).In h₀) (N : News h₀ L s.heap ((aR, bya R) :: rest)) (T : Top hd.view_39 loose mean mg mb h₀) (hk : cs.kind = .function)
    (hdp : dp + 1 < recursionLimit) (hun : un + 8 < cLine)
    (hS : (aS, bya S) ∈ rest) (hoff : ∀ p ∈ rest, p.1 ≠ aR) (bS : Octets S) (bR : Octets R) (lS : S.length = R.length) (lR : R.length ≤ 16) (hu0 : 1 ≤ u) (hu1 : u ≤ 4)
    (hret : ∀ h' tk', Fr h₀ L h' m → News h₀ L h' ((aR, bya (fillTo (subAt u.toNat S) u.toNat R ((R.length : Int) - u).toNat)) :: rest) → Q .none { s with heap := h', toks := tk' }) :
    wpAny (model PySem.Challenge.rw_bf5022_01.row.prog w) (ktrTop dp un gd cn cs L a ccd cl outer) (call (.ref 21) [.int u tk, .ref aS, .ref aP, .ref aR]) Q E s := by
  revert X
  k_fill
  intro X
  have hz : sizeLine = 16777216 := sizeLine_eq
  have zR : R.length ≤ sizeLine := by omega
  refine wpAny_call ?_
  k_dflt cell_enter
  k_with "pyIter ref" => (refine stop ?_)
  k_steps
  refine Stop.mk ?_
  rename Fr _ _ _ _ => lF
  rename News _ _ _ _ => lN
  rename IsRange _ _ _ _ _ _ _ _ => lR'
  refine kst_range (σ := List Int × Int × Tok) (fun c => (aR, bya c.1) :: rest) (fun c => [(PySem.Str.ofString "ai", Value.int c.2.1 c.2.2)]) (fun c => c.1.length = R.length ∧ Octets c.1) [PySem.Str.ofString "x", PySem.Str.ofString "a"]
      (fun pre c => c.1 = fillTo (subAt u.toNat S) u.toNat R pre.length ∧ c.2.1 = pre.length) (R, 0, _)
      rfl lR' (small_one (by omega) (by omega) (by omega) (by omega)) (rangeSize_nat _ _) lF lN ⟨rfl, bR⟩ (by kst_all) ⟨rfl, rfl⟩ ?_ ?_
  · rintro ⟨c, ai, at'⟩ pre k t uu hh tkk own hkk hlt hoff' hfac hP' F9 N9
    obtain ⟨hl9, ho9⟩ := hfac
    obtain ⟨hP1, hP2⟩ := hP'
    dsimp only at hl9 ho9 hP1 hP2
    dsimp only [kstB] at F9
    try dsimp only at N9
    simp only [List.cons_append] at N9
    have hk0 : 0 ≤ k := by omega
    have hk1 : k < R.length := by omega
    have ha0 : 0 ≤ ai := by omega
    have ha1 : ai < R.length := by omega
    have hoff9 : ∀ p ∈ own, p.1 ≠ aR := fun p hp => hoff' p hp aR (List.Mem.head _)
    clear hret
    k_steps
    refine Stop.mk ?_
    have e : k.toNat = u.toNat + pre.length := by omega
    have e2 : ai.toNat = pre.length := by omega
    refine kst_end (c.set k.toNat ((S.getD k.toNat 0 + c.getD ai.toNat 0) % 256), ai + 1, _) (by assumption) (by assumption) led_rest led_own rfl ⟨?_, ?_⟩ (by kst_all) (by kst_same) ⟨?_, ?_⟩
    · rw [List.length_set]; exact hl9
    · exact octets_set ho9 (by omega) (by omega)
    · exact fill_next hP1 e (by rw [e, e2]; rfl)
    · show ai + 1 = _
      rw [List.length_append, List.length_singleton]; omega
  · rintro ⟨c, ai, at'⟩ uu hh tkk hfac hP' F9 N9
    have hc : c = fillTo (subAt u.toNat S) u.toNat R ((R.length : Int) - u).toNat := hP'.1.trans (by rw [rangeKs_length])
    subst hc
    k_steps
    exact hret _ _ (by assumption) (by assumption)
end Mine

namespace Mine
theorem fresh_Pae : True := by
  w_top off
  k_with_none
  trivial
end Mine

namespace Mine
local macro_rules | `(tactic| walk_at "InvEndN") => `(tactic| refine stop ?_)
local macro_rules | `(tactic| k_mem) => `(tactic| first | assumption | (refine List.mem_append.mpr (Or.inl ?_); k_mem))
local macro_rules | `(tactic| k_all) => `(tactic| first | assumption | exact List.forall_mem_append.mpr ⟨by k_all, by k_all⟩)
local macro_rules | `(tactic| walk_at "call builtin:len") => `(tactic| (k_here; (with_reducible show wpAny _ _ (call (Value.builtin "len") [Value.ref _]) _ _ _); k_dflt (refine' n_len ?k1 ?k2 ?k3 ?_; (case k1 => k_asm); (case k2 => k_mem); (case k3 => first | assumption | omega); k_whole)))
local macro_rules | `(tactic| walk_at "subscriptTail") => `(tactic| (k_here; (with_reducible show wpAny _ _ (subscriptTail _ _ (Value.ref _) (Value.int _ _)) _ _ _); k_dflt (refine' n_item ?k1 ?k2 ?k3 ?k4 ?k5 ?k6 ?_ ?k7; (case k1 => k_asm); (case k2 => k_mem); (case k3 => assumption); (case k4 => omega); (case k5 => omega); (case k6 => first | assumption | omega); (case k7 => with_unfolding_all rfl); k_whole); intro h8 h9))
local macro_rules | `(tactic| walk_at "setItem ref int") => `(tactic| (k_here; (with_reducible show wpAny _ _ (setItem (Value.ref _) (Value.int _ _) (Value.int _ _)) _ _ _); (rw [bitAnd_m8]); k_dflt (refine' n_set ?k1 ?k2 ?k3 ?k4 ?k5 ?k6 ?k7 ?k8 ?_; (case k1 => k_asm); (case k2 => k_asm); (case k3 => k_upd); (case k4 => omega); (case k5 => omega); (case k6 => omega); (case k7 => omega); (case k8 => first | assumption | omega); k_whole); intro h' F' N'; (try k_sweep)))


theorem pae_lo {u ai : Int} {S P c : List Int} {n : Nat} (hai : ai = n - u) (h : ai < 0) : paethAt u.toNat S P c n = (S.getD n 0 + nearer 0 (P.getD n 0) 0) % 256 := by
  have h1 : n < u.toNat := by omega
  unfold paethAt
  rw [if_pos h1, if_pos h1]
theorem pae_hi {u ai : Int} {S P c : List Int} {n : Nat} (hu : 0 ≤ u) (hai : ai = n - u) (h : ¬ ai < 0) : paethAt u.toNat S P c n = (S.getD n 0 + nearer (c.getD ai.toNat 0) (P.getD n 0) (P.getD ai.toNat 0)) % 256 := by
  have h1 : ¬ n < u.toNat := by omega
  have h2 : ai.toNat = n - u.toNat := by omega
  unfold paethAt
  rw [if_neg h1, if_neg h1, h2]

theorem near_a {a b c : Int} (h1 : (if a + b - c - a < 0 then -(a + b - c - a) else a + b - c - a) ≤ (if a + b - c - b < 0 then -(a + b - c - b) else a + b - c - b)) (h2 : (if a + b - c - a < 0 then -(a + b - c - a) else a + b - c - a) ≤ (if a + b - c - c < 0 then -(a + b - c - c) else a + b - c - c)) : a = nearer a b c := by
  unfold nearer; rw [if_pos ⟨h1, h2⟩]
theorem near_b1 {a b c : Int} (h1 : ¬ (if a + b - c - a < 0 then -(a + b - c - a) else a + b - c - a) ≤ (if a + b - c - b < 0 then -(a + b - c - b) else a + b - c - b)) (h2 : (if a + b - c - b < 0 then -(a + b - c - b) else a + b - c - b) ≤ (if a + b - c - c < 0 then -(a + b - c - c) else a + b - c - c)) : b = nearer a b c := by
  unfold nearer; rw [if_neg (fun h => h1 h.1), if_pos h2]
theorem near_b2 {a b c : Int} (h1 : ¬ (if a + b - c - a < 0 then -(a + b - c - a) else a + b - c - a) ≤ (if a + b - c - c < 0 then -(a + b - c - c) else a + b - c - c)) (h2 : (if a + b - c - b < 0 then -(a + b - c - b) else a + b - c - b) ≤ (if a + b - c - c < 0 then -(a + b - c - c) else a + b - c - c)) : b = nearer a b c := by
  unfold nearer; rw [if_neg (fun h => h1 h.2), if_pos h2]
theorem near_c1 {a b c : Int} (h1 : ¬ (if a + b - c - a < 0 then -(a + b - c - a) else a + b - c - a) ≤ (if a + b - c - b < 0 then -(a + b - c - b) else a + b - c - b)) (h2 : ¬ (if a + b - c - b < 0 then -(a + b - c - b) else a + b - c - b) ≤ (if a + b - c - c < 0 then -(a + b - c - c) else a + b - c - c)) : c = nearer a b c := by
  unfold nearer; rw [if_neg (fun h => h1 h.1), if_neg h2]
theorem near_c2 {a b c : Int} (h1 : ¬ (if a + b - c - a < 0 then -(a + b - c - a) else a + b - c - a) ≤ (if a + b - c - c < 0 then -(a + b - c - c) else a + b - c - c)) (h2 : ¬ (if a + b - c - b < 0 then -(a + b - c - b) else a + b - c - b) ≤ (if a + b - c - c < 0 then -(a + b - c - c) else a + b - c - c)) : c = nearer a b c := by
  unfold nearer; rw [if_neg (fun h => h1 h.2), if_neg h2]
theorem near_c3 {a b c : Int} (h1 : (if a + b - c - a < 0 then -(a + b - c - a) else a + b - c - a) ≤ (if a + b - c - b < 0 then -(a + b - c - b) else a + b - c - b)) (h2 : ¬ (if a + b - c - a < 0 then -(a + b - c - a) else a + b - c - a) ≤ (if a + b - c - c < 0 then -(a + b - c - c) else a + b - c - c)) : c = nearer a b c :=
  near_c2 h2 fun h3 => h2 (Int.le_trans h1 h3)
theorem near_0 (b : Int) : b = nearer 0 b 0 := by
  unfold nearer
  (repeat' split) <;> omega
theorem near_00 {b : Int} (h : (if 0 + b - 0 - 0 < 0 then -(0 + b - 0 - 0) else 0 + b - 0 - 0) ≤ (if 0 + b - 0 - b < 0 then -(0 + b - 0 - b) else 0 + b - 0 - b)) : 0 = nearer 0 b 0 := by
  rw [← near_0]
  split at h <;> split at h <;> omega

theorem paeth_tells (w : World) (loose : List PySem.Str) (mean : ExcName → Option Value) (mg mb : PySem.Str → Option Value)
    (dp un : Nat) (gd : Option (List Code)) (cn : PySem.Str) (cs : Scope) (a : Addr) (ccd : Value) (cl : List (PySem.Str × Addr)) (outer : List Env) (A₀ : Around) (base h₀ : Heap) (L : Addr) (m : PySem.Str → Option Value) (rest : List (Addr × Obj)) (s : Shared)
    (Q E : Value → Shared → Prop) (aS aP aR : Addr) (S P R : List Int) (u : Int) (tk : Tok)
    (B : Below A₀ base outer h₀) (F : Fr h₀ L s.heap m) (X : (hd.heap_39 w.params).In h₀) (N : News h₀ L s.heap ((aR, bya R) :: rest)) (T : Top hd.view_39 loose mean mg mb h₀) (hk : cs.kind = .function)
    (hdp : dp + 1 < recursionLimit) (hun : un + 8 < cLine)
    (hS : (aS, bya S) ∈ rest) (hP : (aP, bya P) ∈ rest) (hoff : ∀ p ∈ rest, p.1 ≠ aR) (bS : Octets S) (bP : Octets P) (bR : Octets R) (lS : S.length = R.length) (lP : P.length = R.length) (lR : R.length ≤ 16) (hu0 : 1 ≤ u) (hu1 : u ≤ 4)
    (hret : ∀ h' tk', Fr h₀ L h' m → News h₀ L h' ((aR, bya (fillTo (paethAt u.toNat S P) 0 R R.length)) :: rest) → Q .none { s with heap := h', toks := tk' }) :
    wpAny (model PySem.Challenge.rw_bf5022_01.row.prog w) (ktrTop dp un gd cn cs L a ccd cl outer) (call (.ref 35) [.int u tk, .ref aS, .ref aP, .ref aR]) Q E s := by
  revert X
  k_fill
  intro X
  have hz : sizeLine = 16777216 := sizeLine_eq
  have zR : R.length ≤ sizeLine := by omega
  refine wpAny_call ?_
  k_dflt cell_enter
  k_with "pyIter ref" => (refine stop ?_)
  k_steps
  refine Stop.mk ?_
  rename Fr _ _ _ _ => lF
  rename News _ _ _ _ => lN
  rename IsRange _ _ _ _ _ _ _ _ => lR'
  refine kst_range (σ := List Int × Int × Tok) (fun c => (aR, bya c.1) :: rest) (fun c => [(PySem.Str.ofString "ai", Value.int c.2.1 c.2.2)]) (fun c => c.1.length = R.length ∧ Octets c.1)
      [PySem.Str.ofString "x", PySem.Str.ofString "a", PySem.Str.ofString "b", PySem.Str.ofString "c", PySem.Str.ofString "p", PySem.Str.ofString "pa", PySem.Str.ofString "pb", PySem.Str.ofString "pc", PySem.Str.ofString "pr"]
      (fun pre c => c.1 = fillTo (paethAt u.toNat S P) 0 R pre.length ∧ c.2.1 = pre.length - u) (R, -u, _)
      rfl lR' (small_one (by omega) (by omega) (by omega) (by omega)) (rangeSize_nat _ _) lF lN ⟨rfl, bR⟩ (by kst_all) ⟨rfl, by simp⟩ ?_ ?_
  · rintro ⟨c, ai, at'⟩ pre k t uu hh tkk own hkk hlt hoff' hfac hP' F9 N9
    obtain ⟨hl9, ho9⟩ := hfac
    obtain ⟨hP1, hP2⟩ := hP'
    dsimp only at hl9 ho9 hP1 hP2
    dsimp only [kstB] at F9
    try dsimp only at N9
    simp only [List.cons_append] at N9
    have hk0 : 0 ≤ k := by omega
    have hk1 : k < R.length := by omega
    have ha1 : ai < R.length := by omega
    have hoff9 : ∀ p ∈ own, p.1 ≠ aR := fun p hp => hoff' p hp aR (List.Mem.head _)
    clear hret
    have e : k.toNat = pre.length := by omega
    k_steps
    all_goals (
      refine Stop.mk ?_
      refine kst_end (_, ai + 1, _) (by assumption) (by assumption) (by exact led_rest) (by exact led_own) (by rfl) ⟨?_, ?_⟩ (by kst_all) (by kst_same) ⟨?_, ?_⟩)
    all_goals first
      | (rw [List.length_set]; exact hl9)
      | exact octets_set ho9 (by omega) (by omega)
      | (show ai + 1 = _; rw [List.length_append, List.length_singleton]; omega)
      | (refine fill_next hP1 (by omega) ?_
         rw [e]
         first | rw [pae_lo hP2 (by assumption)] | rw [pae_hi (by omega) hP2 (by assumption)]
         rw [e] at *
         congr 2
         first
           | with_reducible exact near_00 (by with_reducible assumption)
           | with_reducible exact near_0 _
           | with_reducible exact near_a (by with_reducible assumption) (by with_reducible assumption)
           | with_reducible exact near_b1 (by with_reducible assumption) (by with_reducible assumption)
           | with_reducible exact near_b2 (by with_reducible assumption) (by with_reducible assumption)
           | with_reducible exact near_c1 (by with_reducible assumption) (by with_reducible assumption)
           | with_reducible exact near_c2 (by with_reducible assumption) (by with_reducible assumption)
           | with_reducible exact near_c3 (by with_reducible assumption) (by with_reducible assumption))
      | trace_state
  · rintro ⟨c, ai, at'⟩ uu hh tkk hfac hP' F9 N9
    have hc : c = fillTo (paethAt u.toNat S P) 0 R R.length := hP'.1.trans (by rw [rangeKs_length]; congr 1)
    subst hc
    k_steps
    exact hret _ _ (by assumption) (by assumption)
end Mine

namespace Mine
theorem fresh_UndC : True := by
  w_top off
  k_with_none
  trivial
end Mine

namespace Mine
section
variable {prog : Program} {w : World} {A A₀ : Around} {E : Value → Shared → Prop} {s : Shared} {K : Frag} {L : Addr} {h₀ base : Heap} {m mg mb : PySem.Str → Option Value} {news : List (Addr × Obj)} {p : Program} {loose : List PySem.Str} {mean : ExcName → Option Value}

/-- a def of the text's written part, called on a clear stack -/
theorem codeC_def {env : Env} {outer : List Env} {R : Result → Shared → Prop} {name qual : PySem.Str} {params : Arguments} {body : List Stmt} {scope : Scope} {dV kV doc pm cdv ct oc : Value} {an od : Option Addr} {osl : Array (Option Value)} {f : Addr} {args : Args} {binds : List (PySem.Str × Value)}
    (B : Below A₀ base outer h₀) (F : Fr h₀ L s.heap m) (X₀ : K.In h₀) (N : News h₀ L s.heap news) (T : Top p loose mean mg mb h₀) (hA : A.frames = some (env :: outer)) (hf : env.frame = some L) (hke : env.scope.kind = .function)
    (ho : K.lookup f = some ⟨oc, od, .func (fnOf name qual params body scope dV kV doc pm an cdv ct), osl⟩) (hcd : codeIn K cdv qual = true) (hroom : A.depth < recursionLimit)
    (hbind : BindsTo s (fnOf name qual params body scope dV kV doc pm an cdv ct) args binds) (hloc : ∀ y ∈ binds, scope.names.lookup y.1 = some .local)
    (h : ∀ g L' h₁ tk, Fr h₀ L g m → Fr g L' h₁ (fun y => binds.reverse.lookup y) → News g L' h₁ news → Below A base (env :: outer) g → K.In g → Top p loose mean mg mb g → (∀ q ∈ news, q.1 < L') →
      wpC (model prog w) (A.deeper (envOf qual scope L' f cdv)) (execs body (envOf qual scope L' f cdv))
        (fun fl s' => LeaveK h₀ L m g R (match fl with | .ret v => v | _ => .none) s') (fun _ _ => False) { s with heap := h₁, toks := tk })
    (hco : scope.isCoroutine = false) (hgen : scope.isGenerator = false) (hk : scope.kind = .function) (hcell : ∀ x ∈ scope.names, x.2 ≠ .cell) : codeC (model prog w) A (.call (.ref f) args) R s :=
  callC_plain B F N T.nolimit hA hf hke ((X₀.keeps F.keep) _ _ ho) rfl (codeRec_of (X₀.keeps F.keep) hcd) hroom hbind hloc (fun g L' h₁ FG F' N' B' st lt => h g L' h₁ _ FG F' N' B' (X₀.keeps st) (T.keeps st) lt) hcell hco hgen hk
end

theorem keeper_K {M : Model} {A : Around} {E : Value → Shared → Prop} {s : Shared} {K : Frag} {f : Addr} {oc : Value} {od : Option Addr} {fd : FuncData} {osl : Array (Option Value)} {Q : Keeper → Shared → Prop} (X : K.In s.heap)
    (ho : K.lookup f = some ⟨oc, od, .func fd, osl⟩) (h : Q .frame s) : wpAny M A (keeperOf (.ref f)) Q E s := by
  unfold keeperOf
  exact wpAny_bind (wpAny_load (X _ _ ho) (wpAny_pure h))

/-- a list of ints that the ledger bears -/
structure Row where
  a : Addr
  vs : List Value
  ns : List Int
  c : Nat
abbrev Row.ent (r : Row) : Addr × Obj := (r.a, listOf r.vs.toArray r.c)
abbrev Row.ref (r : Row) : Value := .ref r.a

/-- one line undone -/
def undoLine (u : Nat) (way : Int) (line above : List Int) : List Int :=
  if way = 1 then fillTo (subAt u line) u line (line.length - u)
  else if way = 2 then fillTo (upAt line above) 0 line line.length
  else fillTo (paethAt u line above) 0 line line.length
theorem undo1 {u way : Int} {l ab : List Int} (h : way = 1) (hu : 1 ≤ u) : undoLine u.toNat way l ab = fillTo (subAt u.toNat l) u.toNat l ((l.length : Int) - u).toNat := by
  unfold undoLine
  rw [if_pos h, show ((l.length : Int) - u).toNat = l.length - u.toNat by omega]
theorem undo2 {u : Nat} {way : Int} {l ab : List Int} (h1 : ¬ way = 1) (h2 : way = 2) : undoLine u way l ab = fillTo (upAt l ab) 0 l l.length := by
  unfold undoLine
  rw [if_neg h1, if_pos h2]
theorem undo3 {u : Nat} {way : Int} {l ab : List Int} (h1 : ¬ way = 1) (h2 : ¬ way = 2) : undoLine u way l ab = fillTo (paethAt u l ab) 0 l l.length := by
  unfold undoLine
  rw [if_neg h1, if_neg h2]
theorem fillTo_octets {f : List Int → Nat → Int} {o : Nat} {R : List Int} (hf : ∀ r k, 0 ≤ f r k ∧ f r k < 256) (hR : Octets R) : ∀ k, Octets (fillTo f o R k)
  | 0 => hR
  | k + 1 => octets_set (fillTo_octets hf hR k) (hf _ _).1 (hf _ _).2
theorem undoLine_octets {u : Nat} {way : Int} {l ab : List Int} (h : Octets l) : Octets (undoLine u way l ab) := by
  unfold undoLine
  split
  · exact fillTo_octets (fun r k => by unfold subAt; omega) h _
  · split
    · exact fillTo_octets (fun r k => by unfold upAt; omega) h _
    · exact fillTo_octets (fun r k => by unfold paethAt; omega) h _
theorem undoLine_length {u : Nat} {way : Int} {l ab : List Int} : (undoLine u way l ab).length = l.length := by
  unfold undoLine
  split
  · exact fillTo_length _ _ _ _
  · split <;> exact fillTo_length _ _ _ _
/-- the lines undone, and the last one -/
def undoRun (u : Nat) (above : List Int) : List (Int × List Int) → List (List Int) × List Int
  | [] => ([], above)
  | (w, l) :: r => let x := undoLine u w l above; ((x :: (undoRun u x r).1), (undoRun u x r).2)

theorem led_mid {aR aS : Addr} {x y z : Obj} {rest : List (Addr × Obj)} (e : y = x) : ∀ p ∈ (aR, y) :: rest, p ∈ (aR, x) :: (aS, z) :: rest := fun p hp => by
  subst e
  rcases List.mem_cons.mp hp with rfl | hp
  · exact .head _
  · exact .tail _ (.tail _ hp)
theorem undoRun_snoc (u : Nat) (p : Int × List Int) : ∀ (l : List (Int × List Int)) (ab : List Int),
    undoRun u ab (l ++ [p]) = ((undoRun u ab l).1 ++ [undoLine u p.1 p.2 (undoRun u ab l).2], undoLine u p.1 p.2 (undoRun u ab l).2)
  | [], ab => rfl
  | (w, x) :: r, ab => by
    rw [List.cons_append, undoRun, undoRun, undoRun_snoc u p r]
    rfl

/-- what holds between the turns of the undoing -/
def UndJ (u : Nat) (uV : Value) (lD : Addr) (n : Nat) (pairs : List (Int × List Int)) (news : List (Addr × Obj)) (i : Nat) (m : PySem.Str → Option Value) (nx : List (Addr × Obj)) : Prop :=
  ∃ (outs : List Row) (ab : List Int) (aB : Addr) (c : Nat), nx = (lD, listOf (outs.map Row.ref).toArray c) :: (aB, bya ab) :: (outs.map Row.ent ++ news) ∧
    (∀ p ∈ (aB, bya ab) :: (outs.map Row.ent ++ news), p.1 ≠ lD) ∧
    m (PySem.Str.ofString "done") = some (.ref lD) ∧ m (PySem.Str.ofString "above") = some (.ref aB) ∧ m (PySem.Str.ofString "unit") = some uV ∧
    undoRun u (List.replicate n 0) (pairs.take i) = (outs.map Row.ns, ab) ∧ Octets ab ∧ ab.length = n ∧ outs.length = i ∧ ∀ r ∈ outs, IntsAre r.vs r.ns

/-- what one line's undoing leaves: the frame as it was, the ledger with the line undone -/
def MidC (h₀ : Heap) (L : Addr) (m : PySem.Str → Option Value) (led : List (Addr × Obj)) (s : Shared) (f : Flow) (s₂ : Shared) : Prop :=
  f = .next ∧ ∃ h' tk, s₂ = { s with heap := h', toks := tk } ∧ Fr h₀ L h' m ∧ News h₀ L h' led

theorem map3 {m : PySem.Str → Option Value} {x1 x2 x3 : PySem.Str} {v1 v2 v3 : Value} (h1 : m x1 = some v1) (h2 : m x2 = some v2) (h3 : m x3 = some v3) :
    ∃ uu : PySem.Str → Option Value, m = fun z => if z = x1 then some v1 else if z = x2 then some v2 else if z = x3 then some v3 else uu z := by
  refine ⟨m, funext fun z => ?_⟩
  by_cases e1 : z = x1
  · rw [if_pos e1, e1, h1]
  · rw [if_neg e1]
    by_cases e2 : z = x2
    · rw [if_pos e2, e2, h2]
    · rw [if_neg e2]
      by_cases e3 : z = x3
      · rw [if_pos e3, e3, h3]
      · rw [if_neg e3]

section
variable {prog : Program} {w : World} {A : Around} {E : Value → Shared → Prop} {s : Shared} {h₀ : Heap} {L : Addr} {m : PySem.Str → Option Value} {news news' : List (Addr × Obj)}
theorem n_lst {l : Addr} {us : List Value} {c : Nat} (N : News h₀ L s.heap news) (hm : (l, listOf us.toArray c) ∈ news) : s.heap.IsList l us.toArray := ⟨_, (N _ hm).1, rfl, c, rfl⟩
theorem news_new {h h' : Heap} {o : Obj} (F : Fr h₀ L h m) (N : News h₀ L h news) (hk : ∀ b o, h.get? b = some o → h'.get? b = some o) (ho : h'.get? h.objs.size = some o) :
    Fr h₀ L h' m ∧ News h₀ L h' ((h.objs.size, o) :: news) ∧ ∀ p ∈ news, p.1 < h.objs.size := by
  refine ⟨F.keeps hk, fun p hp => ?_, fun p hp => Heap.lt_size (N p hp).1⟩
  rcases List.mem_cons.mp hp with rfl | hp
  · refine ⟨ho, fun e => absurd F.ns.lt (e ▸ Nat.lt_irrefl _), ?_⟩
    cases e : h₀.get? h.objs.size with
    | none => rfl
    | some o => exact absurd (Heap.lt_size (F.keep _ _ e)) (Nat.lt_irrefl _)
  · exact ⟨hk _ _ (N p hp).1, (N p hp).2⟩
theorem c_bya {l : Addr} {vs : List Value} {ns : List Int} {c : Nat} {Q : Value → Shared → Prop} (F : Fr h₀ L s.heap m) (N : News h₀ L s.heap news) (hm : (l, listOf vs.toArray c) ∈ news) (hi : IntsAre vs ns) (hr : Octets ns) (hz : ns.length ≤ sizeLine)
    (h : ∀ D h', Fr h₀ L h' m → News h₀ L h' ((D, bya ns) :: news) → (∀ p ∈ news, p.1 < D) → Q (.ref D) { s with heap := h' }) : wpC (model prog w) A (call (.type "bytearray") [.ref l]) Q E s :=
  call_bya (n_lst N hm) hi hr hz fun h' hk ho => let ⟨F', N', lt⟩ := news_new F N hk ho; h _ h' F' N' lt
theorem n_list {a : Addr} {ns : List Int} {Q : Value → Shared → Prop} (hh : A.handled = none) (F : Fr h₀ L s.heap m) (N : News h₀ L s.heap news) (hm : (a, bya ns) ∈ news) (hr : Octets ns) (hz : ns.length ≤ sizeLine)
    (h : ∀ D us c h' tk, IntsAre us ns → Fr h₀ L h' m → News h₀ L h' ((D, listOf (List.toArray us) c) :: news) → (∀ p ∈ news, p.1 < D) → Q (.ref D) { s with heap := h', toks := tk }) : wpAny (model prog w) A (call (.type "list") [.ref a]) Q E s :=
  list_bya hh (N _ hm).1 hr hz fun h' tk us c hk ho hi => let ⟨F', N', lt⟩ := news_new F N hk ho; h _ us c h' tk hi F' N' lt
theorem n_llen {l : Addr} {us : List Value} {c k : Nat} {Q : Value → Shared → Prop} (N : News h₀ L s.heap news) (hm : (l, listOf us.toArray c) ∈ news) (hk : us.length = k) (hz : k ≤ sizeLine)
    (h : Q (.int k (s.toks + 1)) { s with toks := s.toks + 1 + 1 }) : wpAny (model prog w) A (call (.builtin "len") [.ref l]) Q E s := by
  subst hk
  have hz' : us.length ≤ 16777216 := by rw [← sizeLine_eq]; exact hz
  exact len_list (n_lst N hm) (by rw [List.size_toArray]; omega) (by rw [List.size_toArray]; exact h)
theorem n_litem {value slice : PySem.Expr} {l : Addr} {us : List Value} {c : Nat} {k : Int} {t : Tok} {v : Value} {Q : Value → Shared → Prop} (N : News h₀ L s.heap news) (hm : (l, listOf us.toArray c) ∈ news)
    (h0 : 0 ≤ k) (hfit : k < 2 ^ 63) (hx : us[k.toNat]? = some v) (h : Q v s)
    (hs : subscripted slice false (.ref l) (.int k t) = operate [.ref l, .int k t] (getItem (.ref l) (.int k t)) := by with_unfolding_all rfl) :
    wpAny (model prog w) A (subscriptTail value slice (.ref l) (.int k t)) Q E s :=
  have hl := n_lst N hm
  tail_any hl.typeIs slot_list_getitem.lookup (wpAny_getItem_list hl h0 hfit (by simpa using hx) h) hs
end

local macro_rules | `(tactic| walk_at "call builtin:len") => `(tactic| (k_here; (with_reducible show wpAny _ _ (call (Value.builtin "len") [Value.ref _]) _ _ _); k_dflt (refine' n_llen ?k1 ?k2 ?k3 ?k4 ?_; (case k1 => k_asm); (case k2 => k_mem); (case k3 => first | exact IntsAre.length (by assumption) | exact List.length_map _ | rfl); (case k4 => omega); k_whole)))
local macro_rules | `(tactic| walk_at "subscriptTail") => `(tactic| (k_here; (with_reducible show wpAny _ _ (subscriptTail _ _ (Value.ref _) (Value.int _ _)) _ _ _); k_dflt (refine' n_litem ?k1 ?k2 ?k3 ?k4 ?k5 ?_ ?k7; (case k1 => k_asm); (case k2 => k_mem); (case k3 => omega); (case k4 => omega); (case k5 => first | assumption | rfl); (case k7 => with_unfolding_all rfl); k_whole)))
local macro_rules | `(tactic| k_all) => `(tactic| assumption)
local macro_rules | `(tactic| walk_at "call type:list") => `(tactic| (k_here; (with_reducible show wpAny _ _ (call (Value.type "list") [Value.ref _]) _ _ _); k_dflt (refine' n_list ?k0 ?k1 ?k2 ?k3 ?k4 ?k5 ?_; (case k0 => rfl); (case k1 => k_asm); (case k2 => k_asm); (case k3 => k_mem); (case k4 => assumption); (case k5 => assumption); k_whole); intro D8 us8 c8 h8 tk8 i8 F8 N8 lt8; (k_lt lt8)))
local macro_rules | `(tactic| walk_at "no such key") => `(tactic| fail "none")
local macro_rules | `(tactic| walk_at "call type:zip") => `(tactic| refine stop ?_)
local macro_rules | `(tactic| k_mem) => `(tactic| first | assumption | (refine List.mem_append.mpr (Or.inl ?_); k_mem))

theorem undone_tells (w : World) (loose : List PySem.Str) (mean : ExcName → Option Value) (mg mb : PySem.Str → Option Value)
    (dp un : Nat) (gd : Option (List Code)) (cn : PySem.Str) (cs : Scope) (a : Addr) (ccd : Value) (cl : List (PySem.Str × Addr)) (outer : List Env) (A₀ : Around) (base h₀ : Heap) (L : Addr) (m : PySem.Str → Option Value) (news : List (Addr × Obj)) (s : Shared)
    (Q E : Value → Shared → Prop) (aW aL : Addr) (ws : List Value) (Ws : List Int) (cW cL : Nat) (rows : List Row) (n : Nat) (u : Int) (tk : Tok)
    (B : Below A₀ base outer h₀) (F : Fr h₀ L s.heap m) (X : (hd.heap_39 w.params).In h₀) (N : News h₀ L s.heap news) (T : Top hd.view_39 loose mean mg mb h₀) (hk : cs.kind = .function)
    (hdp : dp + 5 < recursionLimit) (hun : un + 20 < cLine)
    (hW : (aW, listOf ws.toArray cW) ∈ news) (iW : IntsAre ws Ws) (hL : (aL, listOf (rows.map Row.ref).toArray cL) ∈ news) (hrows : ∀ r ∈ rows, r.ent ∈ news ∧ IntsAre r.vs r.ns ∧ Octets r.ns ∧ r.ns.length = n)
    (lW : Ws.length = rows.length) (l0 : 1 ≤ rows.length) (l1 : rows.length ≤ 4) (n0 : n ≤ 16) (hu0 : 1 ≤ u) (hu1 : u ≤ 4)
    (hret : ∀ D c h' tk' (outs : List Row), Fr h₀ L h' m → News h₀ L h' ((D, listOf (outs.map Row.ref).toArray c) :: (outs.map Row.ent ++ news)) → outs.map Row.ns = (undoRun u.toNat (List.replicate n 0) (Ws.zip (rows.map Row.ns))).1 →
      (∀ r ∈ outs, IntsAre r.vs r.ns) → Q (.ref D) { s with heap := h', toks := tk' }) :
    wpC (model PySem.Challenge.rw_bf5022_01.row.prog w) (ktrTop dp un gd cn cs L a ccd cl outer) (call (.ref 49) [.ref aW, .int u tk, .ref aL]) Q E s := by
  revert X
  k_fill
  intro X
  refine wpC_call ?_
  refine' codeC_def ?k1 ?k2 ?k3 ?k4 ?k5 ?kA ?kF ?kK ?k6 ?k7 ?k8 ?k9 ?kB ?_ ?c2 ?c3 ?c4 ?c5
  case kA => exact rfl
  case kF => exact rfl
  case kK => assumption
  case k1 => k_asm
  case k2 => k_asm
  case k3 => k_asm
  case k4 => k_asm
  case k5 => k_asm
  case k6 => k_is
  case k7 => k_is
  case k8 => ktr_room
  case k9 => exact BindsTo.of_eq rfl
  case c5 => decide
  case kB => exact locs rfl
  case c2 => exact rfl
  case c3 => exact rfl
  case c4 => exact rfl
  intro g L' h1 tk0 FG' F' N' B' X' T' lt'
  have hz : sizeLine = 16777216 := sizeLine_eq
  obtain ⟨r0, rs, rfl⟩ : ∃ r0 rs, rows = r0 :: rs := by
    cases rows with
    | nil => simp at l0
    | cons r0 rs => exact ⟨r0, rs, rfl⟩
  have h0 := hrows r0 (.head _)
  have h0e : (r0.a, listOf r0.vs.toArray r0.c) ∈ news := h0.1
  have h0i := h0.2.1
  have h0n := h0.2.2.2
  refine wpC_execs_cons (wpC_Assign_swapped (wpC_Tuple ?_) (by rfl) (by rfl))
  show wpC _ _ (spliced [(false, eval _ _), (false, eval _ _)]) _ _ _
  refine wpC_spliced_cons (wpC_any ?_)
  k_steps
  rename_i lD hD FD ND ltD
  refine wpC_spliced_cons (wpC_Call (Nat.le_of_ble_eq_true rfl) rfl ?_)
  k_steps
  show wpC _ _ (spliced [(false, eval _ _)]) _ _ _
  refine wpC_spliced_cons (wpC_any ?_)
  k_steps
  refine wpC_spliced_nil ?_
  refine wpAny_of_eq (a := .machine) rfl ⟨.inl rfl, ?_⟩
  have hzeros : (List.replicate ((r0.ns.length : Int)).toNat [(0 : Int)]).flatten = List.replicate n 0 := by
    rw [← h0n, Int.toNat_natCast]
    generalize r0.ns.length = j
    induction j with
    | zero => rfl
    | succ j ih => rw [List.replicate_succ, List.flatten_cons, ih]; rfl
  rename IntsAre _ _ => iz
  rw [hzeros] at iz
  rename News _ _ _ _ => N1
  rename Fr _ _ _ _ => F1
  refine c_bya F1 N1 (.head _) iz (fun x hx => by rw [List.eq_of_mem_replicate hx]; decide) (by rw [List.length_replicate]; omega) fun aB h2 F2 N2 lt2 => ?_
  clear F1 N1
  refine wpC_spliced_nil ?_
  k_steps
  refine wpC_execs_cons (wpC_For ?_)
  k_steps
  refine Stop.mk ?_
  rename News _ _ _ _ => N7
  rename Fr _ _ _ _ => F7
  have hD7 : lD < aB := lt2 (lD, _) (.tail _ (.tail _ (.head _)))
  have N8 := kst_newsOf (l' := (lD, listOf (([] : List Row).map Row.ref).toArray 0) :: (aB, bya (List.replicate n 0)) :: (([] : List Row).map Row.ent ++ news)) N7 (fun p hp => by
    rcases List.mem_cons.mp hp with rfl | hp
    · exact .tail _ (.tail _ (.tail _ (.tail _ (.head _))))
    · rcases List.mem_cons.mp hp with rfl | hp
      · exact .tail _ (.head _)
      · exact .tail _ (.tail _ (.tail _ (.tail _ (.tail _ hp)))))
  clear N7
  have hltW := Heap.lt_size (N8 _ (.tail _ (.tail _ hW))).1
  have hltL := Heap.lt_size (N8 _ (.tail _ (.tail _ hL))).1
  refine call_zip_2 (n_lst N8 (.tail _ (.tail _ hW))) (n_lst N8 (.tail _ (.tail _ hL))) fun h9 z1 p2 p3 i1 i2 _ keep9 => wpAny_pyIter_zip z1 ?_
  dsimp only at z1 p2 p3 i1 i2 keep9 hltW hltL
  rename_i hz9 _
  have hbig : ∀ c, hz9.objs.size ≤ c → g.get? c = none := fun c hc => by
    cases e : g.get? c with
    | none => rfl
    | some o => exact absurd (Heap.lt_size (F7.keep _ _ e)) (Nat.not_lt.mpr hc)
  have hLz : L' < hz9.objs.size := F7.ns.lt
  have hsm : ∀ p ∈ (lD, listOf (([] : List Row).map Row.ref).toArray 0) :: (aB, bya (List.replicate n 0)) :: (([] : List Row).map Row.ent ++ news), p.1 < hz9.objs.size := fun p hp => Heap.lt_size (N8 p hp).1
  have hLW : L' ≠ aW := fun e => (N8 _ (.tail _ (.tail _ hW))).2.1 e.symm
  have hLL : L' ≠ aL := fun e => (N8 _ (.tail _ (.tail _ hL))).2.1 e.symm
  have F9 : Fr g L' h9 _ := F7.keeps keep9
  have N9 : News g L' h9 _ := fun p hp => ⟨keep9 _ _ (N8 p hp).1, (N8 p hp).2⟩
  generalize hz9.objs.size = Z at *
  dsimp only
  have D9 : ZipApart (Z + 4) (Z + 2) (Z + 3) Z (Z + 1) aW aL := by
    have q1 := ltN hltW
    have q2 := ltN hltL
    constructor <;> (refine neN ?_; omega)
  have hmin : min ws.toArray.size ((r0 :: rs).map Row.ref).toArray.size = (r0 :: rs).length := by
    rw [List.size_toArray, List.size_toArray, List.length_map, iW.length, lW, Nat.min_self]
  have hiW := iW.length
  refine forC_pairs (h₀ := g) (fp := [Z + 4, Z + 2, Z + 3, Z, Z + 1, aW, aL]) (wr := [Z + 4, Z + 3, Z, Z + 1]) (P2 := fun i a b => ws[i]? = some a ∧ ((r0 :: rs).map Row.ref)[i]? = some b) rfl
    (WalksT.zip2 rfl (Z + 4) (Z + 2) (Z + 3) Z (Z + 1) aW aL D9 ws.toArray ((r0 :: rs).map Row.ref).toArray) ?_ rfl rfl rfl ?_ ?_ ?_ ?_
    ⟨z1, p2, ⟨_, _, p3⟩, i1, i2, n_lst N9 (.tail _ (.tail _ hW)), n_lst N9 (.tail _ (.tail _ hL))⟩ F9 N9
    (UndJ u.toNat (.int u tk) lD n (Ws.zip ((r0 :: rs).map Row.ns)) news) ?_ ?_ ?_
  · rintro i vals ⟨x, y, hx, hy, rfl⟩
    exact ⟨x, y, rfl, by simpa using hx, by simpa using hy⟩
  · intro hm
    simp only [List.mem_cons, List.not_mem_nil, or_false] at hm
    have q3 := ltN hLz
    rcases hm with e | e | e | e | e | e | e
    · exact absurd (show L' = Z + 4 from e) (neN (by omega))
    · exact absurd (show L' = Z + 2 from e) (neN (by omega))
    · exact absurd (show L' = Z + 3 from e) (neN (by omega))
    · exact absurd (show L' = Z from e) (neN (by omega))
    · exact absurd (show L' = Z + 1 from e) (neN (by omega))
    · exact hLW e
    · exact hLL e
  · intro b hb
    simp only [List.mem_cons, List.not_mem_nil, or_false] at hb
    rcases hb with rfl | rfl | rfl | rfl <;> exact hbig _ (by omega)
  · rintro i h ⟨a1, _, ⟨_, _, a3⟩, a4, a5, _⟩ b hb
    simp only [List.mem_cons, List.not_mem_nil, or_false] at hb
    obtain ⟨o4, e4, _⟩ := a4
    obtain ⟨o5, e5, _⟩ := a5
    rcases hb with rfl | rfl | rfl | rfl
    · exact ⟨_, a1⟩
    · exact ⟨_, a3⟩
    · exact ⟨_, e4⟩
    · exact ⟨_, e5⟩
  · intro p hp hb
    have q4 := ltN (hsm p hp)
    simp only [List.mem_cons, List.not_mem_nil, or_false] at hb
    rcases hb with e | e | e | e <;> exact absurd e (neN (by omega))
  · refine ⟨[], List.replicate n 0, aB, 0, rfl, fun p hp => ?_, rfl, rfl, rfl, rfl, fun x hx => by rw [List.eq_of_mem_replicate hx]; decide, List.length_replicate, rfl, fun r hr => nomatch hr⟩
    rcases List.mem_cons.mp hp with rfl | hp
    · exact Nat.ne_of_gt hD7
    · exact Nat.ne_of_lt (ltD p hp)
  · rintro i x y m₁ nx h tk9 own hi ⟨hx, hy⟩ ⟨outs, ab, aB', c, rfl, hne, m1, m2, m3, hrun, oab, lab, lout, iout⟩ hoff hcov hsub Fx Nx
    obtain ⟨uu, rfl⟩ := map3 m1 m2 m3
    obtain ⟨Wi, tw, rfl, hWi⟩ := IntsAre.at iW i x hx
    obtain ⟨r, hr, rfl⟩ : ∃ r, (r0 :: rs)[i]? = some r ∧ y = Row.ref r := by
      rw [List.getElem?_map] at hy
      cases e : (r0 :: rs)[i]? with
      | none => rw [e] at hy; cases hy
      | some r => rw [e] at hy; exact ⟨r, rfl, (Option.some.inj hy).symm⟩
    have hrr := hrows r (List.mem_of_getElem? hr)
    have er : (r.a, listOf r.vs.toArray r.c) ∈ news := hrr.1
    have ir := hrr.2.1
    have or' := hrr.2.2.1
    have lr := hrr.2.2.2
    have N5 := kst_newsOf (l' := (lD, listOf (outs.map Row.ref).toArray c) :: (aB', bya ab) :: (outs.map Row.ent ++ news ++ own)) Nx (fun p hp => by
      rcases List.mem_cons.mp hp with rfl | hp
      · exact List.mem_append.mpr (.inr (.head _))
      · rcases List.mem_cons.mp hp with rfl | hp
        · exact List.mem_append.mpr (.inr (.tail _ (.head _)))
        · rcases List.mem_append.mp hp with hp | hp
          · exact List.mem_append.mpr (.inr (.tail _ (.tail _ hp)))
          · exact List.mem_append.mpr (.inl hp))
    clear Nx
    have eR : (r.a, listOf r.vs.toArray r.c) ∈ outs.map Row.ent ++ news ++ own := List.mem_append.mpr (.inl (List.mem_append.mpr (.inr er)))
    have hneR : ∀ p ∈ outs.map Row.ent ++ news ++ own, p.1 ≠ lD := fun p hp => by
      rcases List.mem_append.mp hp with hp | hp
      · exact hne p (.tail _ hp)
      · intro e
        have q5 := hsub p hp
        have q6 := ltN (hsm (lD, _) (.head _))
        simp only [List.mem_cons, List.not_mem_nil, or_false] at q5
        rw [e] at q5
        rcases q5 with q5 | q5 | q5 | q5 | q5 | q5 | q5
        · exact absurd q5 (neN (by omega))
        · exact absurd q5 (neN (by omega))
        · exact absurd q5 (neN (by omega))
        · exact absurd q5 (neN (by omega))
        · exact absurd q5 (neN (by omega))
        · exact hne _ (.tail _ (List.mem_append.mpr (.inr hW))) q5.symm
        · exact hne _ (.tail _ (List.mem_append.mpr (.inr hL))) q5.symm
    generalize hR1 : outs.map Row.ent ++ news ++ own = R1 at N5 eR hneR
    refine wpC_execs_cons (wpC_Assign1 (wpC_Call (Nat.le_of_ble_eq_true rfl) rfl ?_))
    clear hret F9 N9 N8 F7 lt2 hsm
    k_steps
    show wpC _ _ (spliced [(false, eval _ _)]) _ _ _
    refine wpC_spliced_cons (wpC_any ?_)
    k_steps
    refine wpC_spliced_nil ?_
    refine wpAny_of_eq (a := .machine) rfl ⟨.inl rfl, ?_⟩
    rename Fr _ _ _ _ => Fx
    rename News _ _ _ _ => N5
    refine c_bya Fx N5 (.tail _ (.tail _ eR)) ir or' (by omega) fun aR h2 F2 N2 lt2 => ?_
    k_steps
    dsimp only
    rename Fr _ _ _ _ => F3
    rename News _ _ _ _ => N3
    refine wpC_execs_cons (wpC_mono (Q := MidC g L' (fun y => if y = PySem.Str.ofString "result" then some (Value.ref aR) else if y = PySem.Str.ofString "line" then some r.ref else if y = PySem.Str.ofString "way" then some (Value.int Wi tw) else
      if y = PySem.Str.ofString "done" then some (Value.ref lD) else if y = PySem.Str.ofString "above" then some (Value.ref aB') else if y = PySem.Str.ofString "unit" then some (Value.int u tk) else uu y)
      ((aR, bya (undoLine u.toNat Wi r.ns ab)) :: (lD, listOf (outs.map Row.ref).toArray c) :: (aB', bya ab) :: R1) s) (wpC_If ?_) ?_ (fun _ _ e => e))
    · k_steps
      · refine wpC_execs_cons (wpC_Expr_none (wpC_Call (Nat.le_of_ble_eq_true rfl) rfl ?_) (by rfl) (by rfl))
        rename_i hw
        k_steps
        show wpC _ _ (spliced [(false, eval _ _), (false, eval _ _), (false, eval _ _), (false, eval _ _)]) _ _ _
        refine wpC_spliced_cons (wpC_any ?_)
        k_steps
        refine wpC_spliced_cons (wpC_Call (Nat.le_of_ble_eq_true rfl) rfl ?_)
        k_steps
        show wpC _ _ (spliced [(false, eval _ _)]) _ _ _
        refine wpC_spliced_cons (wpC_any ?_)
        k_steps
        refine wpC_spliced_nil ?_
        refine wpAny_of_eq (a := .machine) rfl ⟨.inl rfl, ?_⟩
        rename Fr _ _ _ _ => F3
        rename News _ _ _ _ => N3
        refine c_bya F3 N3 (.tail _ (.tail _ (.tail _ eR))) ir or' (by omega) fun aS h4 F4 N4 lt4 => ?_
        refine wpC_spliced_cons (wpC_any ?_)
        k_steps
        refine wpC_spliced_cons (wpC_any ?_)
        k_steps
        refine wpC_spliced_nil ?_
        rename Fr _ _ _ _ => F4
        rename News _ _ _ _ => N4
        refine keeper_K (X'.keeps F4.keep) (by k_is) ⟨.inr rfl, wpC_any ?_⟩
        have N6 := kst_newsOf (l' := (aR, bya r.ns) :: (aS, bya r.ns) :: (lD, listOf (outs.map Row.ref).toArray c) :: (aB', bya ab) :: R1) N4 (fun p hp => by
          rcases List.mem_cons.mp hp with rfl | hp
          · exact .tail _ (.head _)
          · rcases List.mem_cons.mp hp with rfl | hp
            · exact .head _
            · exact .tail _ (.tail _ hp))
        have hS6 : ∀ p ∈ (aS, bya r.ns) :: (lD, listOf (outs.map Row.ref).toArray c) :: (aB', bya ab) :: R1, p.1 ≠ aR := fun p hp => by
          rcases List.mem_cons.mp hp with rfl | hp
          · exact Nat.ne_of_gt (lt4 (aR, _) (.head _))
          · exact Nat.ne_of_lt (lt2 p hp)
        refine sub_tells w loose mean mg mb _ _ _ _ _ _ _ _ _ _ base g L' _ _ _ _ _ aS aB' aR r.ns r.ns u tk B' F4 X' N6 T' rfl (by ktr_room) (by ktr_units) (.head _) hS6 or' or' rfl (by omega) hu0 hu1 fun h' tk' F' N' => ⟨rfl, wpC_execs_nil ⟨rfl, h', tk', rfl, F', kst_newsOf N' (fun p hp => ?_)⟩⟩
        · exact led_mid (congrArg bya (undo1 hw hu0)) p hp
      · rename_i hw1
        refine wpC_execs_cons (wpC_If ?_)
        k_steps
        · refine wpC_execs_cons (wpC_Expr_none (wpC_Call (Nat.le_of_ble_eq_true rfl) rfl ?_) (by rfl) (by rfl))
          rename_i hw
          k_steps
          show wpC _ _ (spliced [(false, eval _ _), (false, eval _ _), (false, eval _ _), (false, eval _ _)]) _ _ _
          refine wpC_spliced_cons (wpC_any ?_)
          k_steps
          refine wpC_spliced_cons (wpC_Call (Nat.le_of_ble_eq_true rfl) rfl ?_)
          k_steps
          show wpC _ _ (spliced [(false, eval _ _)]) _ _ _
          refine wpC_spliced_cons (wpC_any ?_)
          k_steps
          refine wpC_spliced_nil ?_
          refine wpAny_of_eq (a := .machine) rfl ⟨.inl rfl, ?_⟩
          rename Fr _ _ _ _ => F3
          rename News _ _ _ _ => N3
          refine c_bya F3 N3 (.tail _ (.tail _ (.tail _ eR))) ir or' (by omega) fun aS h4 F4 N4 lt4 => ?_
          refine wpC_spliced_cons (wpC_any ?_)
          k_steps
          refine wpC_spliced_cons (wpC_any ?_)
          k_steps
          refine wpC_spliced_nil ?_
          rename Fr _ _ _ _ => F4
          rename News _ _ _ _ => N4
          refine keeper_K (X'.keeps F4.keep) (by k_is) ⟨.inr rfl, wpC_any ?_⟩
          have N6 := kst_newsOf (l' := (aR, bya r.ns) :: (aS, bya r.ns) :: (lD, listOf (outs.map Row.ref).toArray c) :: (aB', bya ab) :: R1) N4 (fun p hp => by
            rcases List.mem_cons.mp hp with rfl | hp
            · exact .tail _ (.head _)
            · rcases List.mem_cons.mp hp with rfl | hp
              · exact .head _
              · exact .tail _ (.tail _ hp))
          have hS6 : ∀ p ∈ (aS, bya r.ns) :: (lD, listOf (outs.map Row.ref).toArray c) :: (aB', bya ab) :: R1, p.1 ≠ aR := fun p hp => by
            rcases List.mem_cons.mp hp with rfl | hp
            · exact Nat.ne_of_gt (lt4 (aR, _) (.head _))
            · exact Nat.ne_of_lt (lt2 p hp)
          refine up_tells w loose mean mg mb _ _ _ _ _ _ _ _ _ _ base g L' _ _ _ _ _ aS aB' aR r.ns ab r.ns u tk B' F4 X' N6 T' rfl (by ktr_room) (by ktr_units) (.head _) (.tail _ (.tail _ (.head _))) hS6 or' oab or' rfl (by omega) (by omega) fun h' tk' F' N' => ⟨rfl, wpC_execs_nil (wpC_execs_nil ⟨rfl, h', tk', rfl, F', kst_newsOf N' (fun p hp => ?_)⟩)⟩
          · exact led_mid (congrArg bya (undo2 hw1 hw)) p hp
        · refine wpC_execs_cons (wpC_Expr_none (wpC_Call (Nat.le_of_ble_eq_true rfl) rfl ?_) (by rfl) (by rfl))
          rename_i hw
          k_steps
          show wpC _ _ (spliced [(false, eval _ _), (false, eval _ _), (false, eval _ _), (false, eval _ _)]) _ _ _
          refine wpC_spliced_cons (wpC_any ?_)
          k_steps
          refine wpC_spliced_cons (wpC_Call (Nat.le_of_ble_eq_true rfl) rfl ?_)
          k_steps
          show wpC _ _ (spliced [(false, eval _ _)]) _ _ _
          refine wpC_spliced_cons (wpC_any ?_)
          k_steps
          refine wpC_spliced_nil ?_
          refine wpAny_of_eq (a := .machine) rfl ⟨.inl rfl, ?_⟩
          rename Fr _ _ _ _ => F3
          rename News _ _ _ _ => N3
          refine c_bya F3 N3 (.tail _ (.tail _ (.tail _ eR))) ir or' (by omega) fun aS h4 F4 N4 lt4 => ?_
          refine wpC_spliced_cons (wpC_any ?_)
          k_steps
          refine wpC_spliced_cons (wpC_any ?_)
          k_steps
          refine wpC_spliced_nil ?_
          rename Fr _ _ _ _ => F4
          rename News _ _ _ _ => N4
          refine keeper_K (X'.keeps F4.keep) (by k_is) ⟨.inr rfl, wpC_any ?_⟩
          have N6 := kst_newsOf (l' := (aR, bya r.ns) :: (aS, bya r.ns) :: (lD, listOf (outs.map Row.ref).toArray c) :: (aB', bya ab) :: R1) N4 (fun p hp => by
            rcases List.mem_cons.mp hp with rfl | hp
            · exact .tail _ (.head _)
            · rcases List.mem_cons.mp hp with rfl | hp
              · exact .head _
              · exact .tail _ (.tail _ hp))
          have hS6 : ∀ p ∈ (aS, bya r.ns) :: (lD, listOf (outs.map Row.ref).toArray c) :: (aB', bya ab) :: R1, p.1 ≠ aR := fun p hp => by
            rcases List.mem_cons.mp hp with rfl | hp
            · exact Nat.ne_of_gt (lt4 (aR, _) (.head _))
            · exact Nat.ne_of_lt (lt2 p hp)
          refine paeth_tells w loose mean mg mb _ _ _ _ _ _ _ _ _ _ base g L' _ _ _ _ _ aS aB' aR r.ns ab r.ns u tk B' F4 X' N6 T' rfl (by ktr_room) (by ktr_units) (.head _) (.tail _ (.tail _ (.head _))) hS6 or' oab or' rfl (by omega) (by omega) hu0 hu1 fun h' tk' F' N' => ⟨rfl, wpC_execs_nil (wpC_execs_nil ⟨rfl, h', tk', rfl, F', kst_newsOf N' (fun p hp => ?_)⟩)⟩
          · exact led_mid (congrArg bya (undo3 hw1 hw)) p hp
    · rintro f s₂ ⟨rfl, h5, tk5, rfl, F5, N5⟩
      dsimp only
      have oX : Octets (undoLine u.toNat Wi r.ns ab) := undoLine_octets or'
      have lX : (undoLine u.toNat Wi r.ns ab).length = n := undoLine_length.trans lr
      have zX : (undoLine u.toNat Wi r.ns ab).length ≤ sizeLine := by omega
      have q1 : @LT.lt Nat _ lD aR := lt2 (lD, _) (.head _)
      have q2 : @Ne Nat aB' lD := hne (aB', _) (.head _)
      have q3 : outs.length ≤ 4 := by
        rw [lout]
        have := (List.getElem?_eq_some_iff.mp hr).1
        omega
      generalize hX : undoLine u.toNat Wi r.ns ab = X9 at *
      clear F3 N3 F2 N2 Fx
      refine wpC_any ?_
      k_steps
      rename_i D8 us8 c8 h8 tk8 i8 lt8 h9' h10 F10 N10
      have hown : ∀ p ∈ own, p ∈ R1 := fun p hp => by rw [← hR1]; exact List.mem_append.mpr (.inr hp)
      have hold : ∀ p ∈ outs.map Row.ent ++ news, p ∈ R1 := fun p hp => by rw [← hR1]; exact List.mem_append.mpr (.inl hp)
      have ltR : ∀ p ∈ R1, @LT.lt Nat _ p.1 aR := fun p hp => lt2 p (.tail _ (.tail _ hp))
      have ltD8 : ∀ p ∈ R1, @LT.lt Nat _ p.1 D8 := kst_ltOf lt8.2.2.2
      have hpair : (Ws.zip ((r0 :: rs).map Row.ns))[i]? = some (Wi, r.ns) := by
        rw [List.getElem?_zip_eq_some]
        exact ⟨hWi, by rw [List.getElem?_map, hr]; rfl⟩
      refine ⟨rfl, _, _, _, (lD, listOf ((outs ++ [Row.mk D8 us8 X9 c8]).map Row.ref).toArray (c + 1)) :: (aR, bya X9) :: ((outs ++ [Row.mk D8 us8 X9 c8]).map Row.ent ++ news), rfl, F10, kst_newsOf N10 (fun p hp => ?_), fun p hp hb => ?_, ?_⟩
      · rcases List.mem_append.mp hp with hp | hp
        · exact .tail _ (.tail _ (.tail _ (.tail _ (hown p hp))))
        · rcases List.mem_cons.mp hp with rfl | hp
          · refine .tail _ (.tail _ ?_)
            rw [List.map_append, List.push_toArray]
            exact .head _
          · rcases List.mem_cons.mp hp with rfl | hp
            · exact .tail _ (.head _)
            · rw [List.map_append, List.append_assoc] at hp
              rcases List.mem_append.mp hp with hp | hp
              · exact .tail _ (.tail _ (.tail _ (.tail _ (hold p (List.mem_append.mpr (.inl hp))))))
              · rcases List.mem_append.mp hp with hp | hp
                · rcases List.mem_singleton.mp hp with rfl
                  exact .head _
                · exact .tail _ (.tail _ (.tail _ (.tail _ (hold p (List.mem_append.mpr (.inr hp))))))
      · obtain ⟨o, ho⟩ := hcov _ hb
        have r1 := ltR _ (hown _ ho)
        have r2 := ltD8 _ (hown _ ho)
        rcases List.mem_cons.mp hp with rfl | hp
        · exact hoff (lD, _) (.head _) hb
        · rcases List.mem_cons.mp hp with rfl | hp
          · exact Nat.lt_irrefl _ r1
          · rw [List.map_append, List.append_assoc] at hp
            rcases List.mem_append.mp hp with hp | hp
            · exact hoff p (.tail _ (.tail _ (List.mem_append.mpr (.inl hp)))) hb
            · rcases List.mem_append.mp hp with hp | hp
              · rcases List.mem_singleton.mp hp with rfl
                exact Nat.lt_irrefl _ r2
              · exact hoff p (.tail _ (.tail _ (List.mem_append.mpr (.inr hp)))) hb
      · refine ⟨outs ++ [Row.mk D8 us8 X9 c8], X9, aR, c + 1, rfl, fun p hp => ?_, rfl, rfl, rfl, ?_, oX, lX, by rw [List.length_append, lout]; rfl, fun q hq => ?_⟩
        · rcases List.mem_cons.mp hp with rfl | hp
          · exact Nat.ne_of_gt q1
          · rw [List.map_append, List.append_assoc] at hp
            rcases List.mem_append.mp hp with hp | hp
            · exact hne p (.tail _ (List.mem_append.mpr (.inl hp)))
            · rcases List.mem_append.mp hp with hp | hp
              · rcases List.mem_singleton.mp hp with rfl
                exact Nat.ne_of_gt lt8.2.1
              · exact hne p (.tail _ (List.mem_append.mpr (.inr hp)))
        · rw [List.take_add_one, hpair]
          show undoRun u.toNat (List.replicate n 0) (_ ++ [(Wi, r.ns)]) = _
          rw [undoRun_snoc, hrun, hX, List.map_append]
          rfl
        · rcases List.mem_append.mp hq with hq | hq
          · exact iout q hq
          · rcases List.mem_singleton.mp hq with rfl
            exact i8
  · rintro h' tk' m' nx Fx Nx ⟨outs, ab, aB', c, rfl, hne, m1, m2, m3, hrun, oab, lab, lout, iout⟩
    obtain ⟨uu, rfl⟩ := map3 m1 m2 m3
    have hl9 : (Ws.zip ((r0 :: rs).map Row.ns)).length = (r0 :: rs).length := by
      rw [List.length_zip, List.length_map, lW, Nat.min_self]
    have hpairs : (Ws.zip ((r0 :: rs).map Row.ns)).take (min ws.toArray.size ((r0 :: rs).map Row.ref).toArray.size) = Ws.zip ((r0 :: rs).map Row.ns) := by
      rw [hmin, ← hl9, List.take_length]
    rw [hpairs] at hrun
    dsimp only
    clear F9 N9 N8 F7 lt2
    refine wpC_any ?_
    k_steps
    rename Fr _ _ _ _ => F11
    rename News _ _ _ _ => N11
    refine hret lD c _ _ outs F11 (kst_newsOf N11 (fun p hp => ?_)) (by rw [hrun]) iout
    rcases List.mem_cons.mp hp with rfl | hp
    · exact .head _
    · exact .tail _ (.tail _ hp)
end Mine

namespace Mine
theorem fresh_Tmin : True := by
  w_top off
  k_with_none
  trivial
end Mine

namespace Mine
/-- one of the three candidates: how far off, its place, its own worth -/
def Cand (h : Heap) (a : Addr) (d i v : Int) : Prop := ∃ t1 t2 t3, IsTup h a #[.int d t1, .int i t2, .int v t3]

section
variable {prog : Program} {w : World} {A : Around} {E : Value → Shared → Prop} {s : Shared}

theorem cand_lt {x y : Addr} {d1 i1 v1 d2 i2 v2 : Int} {Q : Value → Shared → Prop} (hu : A.units < cLine) (hx : Cand s.heap x d1 i1 v1) (hy : Cand s.heap y d2 i2 v2) (hne : d1 = d2 → i1 ≠ i2)
    (h : Q (.bool (if d1 = d2 then decide (i1 < i2) else decide (d1 < d2))) s) : wpAny (model prog w) A (richCompare .Lt (.ref x) (.ref y)) Q E s := by
  obtain ⟨a1, a2, a3, hx⟩ := hx
  obtain ⟨b1, b2, b3, hy⟩ := hy
  refine wpAny_richCompare_same_room hx.typeIs hy.typeIs PySem.F.slot_tuple_lt ?_ hu
  refine wpAny_call_entry PySem.F.slot_tuple_lt hx.typeIs PySem.F.entry_tuple_lt ?_ (PySem.F.args_tuple_lt_2 _ _)
  show wpAny _ _ (isInstance (.ref y) (.type "tuple") >>= _) _ _ s
  refine wpAny_bind (wpAny_isInstance hy.typeIs isSubtype_tuple_tuple ?_)
  simp only [Bool.not_true, Bool.false_eq_true, if_false]
  refine wpAny_bind (tupleItemsOf_ hx ?_)
  refine wpAny_bind (tupleItemsOf_ hy ?_)
  have lt : ∀ (p q : Int) (t u : Tok) {Q' : Value → Shared → Prop} {A' : Around} {E' : Value → Shared → Prop}, Q' (.bool (decide (p < q))) s → wpAny (model prog w) A' (richCompare .Lt (.int p t) (.int q u)) Q' E' s := fun p q t u {Q' A' E'} hq =>
    richCompare_gives (op := .Lt) (typeIs_int s _ t) (typeIs_int s _ u) PySem.F.slot_int_lt PySem.F.entry_int_lt (PySem.F.args_int_lt_2 _ _) (gives_int_lt _ _ t u) (fun x => nomatch x) hq
  refine wpAny_bind ?_
  simp only [List.zip_cons_cons, List.zip_nil_right]
  rw [List.forIn_cons]
  refine wpAny_bind (wpAny_bind (wpAny_eqBool_int ?_))
  by_cases e : d1 = d2
  · subst e
    rw [if_pos rfl] at h
    simp only [beq_self_eq_true, Bool.not_true, Bool.false_eq_true, if_false]
    refine wpAny_pure ?_
    dsimp only
    rw [List.forIn_cons]
    refine wpAny_bind (wpAny_bind (wpAny_eqBool_int ?_))
    have e2 : (i1 == i2) = false := by simpa using hne rfl
    simp only [e2, Bool.not_false, if_true]
    refine wpAny_bind (wpAny_rule (wpAny_bind (lt _ _ _ _ ?_)))
    exact wpAny_bind (wpAny_pure (wpAny_pure (wpAny_pure (wpAny_pure ⟨_, rfl, (fun x => nomatch x), h⟩))))
  · rw [if_neg e] at h
    have e2 : (d1 == d2) = false := by simpa using e
    simp only [e2, Bool.not_false, if_true]
    refine wpAny_bind (wpAny_rule (wpAny_bind (lt _ _ _ _ ?_)))
    exact wpAny_bind (wpAny_pure (wpAny_pure (wpAny_pure (wpAny_pure ⟨_, rfl, (fun x => nomatch x), h⟩))))

/-- the least of three, ties to the first -/
theorem min_cands {l : Addr} {xs : List Addr} {d v : Nat → Int} {Q : Value → Shared → Prop} (hh : A.in1.handled = none) (hu : A.in1.units < cLine) (hl : s.heap.IsList l (xs.map Value.ref).toArray) (hne : 0 < xs.length)
    (hc : ∀ i x, xs[i]? = some x → Cand s.heap x (d i) i (v i))
    (h : ∀ i x h' tk', xs[i]? = some x → (∀ j, j < xs.length → d i ≤ d j ∧ (j < i → d i < d j)) → (∀ b o, s.heap.get? b = some o → h'.get? b = some o) → Q (.ref x) { s with heap := h', toks := tk' }) :
    wpAny (model prog w) A (call (.builtin "min") [.ref l]) Q E s := by
  have hname : (toString "min" ++ toString ".loop" : String) = "min.loop" := by decide
  have hlt : ∀ {x y : Addr} {o : Obj} {q : Heap}, q.get? x = some o → x ≠ q.objs.size := fun e => Nat.ne_of_lt (Heap.lt_size e)
  have hll : ∀ {I : Addr} {h' : Heap}, (∀ b o, s.heap.get? b = some o → b ≠ I) → l ≠ I := fun k => by
    obtain ⟨o, ho, _⟩ := hl
    exact k l o ho
  have loop : ∀ (I S : Addr), (∀ b o, s.heap.get? b = some o → b ≠ I ∧ b ≠ S) → I ≠ S → ∀ (r j i : Nat) (x : Addr) (h' : Heap) (tk : Nat) (c : Nat), xs.length - j = r → 0 < j → j ≤ xs.length →
      h'.IsListIter I l j → (∀ b o, s.heap.get? b = some o → h'.get? b = some o) → xs[i]? = some x → i < j → (∀ j', j' < j → d i ≤ d j' ∧ (j' < i → d i < d j')) →
      h'.get? S = some { cls := .type "list", dict := none, data := .seq #[.ref x, .ref x] c, slots := #[] } →
      codeAny (model prog w) A (.builtin "min.loop" ⟨[.ref I, .none, .ref S], []⟩) (fun r s' => match r with | .ok (.ret v) => Q v s' | .ok _ => False | .error e => E e s') { s with heap := h', toks := tk } := by
    intro I S hIS hIS' r
    have W := Walks.list (prog := prog) (w := w) (A := A.in1) hh I l (by obtain ⟨o, ho, _⟩ := hl; exact (hIS l o ho).1) (xs.map Value.ref).toArray
    have hz : (xs.map Value.ref).toArray.size = xs.length := by simp
    induction r with
    | zero =>
      intro j i x h' tk c hr hj hjl hit hk hx hij hb hS
      have hj' : j = xs.length := by omega
      refine codeAny_builtin PySem.F.entry_min_loop ?_
      rw [Around.under_plainId PySem.F.plain_min_loop _]
      show wpAny _ A.in1 (seqItems? (.ref S) >>= _) _ _ _
      refine wpAny_bind (wpAny_seqItems hS rfl ?_)
      show wpAny _ A.in1 (tryCatch (pyNext (.ref I)) _ >>= _) _ _ _
      refine wpAny_bind (wpAny_tryCatch (W.done _ _ _ ⟨by rw [hz, ← hj']; exact hit, hl.at fun o e => hk _ _ e⟩ fun h2 tk2 hk2 => ?_))
      have hS2 := hk2 S _ (by simpa using Ne.symm hIS') hS
      show wpAny _ A.in1 (updateSeq S (fun _ => #[]) >>= _) _ _ _
      refine wpAny_bind (wpAny_updateSeq hS2 rfl (wpAny_bind (wpAny_letGo (wpAny_pure ?_))))
      refine h i x _ _ hx (fun j' hj' => hb j' (by omega)) fun b o e => ?_
      exact (Heap.get?_update_other _ _ (Ne.symm (hIS b o e).2)).trans (hk2 b o (by simpa using (hIS b o e).1) (hk b o e))
    | succ r ih =>
      intro j i x h' tk c hr hj hjl hit hk hx hij hb hS
      have hlt' : j < xs.length := by omega
      refine codeAny_builtin PySem.F.entry_min_loop ?_
      rw [Around.under_plainId PySem.F.plain_min_loop _]
      show wpAny _ A.in1 (seqItems? (.ref S) >>= _) _ _ _
      refine wpAny_bind (wpAny_seqItems hS rfl ?_)
      show wpAny _ A.in1 (tryCatch (pyNext (.ref I)) _ >>= _) _ _ _
      refine wpAny_bind (wpAny_tryCatch (W.item j _ _ _ (by rw [hz]; exact hlt') ⟨hit, hl.at fun o e => hk _ _ e⟩ fun y h2 tk2 hP hst2 hk2 => ?_))
      obtain ⟨x2, hx2, rfl⟩ : ∃ x2, xs[j]? = some x2 ∧ y = .ref x2 := by
        have hP' : (xs.map Value.ref)[j]? = some y := by simpa using hP
        rw [List.getElem?_map] at hP'
        cases e : xs[j]? with
        | none => rw [e] at hP'; cases hP'
        | some x2 => rw [e] at hP'; exact ⟨x2, rfl, (Option.some.inj hP').symm⟩
      have hS2 := hk2 S _ (by simpa using Ne.symm hIS') hS
      have keep2 : ∀ b o, s.heap.get? b = some o → h2.get? b = some o := fun b o e => hk2 b o (by simpa using (hIS b o e).1) (hk b o e)
      have cnd : ∀ {i x}, xs[i]? = some x → Cand h2 x (d i) i (v i) := fun e => by
        obtain ⟨t1, t2, t3, q⟩ := hc _ _ e
        exact ⟨t1, t2, t3, q.keeps keep2⟩
      show wpAny _ A.in1 (tryCatch (holding [.ref x2, .ref x2] (richCompare .Lt (.ref x2) (.ref x) >>= _)) _ >>= _) _ _ _
      refine wpAny_bind (wpAny_tryCatch (wpAny_holding (wpAny_bind (cand_lt hu (cnd hx2) (cnd hx) (fun _ => by omega) ?_))))
      have eb : (if d j = d i then decide ((j : Int) < (i : Int)) else decide (d j < d i)) = decide (d j < d i) := by
        by_cases e : d j = d i
        · rw [if_pos e, e]
          have : ¬ ((j : Int) < (i : Int)) := by omega
          simp [this]
        · rw [if_neg e]
      rw [eb]
      refine wpAny_bind (wpAny_holding (wpAny_truthy_bool ?_))
      refine wpAny_bind (wpAny_letGo (wpAny_pure ?_))
      by_cases hb' : d j < d i
      · simp only [hb', decide_true, if_true]
        refine wpAny_bind (wpAny_updateSeq hS2 rfl (wpAny_bind (wpAny_letGo ?_)))
        rw [hname]
        refine wpAny_pure ⟨plainId_quiet PySem.F.plain_min_loop _, ih (j + 1) j x2 _ _ _ (by omega) (by omega) hlt' (hst2.1.at fun o e => ?_) (fun b o e => ?_) hx2 (Nat.lt_succ_self _) (fun j' hj' => ?_) (Heap.get?_update_self _ hS2 rfl)⟩
        · exact (Heap.get?_update_other _ _ (Ne.symm hIS')).trans e
        · exact (Heap.get?_update_other _ _ (Ne.symm (hIS b o e).2)).trans (keep2 b o e)
        · by_cases e : j' = j
          · subst e
            exact ⟨Int.le_refl _, fun q => absurd q (Nat.lt_irrefl _)⟩
          · have b1 := hb j' (by omega)
            exact ⟨by omega, fun _ => by omega⟩
      · simp only [hb', decide_false, Bool.false_eq_true, if_false]
        refine wpAny_bind (wpAny_letGo ?_)
        rw [hname]
        refine wpAny_pure ⟨plainId_quiet PySem.F.plain_min_loop _, ih (j + 1) i x _ _ c (by omega) (by omega) hlt' hst2.1 keep2 hx (by omega) (fun j' hj' => ?_) hS2⟩
        by_cases e : j' = j
        · subst e
          exact ⟨by omega, fun q => by omega⟩
        · exact hb j' (by omega)
  have hls : l < s.heap.objs.size := by
    obtain ⟨o, ho, _⟩ := hl
    exact Heap.lt_size ho
  refine call_function_tree PySem.F.kind_min PySem.F.plain_min PySem.F.entry_min (PySem.F.args_min1 _) ?_
  show wpAny _ A.in1 (Builtin.Builtins.bindParams "min" ["key", "default"] 0 ⟨[], []⟩ >>= _) _ _ s
  refine wpAny_bind (wpAny_of_eq (show Builtin.Builtins.bindParams "min" ["key", "default"] 0 ⟨[], []⟩ = pure [none, none] from rfl) ?_)
  refine wpAny_bind (wpAny_pure ?_)
  refine wpAny_bind (wpAny_pyIter_list hl ?_)
  refine wpAny_bind (wpAny_newObj_type ?_)
  rw [hname]
  have hS0 : (s.heap.push { cls := .type "list_iterator", data := .fields #[.ref l, .int 0 0] }).objs.size = s.heap.objs.size + 1 := size_push' ..
  generalize hI : s.heap.objs.size = I at *
  generalize hS : (s.heap.push { cls := .type "list_iterator", data := .fields #[.ref l, .int 0 0] }).objs.size = S at *
  have hIS' : I ≠ S := by rw [hS0]; exact Nat.ne_of_lt (Nat.lt_succ_self _)
  have hIS : ∀ b o, s.heap.get? b = some o → b ≠ I ∧ b ≠ S := fun b o e => by
    have := Heap.lt_size e
    rw [hI] at this
    exact ⟨Nat.ne_of_lt this, by rw [hS0]; exact Nat.ne_of_lt (Nat.lt_succ_of_lt this)⟩
  have W := Walks.list (prog := prog) (w := w) (A := A.in1) hh I l (Nat.ne_of_lt hls) (xs.map Value.ref).toArray
  have hz : (xs.map Value.ref).toArray.size = xs.length := by simp
  have kp : ∀ b o, s.heap.get? b = some o → ((s.heap.push { cls := .type "list_iterator", data := .fields #[.ref l, .int 0 0] }).push { cls := .type "list", data := .seq #[] }).get? b = some o := fun b o e => Heap.get?_push_of_some _ (Heap.get?_push_of_some _ e)
  refine wpAny_pure ⟨plainId_quiet PySem.F.plain_min_loop _, ?_⟩
  refine codeAny_builtin PySem.F.entry_min_loop ?_
  rw [Around.under_plainId PySem.F.plain_min_loop _]
  have gS : ((s.heap.push { cls := .type "list_iterator", data := .fields #[.ref l, .int 0 0] }).push { cls := .type "list", data := .seq #[] }).get? S = some { cls := .type "list", data := .seq #[] } := hS ▸ Heap.get?_push_size _ rfl
  have gI : ((s.heap.push { cls := .type "list_iterator", data := .fields #[.ref l, .int 0 0] }).push { cls := .type "list", data := .seq #[] }).get? I = some { cls := .type "list_iterator", data := .fields #[.ref l, .int 0 0] } := Heap.get?_push_of_some _ (hI ▸ Heap.get?_push_size _ rfl)
  show wpAny _ A.in1 (seqItems? (.ref S) >>= _) _ _ _
  refine wpAny_bind (wpAny_seqItems gS rfl ?_)
  show wpAny _ A.in1 (tryCatch (pyNext (.ref I)) _ >>= _) _ _ _
  refine wpAny_bind (wpAny_tryCatch (W.item 0 _ _ _ (by rw [hz]; exact hne) ⟨⟨_, gI, rfl, rfl⟩, hl.at fun o e => kp _ _ e⟩ fun y h2 tk2 hP hst2 hk2 => ?_))
  obtain ⟨x2, hx2, rfl⟩ : ∃ x2, xs[0]? = some x2 ∧ y = .ref x2 := by
    have hP' : (xs.map Value.ref)[0]? = some y := by simpa using hP
    rw [List.getElem?_map] at hP'
    cases e : xs[0]? with
    | none => rw [e] at hP'; cases hP'
    | some x2 => rw [e] at hP'; exact ⟨x2, rfl, (Option.some.inj hP').symm⟩
  have hS2 := hk2 S _ (by simpa using Ne.symm hIS') gS
  show wpAny _ A.in1 (updateSeq S (fun _ => #[.ref x2, .ref x2]) >>= _) _ _ _
  refine wpAny_bind (wpAny_updateSeq hS2 rfl ?_)
  rw [hname]
  refine wpAny_pure ⟨plainId_quiet PySem.F.plain_min_loop _, loop I S hIS hIS' _ 1 0 x2 _ _ _ rfl (by omega) hne (hst2.1.at fun o e => ?_) (fun b o e => ?_) hx2 (by omega) (fun j' hj' => ?_) (Heap.get?_update_self _ hS2 rfl)⟩
  · exact (Heap.get?_update_other _ _ (Ne.symm hIS')).trans e
  · exact (Heap.get?_update_other _ _ (Ne.symm (hIS b o e).2)).trans (hk2 b o (by simpa using (hIS b o e).1) (kp b o e))
  · have : j' = 0 := by omega
    subst this
    exact ⟨Int.le_refl _, fun q => absurd q (Nat.lt_irrefl _)⟩
end
end Mine

namespace Mine
theorem fresh_Nea : True := by
  w_top off
  k_with_none
  trivial
end Mine

namespace Mine
theorem n_min {prog : Program} {w : World} {A : Around} {E : Value → Shared → Prop} {s : Shared} {h₀ : Heap} {L : Addr} {m : PySem.Str → Option Value} {news : List (Addr × Obj)}
    {l x y z : Addr} {c : Nat} {d1 d2 d3 v1 v2 v3 : Int} {t1 t2 t3 u1 u2 u3 w1 w2 w3 : Tok} {Q : Value → Shared → Prop} (hh : A.in1.handled = none) (hu : A.in1.units < cLine) (F : Fr h₀ L s.heap m)
    (N : News h₀ L s.heap ((l, W.listOf #[.ref x, .ref y, .ref z] c) :: (z, { cls := .type "tuple", data := .seq #[.int d3 t3, .int 2 u3, .int v3 w3] }) :: (y, { cls := .type "tuple", data := .seq #[.int d2 t2, .int 1 u2, .int v2 w2] }) ::
      (x, { cls := .type "tuple", data := .seq #[.int d1 t1, .int 0 u1, .int v1 w1] }) :: news))
    (h1 : d1 ≤ d2 → d1 ≤ d3 → ∀ h' tk', Fr h₀ L h' m → News h₀ L h' ((x, { cls := .type "tuple", data := .seq #[.int d1 t1, .int 0 u1, .int v1 w1] }) :: news) → Q (.ref x) { s with heap := h', toks := tk' })
    (h2 : d2 < d1 → d2 ≤ d3 → ∀ h' tk', Fr h₀ L h' m → News h₀ L h' ((y, { cls := .type "tuple", data := .seq #[.int d2 t2, .int 1 u2, .int v2 w2] }) :: news) → Q (.ref y) { s with heap := h', toks := tk' })
    (h3 : d3 < d1 → d3 < d2 → ∀ h' tk', Fr h₀ L h' m → News h₀ L h' ((z, { cls := .type "tuple", data := .seq #[.int d3 t3, .int 2 u3, .int v3 w3] }) :: news) → Q (.ref z) { s with heap := h', toks := tk' }) :
    wpAny (model prog w) A (call (.builtin "min") [.ref l]) Q E s := by
  have nl := N _ (.head _)
  have nz := N _ (.tail _ (.head _))
  have ny := N _ (.tail _ (.tail _ (.head _)))
  have nx := N _ (.tail _ (.tail _ (.tail _ (.head _))))
  refine min_cands (xs := [x, y, z]) (d := fun i => [d1, d2, d3].getD i 0) (v := fun i => [v1, v2, v3].getD i 0) hh hu ⟨_, nl.1, rfl, _, rfl⟩ (by simp) (fun i a hi => ?_) fun i a h' tk' hi hb hk => ?_
  · match i with
    | 0 => obtain rfl := Option.some.inj hi; exact ⟨_, _, _, _, nx.1, rfl, _, rfl⟩
    | 1 => obtain rfl := Option.some.inj hi; exact ⟨_, _, _, _, ny.1, rfl, _, rfl⟩
    | 2 => obtain rfl := Option.some.inj hi; exact ⟨_, _, _, _, nz.1, rfl, _, rfl⟩
    | i + 3 => exact absurd hi (by simp)
  · have F' := F.kept hk
    have N' := N.grown hk
    have b0 := hb 0 (by simp)
    have b1 := hb 1 (by simp)
    have b2 := hb 2 (by simp)
    match i with
    | 0 =>
      obtain rfl := Option.some.inj hi
      exact h1 b1.1 b2.1 h' tk' F' (kst_newsOf N' (by intro p hp; simp only [List.mem_cons] at hp ⊢; rcases hp with hp | hp <;> simp only [hp, true_or, or_true]))
    | 1 =>
      obtain rfl := Option.some.inj hi
      exact h2 (b0.2 (by decide)) b2.1 h' tk' F' (kst_newsOf N' (by intro p hp; simp only [List.mem_cons] at hp ⊢; rcases hp with hp | hp <;> simp only [hp, true_or, or_true]))
    | 2 =>
      obtain rfl := Option.some.inj hi
      exact h3 (b0.2 (by decide)) (b1.2 (by decide)) h' tk' F' (kst_newsOf N' (by intro p hp; simp only [List.mem_cons] at hp ⊢; rcases hp with hp | hp <;> simp only [hp, true_or, or_true]))
    | i + 3 => exact absurd hi (by simp)

local macro_rules | `(tactic| walk_at "call builtin:min") => `(tactic| (k_here; (refine n_min ?k0 ?k1 (by assumption) (by assumption) ?_ ?_ ?_; (case k0 => with_unfolding_all rfl); (case k1 => (with_unfolding_all show _ + _ < _); omega); all_goals intro h8 h9 h' tk' F' N')))

theorem nearest_tells (w : World) (loose : List PySem.Str) (mean : ExcName → Option Value) (mg mb : PySem.Str → Option Value)
    (dp un : Nat) (gd : Option (List Code)) (cn : PySem.Str) (cs : Scope) (a : Addr) (ccd : Value) (cl : List (PySem.Str × Addr)) (outer : List Env) (A₀ : Around) (base h₀ : Heap) (L : Addr) (m : PySem.Str → Option Value) (news : List (Addr × Obj)) (s : Shared)
    (Q E : Value → Shared → Prop) (x y z : Int) (t1 t2 t3 : Tok)
    (B : Below A₀ base outer h₀) (F : Fr h₀ L s.heap m) (X : (hd.heap_39 w.params).In h₀) (N : News h₀ L s.heap news) (T : Top hd.view_39 loose mean mg mb h₀) (hk : cs.kind = .function)
    (hdp : dp + 1 < recursionLimit) (hun : un + 8 < cLine)
    (hret : ∀ t h' tk', Fr h₀ L h' m → News h₀ L h' news → Q (.int (nearer x y z) t) { s with heap := h', toks := tk' }) :
    wpAny (model PySem.Challenge.rw_bf5022_01.row.prog w) (ktrTop dp un gd cn cs L a ccd cl outer) (call (.ref 42) [.int x t1, .int y t2, .int z t3]) Q E s := by
  revert X
  k_fill
  intro X
  refine wpAny_call ?_
  k_dflt cell_enter
  k_steps
  refine n_min ?k0 ?k1 (by assumption) (by assumption) ?_ ?_ ?_
  case k0 => with_unfolding_all rfl
  case k1 =>
    simp only [ktrTop, Around.deeper, Around.in1]
    omega
  all_goals intro h8 h9 h' tk' F' N'
  all_goals k_steps
  all_goals (rename News _ _ _ _ => N9; rename Fr _ _ _ _ => F9)
  · have e : nearer x y z = x := by unfold nearer; rw [if_pos ⟨h8, h9⟩]
    have H := hret
    rw [e] at H
    exact H _ _ _ F9 (kst_newsOf N9 fun p hp => .tail _ hp)
  · have e : nearer x y z = y := by unfold nearer; rw [if_neg (fun q => absurd q.1 (by omega)), if_pos h9]
    have H := hret
    rw [e] at H
    exact H _ _ _ F9 (kst_newsOf N9 fun p hp => .tail _ hp)
  · have e : nearer x y z = z := by unfold nearer; rw [if_neg (fun q => absurd q.2 (by omega)), if_neg (by omega)]
    have H := hret
    rw [e] at H
    exact H _ _ _ F9 (kst_newsOf N9 fun p hp => .tail _ hp)
end Mine

namespace Mine

/-- a def with cells, called at the outset on a clear stack -/
theorem codeC_cells {prog : Program} {w : World} {A : Around} {R : Result → Shared → Prop} {s : Shared} {name : PySem.Str} {params : Arguments} {body : List Stmt} {scope : Scope}
    {pm cd doc dV kV : Value} {a : Addr} {o : Obj} {args : List Value} {binds : List (PySem.Str × Value)}
    (hroom : A.depth < recursionLimit) (ho : s.heap.get? a = some o) (hdata : o.data = .func { Calls.docDef name params body scope pm cd doc with defaults := dV, kwdefaults := kV }) (hlim : s.heap.NoLimit) (hcd : s.heap.CodeRec cd name)
    (hbind : bindArgs { Calls.docDef name params body scope pm cd doc with defaults := dV, kwdefaults := kV } ⟨args, []⟩ = pure binds)
    (hkind : ∀ x ∈ binds, scope.names.lookup x.1 = some .local ∨ (scope.names.lookup x.1 = some .cell ∧ ((cellsFrom (s.heap.objs.size + 1) scope.names []).lookup x.1).isSome = true))
    (hnd : ((cellsFrom 0 scope.names []).map (·.1)).Nodup)
    (h : ∀ h₁ tk cells, Fr s.heap s.heap.objs.size h₁ (bindL (envOfC name scope s.heap.objs.size a cd).kindOf binds fun _ => none) → News s.heap s.heap.objs.size h₁ cells →
      CellsAre (bindC (envOfC name scope s.heap.objs.size a cd).kindOf binds fun _ => none) (cellsFrom (s.heap.objs.size + 1) scope.names []) cells →
      wpC (model prog w) (A.deeper (envOfC name scope s.heap.objs.size a cd)) (execs body (envOfC name scope s.heap.objs.size a cd))
        (fun f s' => R (.ok (.ret (match f with | .ret v => v | _ => .none))) s') (fun _ _ => False) { s with heap := h₁, toks := tk })
    (hco : scope.isCoroutine = false := by rfl) (hgen : scope.isGenerator = false := by rfl) (hk : scope.kind = .function := by rfl) :
    codeC (model prog w) A (.call (.ref a) ⟨args, []⟩) R s := by
  refine codeC_call_function hroom ho hdata hco hgen rfl hcd ?_
  rw [hbind]
  refine wpAny_pure (wpAny_newFunctionEnv_cells hk hkind fun env he s' x => ?_)
  subst he
  refine ⟨hlim.keeps x.toInCall.keep, codeC_func ?_⟩
  obtain ⟨h₁, tk, rfl, _⟩ := x.done
  obtain ⟨cells, N, Y⟩ := Cl.news (h₀ := s.heap) (Nat.le_refl _) fun n c hm => ⟨x.cell n c (lookup_of_mem_nodup (cellsFrom_names scope.names 0 (s.heap.objs.size + 1) [] [] rfl ▸ hnd) hm), x.above n c hm⟩
  exact h h₁ tk cells ⟨x.toInCall.ns, x.toInCall.keep, x.toInCall.fresh⟩ N Y

theorem enterC {M : Model} {A : Around} {s : Shared} {f : Value} {pos : List Value} {c : ClaimW} {cl : PySem.Str → Option Addr} {mean : ExcName → Option Value} {args : List WData} {s₁ : Shared}
    (h : codeC M A (.call f ⟨pos, []⟩) (GoodWG c cl mean args s₁) s) : wpC M A (PySem.call f pos) (fun v s' => GoodWG c cl mean args s₁ (.ok (.ret v)) s') (fun e s' => GoodWG c cl mean args s₁ (.error e) s') s :=
  wpC_call (codeC_mono h fun res s' g => by rcases g.1 with ⟨v, _, _, rfl, _⟩ | ⟨e, _, _, rfl, _⟩ <;> exact g)

end Mine

namespace Mine
section
variable {prog : Program} {w : World} {A : Around} {s : Shared} {env : Env} {h₀ : Heap}

/-- what a turn of a for over a range leaves -/
def TurnR (h₀ : Heap) (L : Addr) (own : List (Addr × Obj)) (J : (PySem.Str → Option Value) → List (Addr × Obj) → Prop) (s : Shared) (f : Flow) (s₂ : Shared) : Prop :=
  f = .next ∧ ∃ h' tk m' nx, s₂ = { s with heap := h', toks := tk } ∧ Fr h₀ L h' m' ∧ News h₀ L h' (nx ++ own) ∧ (∀ p ∈ nx, ∀ q ∈ own, p.1 ≠ q.1) ∧ J m' nx

/-- for x in range(b), by a word over the frame and the ledger, on a clear stack -/
theorem forC_range {R : Result → Shared → Prop} {E : Value → Shared → Prop} {x : PySem.Str} {px : Pos} {body : List Stmt} {r : Addr} {b : Int} {t₀ u₀ v₀ : Tok} {n : Nat} {m : PySem.Str → Option Value} {news : List (Addr × Obj)}
    (hr : IsRange s.heap r 0 b 1 t₀ u₀ v₀) (hsmall : Builtin.Range.small 0 b 1 = true) (hn : Builtin.Range.rangeSize 0 b 1 = (n : Int)) (hh : A.handled = none)
    (hx : env.kindOf x = some .local) (hp : (env.scope.kind == .class || (env.scope.kind == .module && env.locals != env.globals)) = false)
    (F : Fr h₀ env.locals s.heap m) (N : News h₀ env.locals s.heap news)
    (J : Nat → (PySem.Str → Option Value) → List (Addr × Obj) → Prop) (h0 : J 0 m news)
    (step : ∀ i t m₁ nx h tk own, i < n → J i m₁ nx → (∀ p ∈ nx, ∀ q ∈ own, p.1 ≠ q.1) →
      Fr h₀ env.locals h (fun z => if z = x then some (.int (i : Int) t) else m₁ z) → News h₀ env.locals h (nx ++ own) →
      wpC (model prog w) A (execs body env) (TurnR h₀ env.locals own (J (i + 1)) { s with heap := h, toks := tk }) (fun _ _ => False) { s with heap := h, toks := tk })
    (hR : ∀ h' tk m' nx, Fr h₀ env.locals h' m' → News h₀ env.locals h' nx → J n m' nx → R (.ok .next) { s with heap := h', toks := tk }) :
    wpAny (model prog w) A (pyIter (.ref r)) (fun it s₂ => codeC (model prog w) A (.forLoop (.Name x px) it body [] env) R s₂) E s := by
  refine wpAny_pyIter_range hr hsmall ?_
  have W := Walks.range (prog := prog) (w := w) (A := A) hh s.heap.objs.size 0 1 n
  have hIL : s.heap.objs.size ≠ env.locals := Nat.ne_of_gt F.ns.lt
  have hI0 : h₀.get? s.heap.objs.size = none := F.fresh
  have hnI : ∀ p ∈ news, p.1 ≠ s.heap.objs.size := fun p hp => Nat.ne_of_lt (Heap.lt_size (N p hp).1)
  have F1 := F.push { cls := .type "range_iterator", data := .fields #[rawInt 0, rawInt (Builtin.Range.rangeSize 0 b 1), rawInt 1] }
  have N1 : News h₀ env.locals (s.heap.push { cls := .type "range_iterator", data := .fields #[rawInt 0, rawInt (Builtin.Range.rangeSize 0 b 1), rawInt 1] }) news := fun p hp => ⟨Heap.get?_push_of_some _ (N p hp).1, (N p hp).2⟩
  have hst : IsRangeIter (s.heap.push { cls := .type "range_iterator", data := .fields #[rawInt 0, rawInt (Builtin.Range.rangeSize 0 b 1), rawInt 1] }) s.heap.objs.size (0 + ((0 : Nat) : Int) * 1) ((n : Int) - ((0 : Nat) : Int)) 1 := by
    rw [hn]
    show Heap.get? _ _ = _
    simpa using Heap.get?_push_size _ rfl
  generalize s.heap.push { cls := .type "range_iterator", data := .fields #[rawInt 0, rawInt (Builtin.Range.rangeSize 0 b 1), rawInt 1] } = H1 at *
  generalize s.heap.objs.size = I at *
  refine codeC_forLoop
    (fun j s' => ∃ h' tk m' nx i, s' = { s with heap := h', toks := tk } ∧ IsRangeIter h' I (0 + (i : Nat) * 1) ((n : Int) - (i : Nat)) 1 ∧ Fr h₀ env.locals h' m' ∧ News h₀ env.locals h' nx ∧ (∀ p ∈ nx, p.1 ≠ I) ∧ J i m' nx ∧ i ≤ n ∧ j = n + 1 - i) ?_ (n + 1)
    ⟨H1, s.toks, m, news, 0, rfl, hst, F1, N1, hnI, h0, Nat.zero_le _, rfl⟩
  rintro j s' ⟨H, tk, m', nx, i, rfl, hst', F', N', ha', hJ, hi, rfl⟩
  have next : ∀ h₁ : Heap, (∀ b o, b ∉ [I] → H.get? b = some o → h₁.get? b = some o) → Fr h₀ env.locals h₁ m' ∧ News h₀ env.locals h₁ nx := fun h₁ hk₁ =>
    ⟨⟨F'.ns.at' fun o e => hk₁ _ o (fun q => hIL (List.mem_singleton.mp q).symm) e, fun b o e => hk₁ b o (fun q => by rw [List.mem_singleton.mp q, hI0] at e; cases e) (F'.keep b o e), F'.above⟩,
      fun p hp => ⟨hk₁ _ _ (fun q => ha' p hp (List.mem_singleton.mp q)) (N' p hp).1, (N' p hp).2⟩⟩
  by_cases hlt : i < n
  · refine W.item i _ _ _ hlt hst' fun v h₁ tk₁ hv hst₁ hk₁ => ?_
    obtain ⟨t, rfl⟩ := hv
    obtain ⟨F₁, N₁⟩ := next h₁ hk₁
    show wpAny _ A (letOwnedTupleGo (.Name x px) (.ref I) (.int (0 + (i : Int) * 1) t)) _ _ _
    refine wpAny_of_eq (show letOwnedTupleGo (.Name x px) (.ref I) (.int (0 + (i : Int) * 1) t) = pure () from rfl) ?_
    refine wpAny_assign_Name (wpAny_storeName_local hx F₁.ns (fun h₂ hn₂ hs₂ => ?_) hp)
    replace hs₂ : Heap.SameBut env.locals h₁ h₂ := hs₂
    have F₂ := F₁.set hn₂ hs₂
    have N₂ : News h₀ env.locals h₂ nx := N₁.set hs₂
    have e0 : (0 + (i : Int) * 1) = (i : Int) := by omega
    have gI : h₂.get? I = some _ := (hs₂.2 I hIL).trans hst₁
    rw [e0] at F₂
    refine wpC_mono (step i t m' nx h₂ _ [(I, _)] hlt hJ (fun p hp q hq => by rw [List.mem_singleton.mp hq]; exact ha' p hp) F₂ (N₂.append fun q hq => by rw [List.mem_singleton.mp hq]; exact ⟨gI, hIL, hI0⟩)) (fun f s₃ h₆ => ?_) fun _ _ e => e
    obtain ⟨rfl, h₆', tk₆, m₂, nx₂, rfl, F₆, N₆, ha₆, hJ₆⟩ := h₆
    have nI := N₆ (I, _) (List.mem_append_right _ (.head _))
    exact ⟨rfl, n + 1 - (i + 1), by omega, h₆', tk₆, m₂, nx₂, i + 1, rfl, nI.1, F₆, fun p hp => N₆ p (List.mem_append_left _ hp), fun p hp => ha₆ p hp _ (.head _), hJ₆, hlt, rfl⟩
  · have hin : i = n := by omega
    subst hin
    refine W.done _ _ _ hst' fun h₁ tk₁ hk₁ => ?_
    obtain ⟨F₁, N₁⟩ := next h₁ hk₁
    exact hR h₁ tk₁ m' nx F₁ N₁ hJ
end
end Mine

namespace Mine
section
variable {M : Model} {A : Around} {E : Value → Shared → Prop} {s : Shared} {env : Env}
theorem wp_execs_append {Γ : Ctx} {J : Shared → Prop} {Q : Flow → Pos → Shared → Prop} {E : Value → Pos → Shared → Prop} {l2 : List Stmt} (hJ : ∀ p s', J s' → Sem.wp M Γ (execs l2 env) Q E p s') :
    ∀ (l1 : List Stmt) (p : Pos) (s : Shared), Sem.wp M Γ (execs l1 env) (fun f _ s' => f = .next ∧ J s') E p s → Sem.wp M Γ (execs (l1 ++ l2) env) Q E p s
  | [], p, s, h => by
    have h' : Sem.wp M Γ (pure Flow.next) (fun f _ s' => f = .next ∧ J s') E p s := h
    rw [Sem.wp_pure'] at h'
    exact hJ p s h'.2
  | st :: r, p, s, h => by
    have h' : Sem.wp M Γ (do match ← exec st env with | .next => execs r env | f => pure f) (fun f _ s' => f = .next ∧ J s') E p s := h
    show Sem.wp M Γ (do match ← exec st env with | .next => execs (r ++ l2) env | f => pure f) Q E p s
    rw [Sem.wp_bind'] at h' ⊢
    refine Sem.wp_mono M Γ _ (fun f p' s' h2 => ?_) (fun _ _ _ e => e) p s h'
    cases f with
    | next => exact wp_execs_append hJ r p' s' h2
    | _ =>
      rw [Sem.wp_pure'] at h2
      exact absurd h2.1 (by simp)

theorem wpC_cut {l1 l2 : List Stmt} {Q : Flow → Shared → Prop} (J : Shared → Prop) (h1 : wpC M A (execs l1 env) (fun f s' => f = .next ∧ J s') E s) (h2 : ∀ s', J s' → wpC M A (execs l2 env) Q E s') :
    wpC M A (execs (l1 ++ l2) env) Q E s := fun Γ p hΓ hc => wp_execs_append (fun p' s' hj => h2 s' hj Γ p' hΓ hc) l1 p s (h1 Γ p hΓ hc)
theorem wpC_cut1 {a : Stmt} {rest : List Stmt} {Q : Flow → Shared → Prop} (J : Shared → Prop) (h1 : wpC M A (execs [a] env) (fun f s' => f = .next ∧ J s') E s) (h2 : ∀ s', J s' → wpC M A (execs rest env) Q E s') :
    wpC M A (execs (a :: rest) env) Q E s := wpC_cut (l1 := [a]) J h1 h2
theorem wpC_cut3 {a b c : Stmt} {rest : List Stmt} {Q : Flow → Shared → Prop} (J : Shared → Prop) (h1 : wpC M A (execs [a, b, c] env) (fun f s' => f = .next ∧ J s') E s) (h2 : ∀ s', J s' → wpC M A (execs rest env) Q E s') :
    wpC M A (execs (a :: b :: c :: rest) env) Q E s := wpC_cut (l1 := [a, b, c]) J h1 h2
end

/-- the law's cells stand over the frame -/
structure Cells4 (L : Addr) (o4 o3 o2 o1 : Obj) (r : Option Value) (wd u : Int) (aC : Addr) : Prop where
  raised : o4.data = .cell r
  wide : ∃ t, o3.data = .cell (some (.int wd t))
  unit : ∃ t, o2.data = .cell (some (.int u t))
  cells : o1.data = .cell (some (.ref aC))
abbrev led4 (L : Addr) (o4 o3 o2 o1 : Obj) : List (Addr × Obj) := [(L + 1 + 1 + 1 + 1, o4), (L + 1 + 1 + 1, o3), (L + 1 + 1, o2), (L + 1, o1)]

/-- after the third statement -/
def St1 (h₀ : Heap) (L : Addr) (s : Shared) (s' : Shared) : Prop :=
  ∃ (h' : Heap) (tk : Nat) (aC aP aW aL : Addr) (cv : List Value) (cs : List Int) (o4 o3 o2 o1 : Obj) (u wd hi : Int) (th : Tok) (uu : PySem.Str → Option Value), s' = { s with heap := h', toks := tk } ∧
    Fr h₀ L h' (fun y => if y = PySem.Str.ofString "picture" then some (.ref aP) else if y = PySem.Str.ofString "ways" then some (.ref aW) else if y = PySem.Str.ofString "lines" then some (.ref aL) else if y = PySem.Str.ofString "high" then some (.int hi th) else uu y) ∧
    News h₀ L h' ((aP, listOf #[] 0) :: (aW, listOf #[] 0) :: (aL, listOf #[] 0) :: (aC, listOf cv.toArray 0) :: led4 L o4 o3 o2 o1) ∧ Cells4 L o4 o3 o2 o1 none wd u aC ∧
    IntsAre cv cs ∧ 3 ≤ cs.length ∧ cs.length ≤ 64 ∧ 1 ≤ u ∧ u ≤ 4 ∧ 1 ≤ wd ∧ wd ≤ 4 ∧ 1 ≤ hi ∧ hi ≤ 4 ∧ L + 1 + 1 + 1 + 1 < aC ∧ aC < aP ∧ aP < aW ∧ aW < aL
end Mine

namespace Mine
theorem map4 {m : PySem.Str → Option Value} {x1 x2 x3 x4 : PySem.Str} {v1 v2 v3 v4 : Value} (h1 : m x1 = some v1) (h2 : m x2 = some v2) (h3 : m x3 = some v3) (h4 : m x4 = some v4) :
    ∃ uu : PySem.Str → Option Value, m = fun z => if z = x1 then some v1 else if z = x2 then some v2 else if z = x3 then some v3 else if z = x4 then some v4 else uu z := by
  refine ⟨m, funext fun z => ?_⟩
  by_cases e1 : z = x1
  · rw [if_pos e1, e1, h1]
  · rw [if_neg e1]
    by_cases e2 : z = x2
    · rw [if_pos e2, e2, h2]
    · rw [if_neg e2]
      by_cases e3 : z = x3
      · rw [if_pos e3, e3, h3]
      · rw [if_neg e3]
        by_cases e4 : z = x4
        · rw [if_pos e4, e4, h4]
        · rw [if_neg e4]

/-- the frame's lasting names -/
structure Names4 (m : PySem.Str → Option Value) (aP aW aL : Addr) (hi : Int) (th : Tok) : Prop where
  p : m (PySem.Str.ofString "picture") = some (.ref aP)
  w : m (PySem.Str.ofString "ways") = some (.ref aW)
  l : m (PySem.Str.ofString "lines") = some (.ref aL)
  h : m (PySem.Str.ofString "high") = some (.int hi th)

/-- rows of ints, each of n, each within bounds -/
structure RowsOk (rows : List Row) (n : Nat) (b : Int) : Prop where
  all : ∀ r ∈ rows, IntsAre r.vs r.ns ∧ r.ns.length = n ∧ ∀ x ∈ r.ns, 0 ≤ x ∧ x < b

/-- an int that the comprehension lays down -/
def ElI (news : List (Addr × Obj)) (P : Int → Prop) (y : Value) (news' : List (Addr × Obj)) : Prop := news' = news ∧ ∃ v t, y = .int v t ∧ P v

section
variable {prog : Program} {w : World} {A : Around} {h₀ : Heap} {L : Addr} {m : PySem.Str → Option Value} {env : Env} {elt : PySem.Expr} {x : PySem.Str} {scope : Scope} {cl : List (PySem.Str × Addr)} {s : Shared} {S : List (Addr × Obj) → Prop} {Pv : Nat → Value → Prop} {Fin : List Value → List (Addr × Obj) → Prop} {news : List (Addr × Obj)}
/-- a comprehension's turns, by a word over each item -/
theorem comp_ints {n : Nat} (P : Nat → Int → Prop)
    (turn : ∀ i v I oI C oC D m₂ ys h tk (E' : Value → Shared → Prop), i < n → Pv i v → LCg.NsObj oC m₂ → m₂ x = some v → Fr h₀ L h m → News h₀ L h ((I, oI) :: (C, oC) :: (D, LCg.lst ys) :: news) → LCg.Off3 I C D news → ((@Ne Nat I C) ∧ (@Ne Nat I D) ∧ (@Ne Nat C D)) →
      wpAny (model prog w) A (eval elt (compEnvC scope cl C env)) (LCg.CompEnd h₀ L m { s with heap := h, toks := tk } I oI C oC D (LCg.lst ys) S (fun y news' => ElI news (P i) y news')) E' { s with heap := h, toks := tk })
    (fin : ∀ ys ns, IntsAre ys ns → ns.length = n → (∀ i x, ns[i]? = some x → P i x) → Fin ys news) : LCg.CompRest prog w A h₀ L m env elt x scope cl s S Pv Fin n 0 [] news := by
  have key : ∀ (j i : Nat) (ys : List Value) (ns : List Int), i + j = n → IntsAre ys ns → ns.length = i → (∀ k x, ns[k]? = some x → P k x) → LCg.CompRest prog w A h₀ L m env elt x scope cl s S Pv Fin j i ys news := by
    intro j
    induction j with
    | zero =>
      intro i ys ns hi hy hl hp
      exact LCg.CompRest.zero (fin ys ns hy (by omega) hp)
    | succ j ih =>
      intro i ys ns hi hy hl hp
      refine LCg.CompRest.succ ?_
      intro v I oI C oC D m₂ h tk E' hv hC hx F N off ne
      refine wpAny_mono (turn i v I oI C oC D m₂ ys h tk E' (by omega) hv hC hx F N off ne) (fun y s₂ hq => ?_) fun _ _ e => e
      obtain ⟨h', tk', nw, e, F', N', off', hS, hn, k, t', hy', hk⟩ := hq
      rw [hn] at N' off' hS
      refine ⟨h', tk', news, e, F', N', off', hS, ?_⟩
      rw [hy']
      refine ih (i + 1) _ (ns ++ [k]) (by omega) (IntsAre.append hy (.cons k t' .nil)) (by rw [List.length_append, hl]; rfl) fun k' x hx' => ?_
      by_cases e : k' < ns.length
      · rw [List.getElem?_append_left e] at hx'
        exact hp k' x hx'
      · have e2 : k' = ns.length := by
          have := (List.getElem?_eq_some_iff.mp hx').1
          rw [List.length_append, List.length_singleton] at this
          omega
        rw [e2, List.getElem?_append_right (Nat.le_refl _), Nat.sub_self] at hx'
        have e3 : k = x := Option.some.inj hx'
        rw [e2, hl, ← e3]
        exact hk
  exact key n 0 [] [] (by omega) .nil rfl fun k x hx => by simp at hx
end

/-- the addresses that the law's own things stand at -/
abbrev adr8 (L aP aW aL aC : Addr) : List Addr := [aP, aW, aL, aC, L + 1 + 1 + 1 + 1, L + 1 + 1 + 1, L + 1 + 1, L + 1]
theorem off1_mem {D : Addr} : ∀ {l : List (Addr × Obj)}, LCg.Off1 D l → ∀ p ∈ l, p.1 ≠ D
  | [], _, _, h => nomatch h
  | _ :: _, x, p, h => by
    rcases List.mem_cons.mp h with rfl | h
    · exact x.1
    · exact off1_mem x.2 p h
/-- after the picture -/
def St2 (h₀ : Heap) (L : Addr) (s : Shared) (s' : Shared) : Prop :=
  ∃ (h' : Heap) (tk : Nat) (aC aP aW aL : Addr) (cv : List Value) (cs : List Int) (o4 o3 o2 o1 : Obj) (u wd hi : Int) (n : Nat) (th : Tok) (m : PySem.Str → Option Value) (pics : List Row) (cP : Nat), s' = { s with heap := h', toks := tk } ∧
    Fr h₀ L h' m ∧ Names4 m aP aW aL hi th ∧
    News h₀ L h' ((aP, listOf (pics.map Row.ref).toArray cP) :: (aW, listOf #[] 0) :: (aL, listOf #[] 0) :: (aC, listOf cv.toArray 0) :: (led4 L o4 o3 o2 o1 ++ pics.map Row.ent)) ∧ Cells4 L o4 o3 o2 o1 none wd u aC ∧
    IntsAre cv cs ∧ 3 ≤ cs.length ∧ cs.length ≤ 64 ∧ 1 ≤ u ∧ u ≤ 4 ∧ 1 ≤ wd ∧ wd ≤ 4 ∧ 1 ≤ hi ∧ hi ≤ 4 ∧ L + 1 + 1 + 1 + 1 < aC ∧ aC < aP ∧ aP < aW ∧ aW < aL ∧ (n : Int) = wd * u ∧ n ≤ 16 ∧ RowsOk pics n 156 ∧ (pics.length : Int) = hi ∧ ∀ r ∈ pics, r.a ∉ adr8 L aP aW aL aC

/-- the word between the turns of the picture's loop -/
def PicJ (L aC aP aW aL : Addr) (cv : List Value) (o4 o3 o2 o1 : Obj) (n : Nat) (hi : Int) (th : Tok) (i : Nat) (m : PySem.Str → Option Value) (nx : List (Addr × Obj)) : Prop :=
  ∃ (pics : List Row) (cP : Nat), nx = (aP, listOf (pics.map Row.ref).toArray cP) :: (aW, listOf #[] 0) :: (aL, listOf #[] 0) :: (aC, listOf cv.toArray 0) :: (led4 L o4 o3 o2 o1 ++ pics.map Row.ent) ∧
    Names4 m aP aW aL hi th ∧ RowsOk pics n 156 ∧ pics.length = i ∧ ∀ r ∈ pics, r.a ∉ adr8 L aP aW aL aC
end Mine
namespace Mine
theorem prod_bd {i wd u : Int} (h0 : 0 ≤ i) (h1 : i ≤ 4) (w0 : 1 ≤ wd) (w1 : wd ≤ 4) (u0 : 1 ≤ u) (u1 : u ≤ 4) : 0 ≤ i * wd * u ∧ i * wd * u ≤ 64 := by
  have a : wd = 1 ∨ wd = 2 ∨ wd = 3 ∨ wd = 4 := by omega
  have b : u = 1 ∨ u = 2 ∨ u = 3 ∨ u = 4 := by omega
  rcases a with rfl | rfl | rfl | rfl <;> rcases b with rfl | rfl | rfl | rfl <;> omega
theorem prod_bd2 {wd u : Int} (w0 : 1 ≤ wd) (w1 : wd ≤ 4) (u0 : 1 ≤ u) (u1 : u ≤ 4) : u ≤ wd * u ∧ wd * u ≤ 16 := by
  have a : wd = 1 ∨ wd = 2 ∨ wd = 3 ∨ wd = 4 := by omega
  have b : u = 1 ∨ u = 2 ∨ u = 3 ∨ u = 4 := by omega
  rcases a with rfl | rfl | rfl | rfl <;> rcases b with rfl | rfl | rfl | rfl <;> omega
theorem span_eq (i wd u : Int) : 3 + (i + 1) * wd * u - (3 + i * wd * u) = wd * u := by
  rw [Int.add_mul, Int.add_mul, Int.one_mul]; omega
end Mine
namespace Mine
theorem n_app {prog : Program} {w : World} {A : Around} {E : Value → Shared → Prop} {s : Shared} {h₀ : Heap} {L D : Addr} {m : PySem.Str → Option Value} {its : Array Value} {n : Nat} {x : Value} {rest : List (Addr × Obj)} {Q : Value → Shared → Prop}
    (F : Fr h₀ L s.heap m) (N : News h₀ L s.heap ((D, listOf its n) :: rest)) (hr : ∀ p ∈ rest, p.1 ≠ D) (hsz : its.size ≤ sizeLine)
    (h : ∀ h', Fr h₀ L h' m → News h₀ L h' ((D, listOf (its.push x) (n + 1)) :: rest) → Q .none { s with heap := h' }) : wpAny (model prog w) A (call (.builtin "list.append") [.ref D, x]) Q E s :=
  append_K F N (.head hr) h hsz
theorem push_ref (rows : List Row) (r : Row) : (rows.map Row.ref).toArray.push (.ref r.a) = ((rows ++ [r]).map Row.ref).toArray := by simp
theorem led_perm {α : Type} {a b : α} {l : List α} : ∀ p ∈ b :: a :: l, p ∈ a :: b :: l := fun p hp => by
  simp only [List.mem_cons] at hp ⊢
  rcases hp with h | h | h
  · exact .inr (.inl h)
  · exact .inl h
  · exact .inr (.inr h)
end Mine
namespace Mine
/-- after the raised list -/
def St3 (h₀ : Heap) (L : Addr) (s : Shared) (s' : Shared) : Prop :=
  ∃ (h' : Heap) (tk : Nat) (aC aP aW aL aR : Addr) (cv rv : List Value) (cs rs : List Int) (o4 o3 o2 o1 : Obj) (u wd hi : Int) (n : Nat) (th : Tok) (m : PySem.Str → Option Value) (pics : List Row) (cP cR : Nat), s' = { s with heap := h', toks := tk } ∧
    Fr h₀ L h' m ∧ Names4 m aP aW aL hi th ∧
    News h₀ L h' ((aP, listOf (pics.map Row.ref).toArray cP) :: (aW, listOf #[] 0) :: (aL, listOf #[] 0) :: (aC, listOf cv.toArray 0) :: (aR, listOf rv.toArray cR) :: (led4 L o4 o3 o2 o1 ++ pics.map Row.ent)) ∧ Cells4 L o4 o3 o2 o1 (some (.ref aR)) wd u aC ∧
    IntsAre cv cs ∧ 3 ≤ cs.length ∧ cs.length ≤ 64 ∧ 1 ≤ u ∧ u ≤ 4 ∧ 1 ≤ wd ∧ wd ≤ 4 ∧ 1 ≤ hi ∧ hi ≤ 4 ∧ L + 1 + 1 + 1 + 1 < aC ∧ aC < aP ∧ aP < aW ∧ aW < aL ∧ (n : Int) = wd * u ∧ n ≤ 16 ∧ RowsOk pics n 156 ∧ (pics.length : Int) = hi ∧ (∀ r ∈ pics, r.a ∉ adr8 L aP aW aL aC) ∧
    IntsAre rv rs ∧ (rs.length : Int) = u ∧ (∀ x ∈ rs, 0 ≤ x ∧ x < 101) ∧ aR ∉ adr8 L aP aW aL aC
end Mine
namespace Mine
theorem pow101 (k : Nat) : ¬ ((101 : Int) ^ k = 0) := by
  induction k with
  | zero => decide
  | succ k ih => rw [Int.pow_succ]; omega
end Mine

namespace Mine
/-- what the law guesses from the neighbours -/
def guessAt (P : List (List Int)) (u : Nat) (way : Int) (y k : Nat) : Int :=
  if way = 1 then (if u ≤ k then (P.getD y []).getD (k - u) 0 else 0)
  else if way = 2 then (if 0 < y then (P.getD (y - 1) []).getD k 0 else 0)
  else nearer (if u ≤ k then (P.getD y []).getD (k - u) 0 else 0) (if 0 < y then (P.getD (y - 1) []).getD k 0 else 0) (if 0 < y ∧ u ≤ k then (P.getD (y - 1) []).getD (k - u) 0 else 0)
def cellAt (P : List (List Int)) (u : Nat) (way : Int) (y k : Nat) : Int := ((P.getD y []).getD k 0 - guessAt P u way y k).fmod 256
def lineAt (P : List (List Int)) (u : Nat) (way : Int) (y n : Nat) : List Int := (List.range n).map (cellAt P u way y)

/-- the ways: the first is 1 or 4, the others 2 or 4 -/
structure WaysOk (Ws : List Int) : Prop where
  first : ∀ w, Ws[0]? = some w → w = 1 ∨ w = 4
  rest : ∀ y w, 0 < y → Ws[y]? = some w → w = 2 ∨ w = 4

/-- after the residues -/
def St4 (h₀ : Heap) (L : Addr) (s : Shared) (s' : Shared) : Prop :=
  ∃ (h' : Heap) (tk : Nat) (aC aP aW aL aR : Addr) (rv wv : List Value) (rs Ws : List Int) (o4 o3 o2 o1 : Obj) (u wd hi : Int) (n : Nat) (th : Tok) (m : PySem.Str → Option Value) (pics lins : List Row) (cP cR cW cL : Nat), s' = { s with heap := h', toks := tk } ∧
    Fr h₀ L h' m ∧ Names4 m aP aW aL hi th ∧
    News h₀ L h' ((aP, listOf (pics.map Row.ref).toArray cP) :: (aW, listOf wv.toArray cW) :: (aL, listOf (lins.map Row.ref).toArray cL) :: (aR, listOf rv.toArray cR) :: (led4 L o4 o3 o2 o1 ++ pics.map Row.ent ++ lins.map Row.ent)) ∧ Cells4 L o4 o3 o2 o1 (some (.ref aR)) wd u aC ∧
    1 ≤ u ∧ u ≤ 4 ∧ 1 ≤ wd ∧ wd ≤ 4 ∧ 1 ≤ hi ∧ hi ≤ 4 ∧ (n : Int) = wd * u ∧ n ≤ 16 ∧ RowsOk pics n 156 ∧ (pics.length : Int) = hi ∧ 
    IntsAre rv rs ∧ (rs.length : Int) = u ∧ (∀ x ∈ rs, 0 ≤ x ∧ x < 101) ∧ IntsAre wv Ws ∧ WaysOk Ws ∧ (Ws.length : Int) = hi ∧ (lins.length : Int) = hi ∧
    (∀ r ∈ lins, IntsAre r.vs r.ns) ∧ (∀ y r w, lins[y]? = some r → Ws[y]? = some w → r.ns = lineAt (pics.map Row.ns) u.toNat w y n) ∧
    (∀ r ∈ lins, r.a ∉ aR :: adr8 L aP aW aL aC ∧ r.a ∉ pics.map Row.a) ∧ (lins.map Row.a).Nodup

section
variable {prog : Program} {w : World} {A : Around} {E : Value → Shared → Prop} {s : Shared} {h₀ : Heap} {L : Addr} {m : PySem.Str → Option Value} {news : List (Addr × Obj)}
/-- an item of a list of ints that the ledger bears -/
theorem n_iitem {value slice : PySem.Expr} {l : Addr} {us : List Value} {ns : List Int} {c : Nat} {k : Int} {t : Tok} {Q : Value → Shared → Prop} (N : News h₀ L s.heap news) (hm : (l, listOf us.toArray c) ∈ news) (hi : IntsAre us ns)
    (h0 : 0 ≤ k) (hk : k < ns.length) (hz : ns.length ≤ 64) (h : ∀ t, Q (.int (ns.getD k.toNat 0) t) s)
    (hs : subscripted slice false (.ref l) (.int k t) = operate [.ref l, .int k t] (getItem (.ref l) (.int k t)) := by with_unfolding_all rfl) :
    wpAny (model prog w) A (subscriptTail value slice (.ref l) (.int k t)) Q E s := by
  have e : ns[k.toNat]? = some (ns.getD k.toNat 0) := by
    have : k.toNat < ns.length := by omega
    rw [List.getD_eq_getElem?_getD, List.getElem?_eq_getElem this]; rfl
  obtain ⟨t, ht⟩ := hi.get _ _ e
  exact n_litem N hm h0 (by omega) ht (h t) hs

/-- a name of the frame set to an int, and nothing else -/
def Set1 (h₀ : Heap) (L : Addr) (m : PySem.Str → Option Value) (led : List (Addr × Obj)) (x : PySem.Str) (v : Int) (s : Shared) (f : Flow) (s' : Shared) : Prop :=
  f = .next ∧ ∃ h' tk t, s' = { s with heap := h', toks := tk } ∧ Fr h₀ L h' (fun z => if z = x then some (.int v t) else m z) ∧ News h₀ L h' led
end

/-- the word between the turns over the lines -/
def OutJ (L aC aP aW aL aR : Addr) (cv rv : List Value) (o4 o3 o2 o1 : Obj) (u : Nat) (n : Nat) (hi : Int) (th : Tok) (pics : List Row) (cP cR : Nat) (i : Nat) (m : PySem.Str → Option Value) (nx : List (Addr × Obj)) : Prop :=
  ∃ (wv : List Value) (Ws : List Int) (lins : List Row) (cW cL : Nat), nx = (aP, listOf (pics.map Row.ref).toArray cP) :: (aW, listOf wv.toArray cW) :: (aL, listOf (lins.map Row.ref).toArray cL) :: (aC, listOf cv.toArray 0) :: (aR, listOf rv.toArray cR) :: (led4 L o4 o3 o2 o1 ++ pics.map Row.ent ++ lins.map Row.ent) ∧
    Names4 m aP aW aL hi th ∧ IntsAre wv Ws ∧ WaysOk Ws ∧ Ws.length = i ∧ lins.length = i ∧ (∀ r ∈ lins, IntsAre r.vs r.ns) ∧ (∀ y r w, lins[y]? = some r → Ws[y]? = some w → r.ns = lineAt (pics.map Row.ns) u w y n) ∧
    (∀ r ∈ lins, r.a ∉ aR :: adr8 L aP aW aL aC ∧ r.a ∉ pics.map Row.a) ∧ (lins.map Row.a).Nodup
/-- the word between the turns along a line -/
def InJ (aP aW aL : Addr) (hi : Int) (th : Tok) (y : Nat) (ty : Tok) (D : Addr) (rest : List (Addr × Obj)) (f : Nat → Int) (i : Nat) (m : PySem.Str → Option Value) (nx : List (Addr × Obj)) : Prop :=
  ∃ (vs : List Value) (c : Nat), nx = (D, listOf vs.toArray c) :: rest ∧ Names4 m aP aW aL hi th ∧ m (PySem.Str.ofString "y") = some (.int y ty) ∧ IntsAre vs ((List.range i).map f)
end Mine
namespace Mine
/-- one more way -/
def MidW (h₀ : Heap) (L : Addr) (m : PySem.Str → Option Value) (aW : Addr) (wv : List Value) (rest : List (Addr × Obj)) (i : Nat) (s : Shared) (f : Flow) (s' : Shared) : Prop :=
  f = .next ∧ ∃ h' tk w t c, s' = { s with heap := h', toks := tk } ∧ Fr h₀ L h' m ∧ News h₀ L h' ((aW, listOf (wv ++ [Value.int w t]).toArray c) :: rest) ∧ (i = 0 → w = 1 ∨ w = 4) ∧ (0 < i → w = 2 ∨ w = 4)
end Mine
namespace Mine
theorem pick2 (a b x : Int) : [a, b].getD (x.fmod 2).toNat 0 = a ∨ [a, b].getD (x.fmod 2).toNat 0 = b := by
  have h0 := fmod_lo x (n := 2) (by decide)
  have h1 := fmod_hi x (n := 2) (by decide)
  have e : x.fmod 2 = 0 ∨ x.fmod 2 = 1 := by omega
  rcases e with e | e <;> rw [e]
  · exact .inl rfl
  · exact .inr rfl
theorem push_int (wv : List Value) (v : Value) : wv.toArray.push v = (wv ++ [v]).toArray := by simp
theorem tail8 {α : Type} {x : α} {l : List α} : ∀ p ∈ l, p ∈ x :: l := fun _ h => .tail _ h
end Mine
namespace Mine
theorem map5 {m : PySem.Str → Option Value} {x1 x2 x3 x4 x5 : PySem.Str} {v1 v2 v3 v4 v5 : Value} (h1 : m x1 = some v1) (h2 : m x2 = some v2) (h3 : m x3 = some v3) (h4 : m x4 = some v4) (h5 : m x5 = some v5) :
    ∃ uu : PySem.Str → Option Value, m = fun z => if z = x1 then some v1 else if z = x2 then some v2 else if z = x3 then some v3 else if z = x4 then some v4 else if z = x5 then some v5 else uu z := by
  refine ⟨m, funext fun z => ?_⟩
  by_cases e1 : z = x1
  · rw [if_pos e1, e1, h1]
  · rw [if_neg e1]
    by_cases e2 : z = x2
    · rw [if_pos e2, e2, h2]
    · rw [if_neg e2]
      by_cases e3 : z = x3
      · rw [if_pos e3, e3, h3]
      · rw [if_neg e3]
        by_cases e4 : z = x4
        · rw [if_pos e4, e4, h4]
        · rw [if_neg e4]
          by_cases e5 : z = x5
          · rw [if_pos e5, e5, h5]
          · rw [if_neg e5]
end Mine
namespace Mine
/-- a statement of several ways that sets one name to one int -/
theorem join_one {M : Model} {A : Around} {env : Env} {E : Value → Shared → Prop} {s : Shared} {h₀ : Heap} {L : Addr} {m : PySem.Str → Option Value} {led : List (Addr × Obj)} {st : Stmt} {rest : List Stmt} {Q : Flow → Shared → Prop} (x : PySem.Str) (v : Int)
    (F : Fr h₀ L s.heap m) (N : News h₀ L s.heap led) (h1 : wpAny M A (exec st env) (Set1 h₀ L m led x v s) E s)
    (h2 : ∀ h' tk t, Fr h₀ L h' (fun z => if z = x then some (.int v t) else m z) → News h₀ L h' led → wpC M A (execs rest env) Q E { s with heap := h', toks := tk }) : wpC M A (execs (st :: rest) env) Q E s := by
  refine wpC_execs_any (wpAny_mono h1 (fun f s' hs => ?_) fun _ _ e => e)
  obtain ⟨rfl, h', tk, t, rfl, F', N'⟩ := hs
  exact h2 h' tk t F' N'
end Mine
namespace Mine
theorem set1_of {h₀ : Heap} {L : Addr} {m : PySem.Str → Option Value} {led : List (Addr × Obj)} {x : PySem.Str} {v v' : Int} {s : Shared} {h' : Heap} {tk : Nat} {t : Tok} (e : v = v')
    (F : Fr h₀ L h' (fun z => if z = x then some (.int v' t) else m z)) (N : News h₀ L h' led) : Set1 h₀ L m led x v s .next { s with heap := h', toks := tk } := by
  subst e
  exact ⟨rfl, h', tk, t, rfl, F, N⟩
theorem left_hi {r : List Int} {u : Int} {k : Nat} (u1 : 1 ≤ u) (h : u ≤ (k : Int)) : (if u.toNat ≤ k then r.getD (k - u.toNat) 0 else 0) = r.getD ((k : Int) - u).toNat 0 := by
  rw [if_pos (by omega), show ((k : Int) - u).toNat = k - u.toNat by omega]
theorem left_lo {r : List Int} {u : Int} {k : Nat} (u1 : 1 ≤ u) (h : ¬ u ≤ (k : Int)) : (if u.toNat ≤ k then r.getD (k - u.toNat) 0 else 0) = 0 := by
  rw [if_neg (by omega)]
theorem up_hi {r : List Int} {i k : Nat} (h : 0 < (i : Int)) : (if 0 < i then r.getD k 0 else 0) = r.getD ((k : Int)).toNat 0 := by
  rw [if_pos (by omega), Int.toNat_natCast]
theorem up_lo {r : List Int} {i k : Nat} (h : ¬ 0 < (i : Int)) : (if 0 < i then r.getD k 0 else 0) = 0 := by
  rw [if_neg (by omega)]
theorem cor_hi {r : List Int} {u : Int} {i k : Nat} (u1 : 1 ≤ u) (h0 : 0 < (i : Int)) (h : u ≤ (k : Int)) : (if 0 < i ∧ u.toNat ≤ k then r.getD (k - u.toNat) 0 else 0) = r.getD ((k : Int) - u).toNat 0 := by
  rw [if_pos ⟨by omega, by omega⟩, show ((k : Int) - u).toNat = k - u.toNat by omega]
theorem cor_lo1 {r : List Int} {u : Int} {i k : Nat} (h0 : ¬ 0 < (i : Int)) : (if 0 < i ∧ u.toNat ≤ k then r.getD (k - u.toNat) 0 else 0) = 0 := by
  rw [if_neg (fun h => by omega)]
theorem cor_lo2 {r : List Int} {u : Int} {i k : Nat} (u1 : 1 ≤ u) (h0 : ¬ u ≤ (k : Int)) : (if 0 < i ∧ u.toNat ≤ k then r.getD (k - u.toNat) 0 else 0) = 0 := by
  rw [if_neg (fun h => by omega)]
end Mine
namespace Mine
theorem way_at {Ws : List Int} {w : Int} {i : Nat} (h : Ws.length = i) : (Ws ++ [w]).getD ((i : Int)).toNat 0 = w := by
  rw [Int.toNat_natCast, List.getD_eq_getElem?_getD, ← h, List.getElem?_append_right (Nat.le_refl _), Nat.sub_self]; rfl
theorem cell_at {pics : List Row} {r0 r1 : Row} {u : Nat} {w : Int} {i k : Nat} (h0 : pics[i]? = some r0) (h1 : pics[i - 1]? = some r1) :
    cellAt (pics.map Row.ns) u w i k = (r0.ns.getD ((k : Int)).toNat 0 - (if w = 1 then (if u ≤ k then r0.ns.getD (k - u) 0 else 0) else if w = 2 then (if 0 < i then r1.ns.getD k 0 else 0) else nearer (if u ≤ k then r0.ns.getD (k - u) 0 else 0) (if 0 < i then r1.ns.getD k 0 else 0) (if 0 < i ∧ u ≤ k then r1.ns.getD (k - u) 0 else 0))).fmod 256 := by
  have e0 : (pics.map Row.ns).getD i [] = r0.ns := by rw [List.getD_eq_getElem?_getD, List.getElem?_map, h0]; rfl
  have e1 : (pics.map Row.ns).getD (i - 1) [] = r1.ns := by rw [List.getD_eq_getElem?_getD, List.getElem?_map, h1]; rfl
  unfold cellAt guessAt
  rw [e0, e1, Int.toNat_natCast]
theorem ways_snoc {Ws : List Int} {w : Int} {i : Nat} (h : WaysOk Ws) (l : Ws.length = i) (h0 : i = 0 → w = 1 ∨ w = 4) (h1 : 0 < i → w = 2 ∨ w = 4) : WaysOk (Ws ++ [w]) := by
  constructor
  · intro v hv
    by_cases e : Ws = []
    · subst e
      have e2 : w = v := Option.some.inj hv
      exact e2 ▸ h0 l.symm
    · have : 0 < Ws.length := by cases Ws with | nil => exact absurd rfl e | cons _ _ => exact Nat.succ_pos _
      rw [List.getElem?_append_left this] at hv
      exact h.first v hv
  · intro y v hy hv
    by_cases e : y < Ws.length
    · rw [List.getElem?_append_left e] at hv
      exact h.rest y v hy hv
    · have e2 : y = Ws.length := by
        have := (List.getElem?_eq_some_iff.mp hv).1
        rw [List.length_append, List.length_singleton] at this
        omega
      rw [e2, List.getElem?_append_right (Nat.le_refl _), Nat.sub_self] at hv
      have e3 : w = v := Option.some.inj hv
      exact e3 ▸ h1 (by omega)
end Mine

namespace Mine
/-- the first line raised, up to the place k -/
def raise0 (rs X : List Int) : Nat → List Int
  | 0 => X
  | k + 1 => (raise0 rs X k).set k (((raise0 rs X k).getD k 0 + rs.getD k 0).fmod 256)
theorem raise0_length (rs X : List Int) : ∀ k, (raise0 rs X k).length = X.length
  | 0 => rfl
  | k + 1 => by rw [raise0, List.length_set, raise0_length rs X k]

/-- after the first line's raise -/
def St5 (h₀ : Heap) (L : Addr) (s : Shared) (s' : Shared) : Prop :=
  ∃ (h' : Heap) (tk : Nat) (aC aP aW aL aR : Addr) (rv wv : List Value) (rs Ws : List Int) (o4 o3 o2 o1 : Obj) (u wd hi : Int) (n : Nat) (th : Tok) (m : PySem.Str → Option Value) (pics lins : List Row) (cP cR cW cL : Nat), s' = { s with heap := h', toks := tk } ∧
    Fr h₀ L h' m ∧ Names4 m aP aW aL hi th ∧
    News h₀ L h' ((aP, listOf (pics.map Row.ref).toArray cP) :: (aW, listOf wv.toArray cW) :: (aL, listOf (lins.map Row.ref).toArray cL) :: (aR, listOf rv.toArray cR) :: (led4 L o4 o3 o2 o1 ++ pics.map Row.ent ++ lins.map Row.ent)) ∧ Cells4 L o4 o3 o2 o1 (some (.ref aR)) wd u aC ∧
    1 ≤ u ∧ u ≤ 4 ∧ 1 ≤ wd ∧ wd ≤ 4 ∧ 1 ≤ hi ∧ hi ≤ 4 ∧ (n : Int) = wd * u ∧ n ≤ 16 ∧ RowsOk pics n 156 ∧ (pics.length : Int) = hi ∧ 
    IntsAre rv rs ∧ (rs.length : Int) = u ∧ (∀ x ∈ rs, 0 ≤ x ∧ x < 101) ∧ IntsAre wv Ws ∧ WaysOk Ws ∧ (Ws.length : Int) = hi ∧ (lins.length : Int) = hi ∧
    (∀ r ∈ lins, IntsAre r.vs r.ns) ∧ (∀ r w, lins[0]? = some r → Ws[0]? = some w → r.ns = raise0 rs (lineAt (pics.map Row.ns) u.toNat w 0 n) u.toNat) ∧ (∀ y r w, 0 < y → lins[y]? = some r → Ws[y]? = some w → r.ns = lineAt (pics.map Row.ns) u.toNat w y n)

/-- the word between the turns of the raise -/
def RaJ (aP aW aL : Addr) (hi : Int) (th : Tok) (D : Addr) (rest : List (Addr × Obj)) (rs X : List Int) (i : Nat) (m : PySem.Str → Option Value) (nx : List (Addr × Obj)) : Prop :=
  ∃ (vs : List Value) (c : Nat), nx = (D, listOf vs.toArray c) :: rest ∧ Names4 m aP aW aL hi th ∧ IntsAre vs (raise0 rs X i)
end Mine
namespace Mine
theorem lineAt_octets {P : List (List Int)} {u : Nat} {w : Int} {y n : Nat} : Octets (lineAt P u w y n) := fun x hx => by
  obtain ⟨k, _, rfl⟩ := List.mem_map.mp hx
  exact ⟨fmod_lo _ (n := 256) (by decide), fmod_hi _ (n := 256) (by decide)⟩
theorem lineAt_length {P : List (List Int)} {u : Nat} {w : Int} {y n : Nat} : (lineAt P u w y n).length = n := by rw [lineAt, List.length_map, List.length_range]
theorem raise0_octets {rs X : List Int} (h : Octets X) : ∀ k, Octets (raise0 rs X k)
  | 0 => h
  | k + 1 => octets_set (raise0_octets h k) (fmod_lo _ (n := 256) (by decide)) (fmod_hi _ (n := 256) (by decide))
end Mine
namespace Mine
theorem ints_dat {led : List (Addr × Obj)} : ∀ {vs : List Value} {ns : List Int}, IntsAre vs ns → DatAll led vs (ns.map Dat.int)
  | _, _, .nil => .nil
  | _, _, .cons i t h => .cons (.int i t) (ints_dat h)
theorem rows_dat {led : List (Addr × Obj)} : ∀ {rows : List Row}, (∀ r ∈ rows, r.ent ∈ led) → (∀ r ∈ rows, IntsAre r.vs r.ns) → DatAll led (rows.map Row.ref) ((rows.map Row.ns).map fun l => Dat.list (l.map Dat.int))
  | [], _, _ => .nil
  | r :: rs, h, hi => .cons (.list (h r (.head _)) (ints_dat (hi r (.head _)))) (rows_dat (fun x hx => h x (.tail _ hx)) fun x hx => hi x (.tail _ hx))
theorem rows_ok {ls : List (List Int)} : ∀ d ∈ ls.map fun l => Dat.list (l.map Dat.int), kqdOk 8 d = true := fun d hd => by
  obtain ⟨l, _, rfl⟩ := List.mem_map.mp hd
  simp only [kqdOk, List.all_map]
  exact List.all_eq_true.mpr fun x _ => rfl
theorem fmod_nat {j : Nat} {u : Int} (h : 1 ≤ u) : ((0 + (j : Int)).fmod u).toNat = j % u.toNat := by
  rw [Int.zero_add, Int.fmod_eq_emod_of_nonneg _ (by omega)]
  obtain ⟨m, rfl⟩ : ∃ m : Nat, u = m := ⟨u.toNat, by omega⟩
  rw [show ((j : Int) % (m : Int)) = ((j % m : Nat) : Int) from (Int.natCast_emod j m).symm, Int.toNat_natCast, Int.toNat_natCast]
end Mine

namespace Mine
section
variable {a b c d e f w x y z : Addr × Obj} {P O M : List (Addr × Obj)} {rows : List Row} {r : Row}
theorem led_S2 : ∀ p ∈ a :: b :: c :: d :: ([w, x, y, z] ++ (rows ++ [r]).map Row.ent) ++ O, p ∈ a :: r.ent :: b :: c :: d :: w :: x :: y :: z :: (rows.map Row.ent ++ O) := by
  intro p hp
  simp only [List.mem_append, List.mem_cons, List.map_append, List.map_cons, List.map_nil, List.not_mem_nil, or_false] at hp ⊢
  repeat' (with_reducible refine Or.elim hp (fun hp => ?_) (fun hp => ?_))
  all_goals simp only [hp, true_or, or_true]
theorem off_S2 {a' : Addr × Obj} (h : ∀ p ∈ a' :: b :: c :: d :: ([w, x, y, z] ++ rows.map Row.ent), ∀ q ∈ O, p.1 ≠ q.1) (ha : a'.1 = a.1) (hr : ∀ q ∈ O, r.a ≠ q.1) :
    ∀ p ∈ a :: b :: c :: d :: ([w, x, y, z] ++ (rows ++ [r]).map Row.ent), ∀ q ∈ O, p.1 ≠ q.1 := by
  intro p hp q hq
  simp only [List.mem_append, List.mem_cons, List.map_append, List.map_cons, List.map_nil, List.not_mem_nil, or_false] at hp
  repeat' (with_reducible refine Or.elim hp (fun hp => ?_) (fun hp => ?_))
  all_goals first
    | (rw [hp]; exact hr q hq)
    | (rw [hp, ← ha]; exact h _ (.head _) q hq)
    | exact h p (by simp only [List.mem_append, List.mem_cons, hp, true_or, or_true]) q hq
theorem led_S3 : ∀ p ∈ a :: b :: c :: d :: e :: ([w, x, y, z] ++ P), p ∈ e :: a :: b :: c :: d :: w :: x :: y :: z :: P := by
  intro p hp
  simp only [List.mem_append, List.mem_cons, List.not_mem_nil, or_false] at hp ⊢
  repeat' (with_reducible refine Or.elim hp (fun hp => ?_) (fun hp => ?_))
  all_goals simp only [hp, true_or, or_true]
theorem led_S4 : ∀ p ∈ a :: b :: c :: d :: e :: ([w, x, y, z] ++ P ++ (rows ++ [r]).map Row.ent) ++ O, p ∈ r.ent :: c :: b :: a :: d :: e :: w :: x :: y :: z :: (P ++ rows.map Row.ent ++ O) := by
  intro p hp
  simp only [List.mem_append, List.mem_cons, List.map_append, List.map_cons, List.map_nil, List.not_mem_nil, or_false] at hp ⊢
  repeat' (with_reducible refine Or.elim hp (fun hp => ?_) (fun hp => ?_))
  all_goals simp only [hp, true_or, or_true]
theorem off_S4 {b' c' : Addr × Obj} (h : ∀ p ∈ a :: b' :: c' :: d :: e :: ([w, x, y, z] ++ P ++ rows.map Row.ent), ∀ q ∈ O, p.1 ≠ q.1) (hb : b'.1 = b.1) (hc : c'.1 = c.1) (hr : ∀ q ∈ O, r.a ≠ q.1) :
    ∀ p ∈ a :: b :: c :: d :: e :: ([w, x, y, z] ++ P ++ (rows ++ [r]).map Row.ent), ∀ q ∈ O, p.1 ≠ q.1 := by
  intro p hp q hq
  simp only [List.mem_append, List.mem_cons, List.map_append, List.map_cons, List.map_nil, List.not_mem_nil, or_false] at hp
  repeat' (with_reducible refine Or.elim hp (fun hp => ?_) (fun hp => ?_))
  all_goals first
    | (rw [hp]; exact hr q hq)
    | (rw [hp, ← hb]; exact h _ (.tail _ (.head _)) q hq)
    | (rw [hp, ← hc]; exact h _ (.tail _ (.tail _ (.head _))) q hq)
    | exact h p (by simp only [List.mem_append, List.mem_cons, hp, true_or, or_true]) q hq
theorem led_S4b : ∀ p ∈ a :: b :: c :: e :: M, p ∈ a :: b :: c :: d :: e :: M := by
  intro p hp
  simp only [List.mem_cons] at hp ⊢
  rcases hp with hp | hp | hp | hp | hp <;> simp only [hp, true_or, or_true]
theorem led_S4c : ∀ p ∈ c :: a :: b :: d :: M, p ∈ a :: b :: d :: c :: M := by
  intro p hp
  simp only [List.mem_cons] at hp ⊢
  rcases hp with hp | hp | hp | hp | hp <;> simp only [hp, true_or, or_true]
theorem led_S4d : ∀ p ∈ b :: a :: c :: d :: e :: ([w, x, y, z] ++ P ++ M ++ O), p ∈ (a :: b :: c :: d :: e :: ([w, x, y, z] ++ P ++ M)) ++ O := by
  intro p hp
  simp only [List.mem_append, List.mem_cons, List.not_mem_nil, or_false] at hp ⊢
  repeat' (with_reducible refine Or.elim hp (fun hp => ?_) (fun hp => ?_))
  all_goals simp only [hp, true_or, or_true]
theorem led_S4e : ∀ p ∈ a :: b :: c :: d :: e :: ([w, x, y, z] ++ P ++ ([] : List Row).map Row.ent), p ∈ a :: b :: c :: d :: e :: ([w, x, y, z] ++ P) := by
  intro p hp
  rwa [List.map_nil, List.append_nil] at hp
theorem led_S5 : ∀ p ∈ r.ent :: a :: b :: c :: d :: w :: x :: y :: z :: (P ++ rows.map Row.ent), p ∈ a :: b :: c :: d :: w :: x :: y :: z :: (P ++ (r :: rows).map Row.ent) := by
  intro p hp
  simp only [List.mem_append, List.mem_cons, List.map_cons] at hp ⊢
  rcases hp with hp | hp | hp | hp | hp | hp | hp | hp | hp | hp | hp <;> simp only [hp, true_or, or_true]
theorem led_S5b : ∀ p ∈ a :: b :: c :: d :: ([w, x, y, z] ++ P ++ (r :: rows).map Row.ent), p ∈ r.ent :: a :: b :: c :: d :: w :: x :: y :: z :: (P ++ rows.map Row.ent) := by
  intro p hp
  simp only [List.mem_append, List.mem_cons, List.map_cons, List.not_mem_nil, or_false] at hp ⊢
  repeat' (with_reducible refine Or.elim hp (fun hp => ?_) (fun hp => ?_))
  all_goals simp only [hp, true_or, or_true]
theorem off8 {t : Addr} (h1 : a.1 ≠ t) (h2 : b.1 ≠ t) (h3 : c.1 ≠ t) (h4 : d.1 ≠ t) (h5 : w.1 ≠ t) (h6 : x.1 ≠ t) (h7 : y.1 ≠ t) (h8 : z.1 ≠ t) (hR : ∀ p ∈ P, p.1 ≠ t) : ∀ p ∈ a :: b :: c :: d :: w :: x :: y :: z :: P, p.1 ≠ t :=
  List.forall_mem_cons.mpr ⟨h1, List.forall_mem_cons.mpr ⟨h2, List.forall_mem_cons.mpr ⟨h3, List.forall_mem_cons.mpr ⟨h4, List.forall_mem_cons.mpr ⟨h5, List.forall_mem_cons.mpr ⟨h6, List.forall_mem_cons.mpr ⟨h7, List.forall_mem_cons.mpr ⟨h8, hR⟩⟩⟩⟩⟩⟩⟩⟩
end
end Mine
namespace Mine
theorem led_S1 {a b c d w x y z t1 t2 t3 t4 t5 t6 : Addr × Obj} : ∀ p ∈ a :: b :: c :: d :: [w, x, y, z], p ∈ t1 :: c :: b :: a :: t2 :: d :: t3 :: t4 :: t5 :: t6 :: [w, x, y, z] := by
  intro p hp
  simp only [List.mem_cons, List.not_mem_nil, or_false] at hp ⊢
  rcases hp with hp | hp | hp | hp | hp | hp | hp | hp <;> simp only [hp, true_or, or_true]
end Mine

namespace Mine
theorem fresh_CompC : True := by
  w_top off
  k_with_none
  trivial
end Mine

namespace Mine
section
variable {prog : Program} {w : World} {A : Around} {E : Value → Shared → Prop} {s : Shared} {h₀ : Heap} {L : Addr} {m : PySem.Str → Option Value} {env : Env} {news : List (Addr × Obj)}

/-- [a list of ints for x in a list], x being closed over by the elements -/
theorem comp_rows {elt iter : PySem.Expr} {x : PySem.Str} {px : Pos} {scope : Scope} {cl : List (PySem.Str × Addr)} {pos : Pos} {Q : Value → Shared → Prop} {ax : Addr} {its : Array Value} {cax : Nat} (P : Nat → List Int → Prop)
    (hh : A.handled = none) (hclos : closureFor scope env = pure cl) (hkind : scope.kind = .function) (hnames : ∀ y ∈ scope.names, y.2 = .local → scope.names.lookup y.1 = some .local)
    (hone : ∀ n, cellsFrom n scope.names cl = (x, n) :: cl) (hpush : ∀ h : Heap, pushCells h scope.names = h.push { cls := .type "cell", data := .cell none }) (hkx : ∀ C c, (compEnvC scope ((x, c) :: cl) C env).kindOf x = some .cell)
    (F : Fr h₀ L s.heap m) (N : News h₀ L s.heap news) (hm : (ax, listOf its cax) ∈ news) (hsz : its.size ≤ sizeLine)
    (hiter : wpAny (model prog w) A (eval iter env) (fun v s' => v = .ref ax ∧ s' = s) E s)
    (turn : ∀ i v C oC c oc D I oI (rows : List Row) h tk (E' : Value → Shared → Prop), its[i]? = some v → rows.length = i → oc.data = .cell (some v) → Fr h₀ L h m →
      News h₀ L h ((I, oI) :: (C, oC) :: (c, oc) :: (D, LCg.lst (rows.map Row.ref)) :: (rows.map Row.ent ++ news)) →
      wpAny (model prog w) A (eval elt (compEnvC scope ((x, c) :: cl) C env)) (fun y s' => ∃ (r : Row) (h' : Heap) (tk' : Nat), y = Row.ref r ∧ s' = { s with heap := h', toks := tk' } ∧ Fr h₀ L h' m ∧
        News h₀ L h' (r.ent :: (I, oI) :: (C, oC) :: (c, oc) :: (D, LCg.lst (rows.map Row.ref)) :: (rows.map Row.ent ++ news)) ∧
        (∀ p ∈ (I, oI) :: (C, oC) :: (c, oc) :: (D, LCg.lst (rows.map Row.ref)) :: (rows.map Row.ent ++ news), p.1 ≠ r.a) ∧ P i r.ns ∧ IntsAre r.vs r.ns) E' { s with heap := h, toks := tk })
    (fin : ∀ D (rows : List Row) h tk, rows.length = its.size → (∀ i r, rows[i]? = some r → P i r.ns) → (∀ r ∈ rows, IntsAre r.vs r.ns) → Fr h₀ L h m →
      News h₀ L h ((D, LCg.lst (rows.map Row.ref)) :: (rows.map Row.ent ++ news)) → Q (.ref D) { s with heap := h, toks := tk })
    (hs : ∀ x, foldedSetIterable iter env x = pure x := by intro _; rfl) :
    wpAny (model prog w) A (eval (.ListComp elt [⟨.Name x px, iter, [], 0⟩] scope pos) env) Q E s := by
  have hl : s.heap.IsList ax its := ⟨_, (N _ hm).1, rfl, cax, rfl⟩
  have haxlt : ax < s.heap.objs.size := Heap.lt_size (N _ hm).1
  have lo : ∀ p ∈ news, p.1 < s.heap.objs.size := fun p hp => Heap.lt_size (N p hp).1
  have f0 : ∀ a, s.heap.objs.size ≤ a → h₀.get? a = none := fun a ha => Heap.get?_none_of_le (Nat.le_trans F.above (Nat.le_trans (Nat.le_of_lt F.ns.lt) ha))
  have LI : L < s.heap.objs.size := F.ns.lt
  have key : ∀ (I D C c : Addr) (H : Heap) (oC : Obj), H.IsListIter I ax 0 → H.get? D = some (LCg.lst []) → H.get? C = some oC → H.Ns C (fun _ => none) → H.get? c = some { cls := .type "cell", data := .cell none } →
      (∀ b o, s.heap.get? b = some o → H.get? b = some o) → s.heap.objs.size ≤ I → I < D → D < C → C < c →
      codeAny (model prog w) A (.compStart (.ListComp elt [⟨.Name x px, iter, [], 0⟩] scope pos) 0 (.ref I) (.ref D) (compEnvC scope ((x, c) :: cl) C env)) (compPost (model prog w) A E none Q (.ref D) C) { s with heap := H } := by
    intro I D C c H oC hI hD hC hNs hc keep q0 q1 q2 q3
    have bI : ∀ a, a < s.heap.objs.size → a ≠ I ∧ a ≠ D ∧ a ≠ C ∧ a ≠ c := fun a ha => by
      have := ltN ha; have := ltN q1; have := ltN q2; have := ltN q3
      have q0' : (s.heap.objs.size : Nat) ≤ I := q0
      exact ⟨neN (by omega), neN (by omega), neN (by omega), neN (by omega)⟩
    have sI : s.heap.objs.size ≤ I := q0
    have sD : s.heap.objs.size ≤ D := Nat.le_trans q0 (Nat.le_of_lt q1)
    have sC : s.heap.objs.size ≤ C := Nat.le_trans sD (Nat.le_of_lt q2)
    have sc : s.heap.objs.size ≤ c := Nat.le_trans sC (Nat.le_of_lt q3)
    have IL : I ≠ L := (bI L LI).1.symm
    have DL : D ≠ L := (bI L LI).2.1.symm
    have CL : C ≠ L := (bI L LI).2.2.1.symm
    have cL : c ≠ L := (bI L LI).2.2.2.symm
    have ID : I ≠ D := Nat.ne_of_lt q1
    have IC : I ≠ C := Nat.ne_of_lt (Nat.lt_trans q1 q2)
    have Ic : I ≠ c := Nat.ne_of_lt (Nat.lt_trans q1 (Nat.lt_trans q2 q3))
    have DC : D ≠ C := Nat.ne_of_lt q2
    have Dc : D ≠ c := Nat.ne_of_lt (Nat.lt_trans q2 q3)
    have Cc : C ≠ c := Nat.ne_of_lt q3
    have W := Walks.list (prog := prog) (w := w) (A := A) hh I ax (bI ax haxlt).1 its
    have loop : codeAny (model prog w) A (.compLoop (.ListComp elt [⟨.Name x px, iter, [], 0⟩] scope pos) 0 (.ref I) (.ref D) (compEnvC scope ((x, c) :: cl) C env)) (compPost (model prog w) A E none Q (.ref D) C) { s with heap := H } := by
      refine codeAny_compLoop_tests
        (fun k s' => ∃ (h' : Heap) (tk i : Nat) (rows : List Row) (oc : Obj) (v0 : Option Value), s' = { s with heap := h', toks := tk } ∧ i ≤ its.size ∧ k = its.size + 1 - i ∧ rows.length = i ∧ h'.IsListIter I ax i ∧ Fr h₀ L h' m ∧
          News h₀ L h' ((C, oC) :: (c, oc) :: (D, LCg.lst (rows.map Row.ref)) :: (rows.map Row.ent ++ news)) ∧ oc.data = .cell v0 ∧ (∀ p ∈ rows.map Row.ent ++ news, p.1 ≠ I ∧ p.1 ≠ C ∧ p.1 ≠ c ∧ p.1 ≠ D) ∧
          (∀ j r, rows[j]? = some r → P j r.ns) ∧ (∀ r ∈ rows, IntsAre r.vs r.ns)) ?_ (its.size + 1)
        ⟨H, s.toks, 0, [], { cls := .type "cell", data := .cell none }, none, rfl, Nat.zero_le _, rfl, rfl, hI, F.keeps keep, fun p hp => ?_, rfl, fun p hp => ?_, fun j r hr => by simp at hr, fun r hr => nomatch hr⟩
      · rintro k s' ⟨h', tk, i, rows, oc, v0, rfl, hi, rfl, hlen, hit, F', N', hd, off, hP, hints⟩
        have gax : (ax, listOf its cax) ∈ rows.map Row.ent ++ news := List.mem_append.mpr (.inr hm)
        have lst' : h'.IsList ax its := ⟨_, (N' _ (.tail _ (.tail _ (.tail _ gax)))).1, rfl, cax, rfl⟩
        by_cases hlt : i < its.size
        · refine W.item i _ _ _ hlt ⟨hit, lst'⟩ fun v h₂ tk₂ hPv hst₂ hk₂ => ?_
          have keep2 : ∀ p ∈ (C, oC) :: (c, oc) :: (D, LCg.lst (rows.map Row.ref)) :: (rows.map Row.ent ++ news), p.1 ∉ [I] := fun p hp hq => by
            have e := List.mem_singleton.mp hq
            simp only [List.mem_cons] at hp
            rcases hp with rfl | rfl | rfl | hp
            · exact IC e.symm
            · exact Ic e.symm
            · exact ID e.symm
            · exact (off p hp).1 e
          have N₂ : News h₀ L h₂ ((C, oC) :: (c, oc) :: (D, LCg.lst (rows.map Row.ref)) :: (rows.map Row.ent ++ news)) := fun p hp => ⟨hk₂ _ _ (keep2 p hp) (N' p hp).1, (N' p hp).2⟩
          have F₂ : Fr h₀ L h₂ m := ⟨F'.ns.at' fun o e => hk₂ _ o (by simpa using IL.symm) e, fun b o e => hk₂ b o (fun hb => by rw [List.mem_singleton.mp hb, f0 I sI] at e; cases e) (F'.keep b o e), F'.above⟩
          refine wpAny_assign_Name (wpAny_storeName_cell (show (compEnvC scope ((x, c) :: cl) C env).scope.kind = .function from hkind) (hkx C c) (c := c) (by show List.lookup x ((x, c) :: cl) = some c; simp [List.lookup_cons]) ⟨oc, (N₂ (c, oc) (.tail _ (.head _))).1, hd⟩ fun h₃ hv₃ hs₃ => ?_)
          replace hs₃ : Heap.SameBut c h₂ h₃ := hs₃
          obtain ⟨oc', hoc', hdc'⟩ := hv₃
          refine wpAny_tests_nil ?_
          simp only [if_true]
          have F₃ := F₂.change hs₃ cL (f0 c sc)
          have offc : ∀ p ∈ (D, LCg.lst (rows.map Row.ref)) :: (rows.map Row.ent ++ news), p.1 ≠ c := fun p hp => by
            rcases List.mem_cons.mp hp with rfl | hp
            · exact Dc
            · exact (off p hp).2.2.1
          have N₃ : News h₀ L h₃ ((C, oC) :: (c, oc') :: (D, LCg.lst (rows.map Row.ref)) :: (rows.map Row.ent ++ news)) := fun p hp => by
            rcases List.mem_cons.mp hp with rfl | hp
            · exact ⟨(hs₃.2 _ Cc).trans (N₂ _ (.head _)).1, (N₂ _ (.head _)).2⟩
            · rcases List.mem_cons.mp hp with rfl | hp
              · exact ⟨hoc', cL, f0 c sc⟩
              · exact ⟨(hs₃.2 _ (offc p hp)).trans (N₂ p (.tail _ (.tail _ hp))).1, (N₂ p (.tail _ (.tail _ hp))).2⟩
          obtain ⟨⟨oI, hoI, hIc, hId⟩, _⟩ := hst₂
          have gI3 : h₃.get? I = some oI := (hs₃.2 _ Ic).trans hoI
          have N₄ : News h₀ L h₃ ((I, oI) :: (C, oC) :: (c, oc') :: (D, LCg.lst (rows.map Row.ref)) :: (rows.map Row.ent ++ news)) := fun p hp => by
            rcases List.mem_cons.mp hp with rfl | hp
            · exact ⟨gI3, IL, f0 I sI⟩
            · exact N₃ p hp
          refine wpAny_mono (turn i v C oC c oc' D I oI rows h₃ tk₂ _ hPv hlen hdc' F₃ N₄) (fun y s₄ h₄ => ?_) fun _ _ e => e
          obtain ⟨r, h₅, tk₅, rfl, rfl, F₅, N₅, offr, hPr, hir⟩ := h₄
          have zD := (N₅ (D, LCg.lst (rows.map Row.ref)) (.tail _ (.tail _ (.tail _ (.tail _ (.head _)))))).1
          refine append_at (hsz := by rw [List.size_toArray, List.length_map, hlen]; exact Nat.le_trans hi hsz) zD fun h₆ hs₆ hD₆ => ?_
          have eD : h₆.get? D = some (LCg.lst ((rows ++ [r]).map Row.ref)) := by
            rw [hD₆, LCg.lst_snoc]
            simp
          have offD : ∀ p ∈ r.ent :: (rows.map Row.ent ++ news), p.1 ≠ D := fun p hp => by
            rcases List.mem_cons.mp hp with rfl | hp
            · exact (offr (D, _) (.tail _ (.tail _ (.tail _ (.head _))))).symm
            · exact (off p hp).2.2.2
          have in5 : ∀ p ∈ r.ent :: (rows.map Row.ent ++ news), News h₀ L h₆ [p] := fun p hp q hq => by
            rw [List.mem_singleton.mp hq]
            have z : p ∈ r.ent :: (I, oI) :: (C, oC) :: (c, oc') :: (D, LCg.lst (rows.map Row.ref)) :: (rows.map Row.ent ++ news) := by
              rcases List.mem_cons.mp hp with rfl | hp
              · exact .head _
              · exact .tail _ (.tail _ (.tail _ (.tail _ (.tail _ hp))))
            exact ⟨(hs₆.2 _ (offD p hp)).trans (N₅ p z).1, (N₅ p z).2⟩
          have hmem : ∀ p ∈ (rows ++ [r]).map Row.ent ++ news, p ∈ r.ent :: (rows.map Row.ent ++ news) := fun p hp => by
            simp only [List.map_append, List.map_cons, List.map_nil, List.mem_append, List.mem_cons, List.not_mem_nil, or_false] at hp ⊢
            rcases hp with (hp | hp) | hp
            · exact .inr (.inl hp)
            · exact .inl hp
            · exact .inr (.inr hp)
          refine ⟨its.size + 1 - (i + 1), by omega, h₆, tk₅, i + 1, rows ++ [r], oc', some v, rfl, hlt, rfl, by rw [List.length_append, hlen]; rfl,
            ⟨oI, (hs₆.2 _ ID).trans (N₅ (I, oI) (.tail _ (.head _))).1, hIc, hId⟩, F₅.change hs₆ DL (f0 D sD), fun p hp => ?_, hdc', fun p hp => ?_, fun j r' hr' => ?_, fun r' hr' => ?_⟩
          · rcases List.mem_cons.mp hp with rfl | hp
            · exact ⟨(hs₆.2 _ DC.symm).trans (N₅ (C, oC) (.tail _ (.tail _ (.head _)))).1, CL, f0 C sC⟩
            · rcases List.mem_cons.mp hp with rfl | hp
              · exact ⟨(hs₆.2 _ Dc.symm).trans (N₅ (c, oc') (.tail _ (.tail _ (.tail _ (.head _))))).1, cL, f0 c sc⟩
              · rcases List.mem_cons.mp hp with rfl | hp
                · exact ⟨eD, DL, f0 D sD⟩
                · exact in5 p (hmem p hp) p (List.mem_singleton.mpr rfl)
          · rcases List.mem_cons.mp (hmem p hp) with rfl | hp
            · exact ⟨(offr (I, oI) (.head _)).symm, (offr (C, oC) (.tail _ (.head _))).symm, (offr (c, oc') (.tail _ (.tail _ (.head _)))).symm, (offr (D, _) (.tail _ (.tail _ (.tail _ (.head _))))).symm⟩
            · exact off p hp
          · by_cases e : j < rows.length
            · rw [List.getElem?_append_left e] at hr'
              exact hP j r' hr'
            · have e2 : j = rows.length := by
                have := (List.getElem?_eq_some_iff.mp hr').1
                rw [List.length_append, List.length_singleton] at this
                omega
              rw [e2, List.getElem?_append_right (Nat.le_refl _), Nat.sub_self] at hr'
              have e3 : r = r' := Option.some.inj hr'
              rw [← e3, e2, hlen]
              exact hPr
          · rcases List.mem_append.mp hr' with hr' | hr'
            · exact hints r' hr'
            · rw [List.mem_singleton.mp hr']; exact hir
        · obtain rfl : i = its.size := Nat.le_antisymm hi (Nat.not_lt.mp hlt)
          refine W.done _ _ _ ⟨hit, lst'⟩ fun h₂ tk₂ hk₂ => ?_
          have keep2 : ∀ p ∈ (C, oC) :: (c, oc) :: (D, LCg.lst (rows.map Row.ref)) :: (rows.map Row.ent ++ news), p.1 ∉ [I] := fun p hp hq => by
            have e := List.mem_singleton.mp hq
            simp only [List.mem_cons] at hp
            rcases hp with rfl | rfl | rfl | hp
            · exact IC e.symm
            · exact Ic e.symm
            · exact ID e.symm
            · exact (off p hp).1 e
          have gC2 := hk₂ _ _ (keep2 _ (.head _)) (N' (C, oC) (.head _)).1
          refine ⟨fun _ => none, hNs.at' fun o e => ?_, fun h₃ hs₃ => ?_⟩
          · rw [hC] at e
            cases e
            exact gC2
          · replace hs₃ : Heap.SameBut C h₂ h₃ := hs₃
            refine fin D rows h₃ _ hlen hP hints ?_ fun p hp => ?_
            · have F₂ : Fr h₀ L h₂ m := ⟨F'.ns.at' fun o e => hk₂ _ o (by simpa using IL.symm) e, fun b o e => hk₂ b o (fun hb => by rw [List.mem_singleton.mp hb, f0 I sI] at e; cases e) (F'.keep b o e), F'.above⟩
              exact F₂.change hs₃ CL (f0 C sC)
            · have z := N' p (.tail _ (.tail _ hp))
              refine ⟨(hs₃.2 _ ?_).trans (hk₂ _ _ (keep2 p (.tail _ (.tail _ hp))) z.1), z.2⟩
              rcases List.mem_cons.mp hp with rfl | hp
              · exact DC
              · exact (off p hp).2.1
      · rcases List.mem_cons.mp hp with rfl | hp
        · exact ⟨hC, CL, f0 C sC⟩
        · rcases List.mem_cons.mp hp with rfl | hp
          · exact ⟨hc, cL, f0 c sc⟩
          · rcases List.mem_cons.mp hp with rfl | hp
            · exact ⟨hD, DL, f0 D sD⟩
            · exact ⟨keep _ _ (N p hp).1, (N p hp).2⟩
      · have b := bI p.1 (lo p hp)
        exact ⟨b.1, b.2.2.1, b.2.2.2, b.2.1⟩
    exact codeAny_compStart_list loop (W.self 0 _ _ _ ⟨hI, hl.at fun o e => keep _ _ e⟩ loop)
  rw [eval_ListComp]
  refine wpAny_comprehension_free (use := none) rfl hs hclos hkind hnames (wpAny_mono hiter (fun xv s₁ h₁ => ?_) fun _ _ e => e)
  obtain ⟨rfl, rfl⟩ := h₁
  refine wpAny_pyIter_list hl ?_
  refine wpAny_newObj_type ?_
  simp only [newFunctionEnv, Option.isSome_some, if_true]
  refine wpAny_bind (wpAny_alloc ?_)
  refine wpAny_bind (wpAny_layCells _ (fun name kind cells => by cases hkc : kind == NameKind.cell <;> simp) _ _ _ _ ?_)
  rw [List.forIn_nil]
  refine wpAny_bind (wpAny_pure (wpAny_pure ?_))
  rw [hone, hpush]
  have e1 : (s₁.heap.push { cls := .type "list_iterator", data := .fields #[.ref ax, .int 0 0] }).objs.size = s₁.heap.objs.size + 1 := size_push' ..
  have e2 : ((s₁.heap.push { cls := .type "list_iterator", data := .fields #[.ref ax, .int 0 0] }).push { cls := .type "list", data := .seq #[] }).objs.size = s₁.heap.objs.size + 1 + 1 := by rw [size_push', e1]
  have e3 : (((s₁.heap.push { cls := .type "list_iterator", data := .fields #[.ref ax, .int 0 0] }).push { cls := .type "list", data := .seq #[] }).push { cls := .type "dict", data := .dict #[] }).objs.size = s₁.heap.objs.size + 1 + 1 + 1 := by rw [size_push', e2]
  refine key _ _ _ _ _ { cls := .type "dict", data := .dict #[] } ⟨_, Heap.get?_push_of_some _ (Heap.get?_push_of_some _ (Heap.get?_push_of_some _ (Heap.get?_push_size _ rfl))), rfl, rfl⟩ (Heap.get?_push_of_some _ (Heap.get?_push_of_some _ (Heap.get?_push_size _ rfl))) (Heap.get?_push_of_some _ (Heap.get?_push_size _ rfl))
    ((Heap.Ns.new _ (.type "dict")).at' fun o e => Heap.get?_push_of_some _ e) (Heap.get?_push_size _ rfl) (fun b o e => Heap.get?_push_of_some _ (Heap.get?_push_of_some _ (Heap.get?_push_of_some _ (Heap.get?_push_of_some _ e)))) (Nat.le_refl _) (by rw [e1]; exact Nat.lt_succ_self _) (by rw [e1, e2]; exact Nat.lt_succ_self _) (by rw [e2, e3]; exact Nat.lt_succ_self _)
end
end Mine

namespace Mine
theorem fresh_Pla : True := by
  w_top off
  k_with_none
  trivial
end Mine

namespace Mine
theorem getD_set_self (c : List Int) (i : Nat) (v : Int) (h : i < c.length) : (c.set i v).getD i 0 = v := by
  rw [List.getD_eq_getElem?_getD, List.getElem?_set_self h]; rfl
theorem getD_set_ne (c : List Int) (i j : Nat) (v : Int) (h : i ≠ j) : (c.set i v).getD j 0 = c.getD j 0 := by
  rw [List.getD_eq_getElem?_getD, List.getElem?_set_ne h, List.getD_eq_getElem?_getD]
theorem getD_range (f : Nat → Int) {n k : Nat} (h : k < n) : ((List.range n).map f).getD k 0 = f k := by
  rw [List.getD_eq_getElem?_getD, List.getElem?_map, List.getElem?_range h]; rfl
theorem ext_getD {a b : List Int} (hl : a.length = b.length) (h : ∀ i, i < a.length → a.getD i 0 = b.getD i 0) : a = b := by
  refine List.ext_getElem hl fun i h1 h2 => ?_
  have := h i h1
  rw [List.getD_eq_getElem?_getD, List.getElem?_eq_getElem h1, List.getD_eq_getElem?_getD, List.getElem?_eq_getElem h2] at this
  exact this

theorem fill_at {f : List Int → Nat → Int} {o : Nat} {R : List Int} {X : Nat → Int} (h0 : ∀ i, i < o → R.getD i 0 = X i)
    (hf : ∀ k c, o + k < R.length → c.length = R.length → (∀ i, i < o + k → c.getD i 0 = X i) → f c k = X (o + k)) : ∀ k, o + k ≤ R.length → ∀ i, i < o + k → (fillTo f o R k).getD i 0 = X i
  | 0, _, i, hi => h0 i hi
  | k + 1, hk, i, hi => by
    have ih := fill_at h0 hf k (by omega)
    have hl : (fillTo f o R k).length = R.length := fillTo_length f o R k
    rw [fillTo]
    by_cases e : i = o + k
    · subst e
      rw [getD_set_self _ _ _ (by omega)]
      exact hf k _ (by omega) hl ih
    · rw [getD_set_ne _ _ _ _ (Ne.symm e)]
      exact ih i (by omega)
theorem fill_eq {f : List Int → Nat → Int} {o n : Nat} {R : List Int} {X : Nat → Int} (hn : R.length = n) (ho : o ≤ n) (h0 : ∀ i, i < o → R.getD i 0 = X i)
    (hf : ∀ k c, o + k < n → c.length = n → (∀ i, i < o + k → c.getD i 0 = X i) → f c k = X (o + k)) : fillTo f o R (R.length - o) = (List.range n).map X := by
  subst hn
  refine ext_getD (by rw [fillTo_length, List.length_map, List.length_range]) fun i hi => ?_
  rw [fillTo_length] at hi
  rw [getD_range _ hi]
  exact fill_at h0 hf _ (by omega) i (by omega)

theorem near_shift (a b c r : Int) : nearer (a + r) (b + r) (c + r) = nearer a b c + r := by
  have e1 : a + r + (b + r) - (c + r) - (a + r) = a + b - c - a := by omega
  have e2 : a + r + (b + r) - (c + r) - (b + r) = a + b - c - b := by omega
  have e3 : a + r + (b + r) - (c + r) - (c + r) = a + b - c - c := by omega
  unfold nearer
  rw [e1, e2, e3]
  generalize (if a + b - c - a < 0 then -(a + b - c - a) else a + b - c - a) = d1
  generalize (if a + b - c - b < 0 then -(a + b - c - b) else a + b - c - b) = d2
  generalize (if a + b - c - c < 0 then -(a + b - c - c) else a + b - c - c) = d3
  by_cases h : d1 ≤ d2 ∧ d1 ≤ d3
  · rw [if_pos h, if_pos h]
  · rw [if_neg h, if_neg h]
    by_cases h2 : d2 ≤ d3
    · rw [if_pos h2, if_pos h2]
    · rw [if_neg h2, if_neg h2]
theorem near_a0 (a : Int) : nearer a 0 0 = a := by
  unfold nearer
  rw [if_pos]
  constructor <;> split <;> (try split) <;> omega
theorem fm (x : Int) : x.fmod 256 = x % 256 := Int.fmod_eq_emod_of_nonneg _ (by decide)

section
variable (P : List (List Int)) (rs : List Int) (u n : Nat)
/-- the picture raised -/
def goalAt (y k : Nat) : Int := (P.getD y []).getD k 0 + rs.getD (k % u) 0
def goalRow (y : Nat) : List Int := (List.range n).map (goalAt P rs u y)

variable {P rs u n}
theorem raise_at {X : List Int} : ∀ (k i : Nat), k ≤ X.length → (raise0 rs X k).getD i 0 = if i < k then (X.getD i 0 + rs.getD i 0) % 256 else X.getD i 0
  | 0, i, _ => by rw [if_neg (Nat.not_lt_zero _)]; rfl
  | k + 1, i, hk => by
    have ih := raise_at (X := X) k
    have hl := raise0_length rs X k
    rw [raise0]
    by_cases e : i = k
    · subst e
      rw [getD_set_self _ _ _ (by omega), fm, ih i (by omega), if_neg (Nat.lt_irrefl _), if_pos (Nat.lt_succ_self _)]
    · rw [getD_set_ne _ _ _ _ (Ne.symm e), ih i (by omega)]
      by_cases e2 : i < k
      · rw [if_pos e2, if_pos (by omega)]
      · rw [if_neg e2, if_neg (by omega)]

theorem undo_first (hu : 1 ≤ u) (hun : u ≤ n) (hp : ∀ y k, 0 ≤ (P.getD y []).getD k 0 ∧ (P.getD y []).getD k 0 < 156) (hr : ∀ k, 0 ≤ rs.getD k 0 ∧ rs.getD k 0 < 101) {w : Int} (hw : w = 1 ∨ w = 4) :
    undoLine u w (raise0 rs (lineAt P u w 0 n) u) (List.replicate n 0) = goalRow P rs u n 0 := by
  have len : (raise0 rs (lineAt P u w 0 n) u).length = n := (raise0_length _ _ _).trans lineAt_length
  have at0 : ∀ i, i < n → (raise0 rs (lineAt P u w 0 n) u).getD i 0 = if i < u then (cellAt P u w 0 i + rs.getD i 0) % 256 else cellAt P u w 0 i := fun i hi => by
    rw [raise_at u i (by rw [lineAt_length]; exact hun), lineAt, getD_range _ hi]
  rcases hw with rfl | rfl
  · unfold undoLine
    rw [if_pos rfl]
    refine fill_eq len hun (fun i hi => ?_) fun k c hk hc hX => ?_
    · rw [at0 i (by omega), if_pos hi]
      unfold goalAt cellAt guessAt
      rw [if_pos rfl, if_neg (by omega), fm, Nat.mod_eq_of_lt hi]
      have := hp 0 i; have := hr i
      omega
    · unfold subAt
      rw [at0 (u + k) hk, if_neg (by omega), hX k (by omega)]
      unfold goalAt cellAt guessAt
      rw [if_pos rfl, if_pos (by omega), fm, Nat.add_mod_left, Nat.add_sub_cancel_left]
      have := hp 0 (u + k); have := hp 0 k; have := hr (k % u)
      omega
  · unfold undoLine
    rw [if_neg (by decide), if_neg (by decide)]
    have := fill_eq (f := paethAt u (raise0 rs (lineAt P u 4 0 n) u) (List.replicate n 0)) (o := 0) (X := goalAt P rs u 0) len (Nat.zero_le _) (fun i hi => absurd hi (Nat.not_lt_zero _)) fun k c hk hc hX => ?_
    · rw [Nat.sub_zero] at this
      exact this
    · have z : ∀ i, (List.replicate n (0 : Int)).getD i 0 = 0 := fun i => by
        rw [List.getD_eq_getElem?_getD]
        by_cases e : i < n
        · rw [List.getElem?_replicate_of_lt e]; rfl
        · rw [List.getElem?_eq_none (by rw [List.length_replicate]; omega)]; rfl
      unfold paethAt
      rw [Nat.zero_add] at *
      rw [z, z, at0 k hk]
      have n1 : ¬ (4 : Int) = 1 := by decide
      have n2 : ¬ (4 : Int) = 2 := by decide
      have n3 : ¬ 0 < 0 := Nat.lt_irrefl 0
      have n4 : ¬ (0 < 0 ∧ u ≤ k) := fun h => n3 h.1
      by_cases e : k < u
      · rw [if_pos e, if_pos e, if_pos e]
        unfold cellAt guessAt goalAt
        rw [if_neg n1, if_neg n2, if_neg (show ¬ u ≤ k by omega), if_neg n3, if_neg n4, fm, near_a0, Nat.mod_eq_of_lt e]
        have := hp 0 k; have := hr k
        omega
      · rw [if_neg e, if_neg e, if_neg e, hX (k - u) (by omega)]
        unfold cellAt guessAt goalAt
        rw [if_neg n1, if_neg n2, if_pos (show u ≤ k by omega), if_neg n3, if_neg n4, fm, near_a0, near_a0, ← Nat.mod_eq_sub_mod (show k ≥ u by omega)]
        have := hp 0 k; have := hp 0 (k - u); have := hr (k % u)
        omega

theorem undo_next (hu : 1 ≤ u) (hp : ∀ y k, 0 ≤ (P.getD y []).getD k 0 ∧ (P.getD y []).getD k 0 < 156) (hr : ∀ k, 0 ≤ rs.getD k 0 ∧ rs.getD k 0 < 101) {w : Int} (hw : w = 2 ∨ w = 4) {y : Nat} :
    undoLine u w (lineAt P u w (y + 1) n) (goalRow P rs u n y) = goalRow P rs u n (y + 1) := by
  have len : (lineAt P u w (y + 1) n).length = n := lineAt_length
  have at0 : ∀ i, i < n → (lineAt P u w (y + 1) n).getD i 0 = cellAt P u w (y + 1) i := fun i hi => by rw [lineAt, getD_range _ hi]
  have ab : ∀ i, i < n → (goalRow P rs u n y).getD i 0 = goalAt P rs u y i := fun i hi => by rw [goalRow, getD_range _ hi]
  rcases hw with rfl | rfl
  · unfold undoLine
    rw [if_neg (by decide), if_pos rfl]
    have := fill_eq (f := upAt (lineAt P u 2 (y + 1) n) (goalRow P rs u n y)) (o := 0) (X := goalAt P rs u (y + 1)) len (Nat.zero_le _) (fun i hi => absurd hi (Nat.not_lt_zero _)) fun k c hk hc hX => ?_
    · rw [Nat.sub_zero] at this
      exact this
    · rw [Nat.zero_add] at *
      unfold upAt
      rw [at0 k hk, ab k hk]
      unfold goalAt cellAt guessAt
      rw [if_neg (by decide), if_pos rfl, if_pos (by omega), fm, Nat.add_sub_cancel]
      have := hp (y + 1) k; have := hp y k; have := hr (k % u)
      omega
  · unfold undoLine
    rw [if_neg (by decide), if_neg (by decide)]
    have := fill_eq (f := paethAt u (lineAt P u 4 (y + 1) n) (goalRow P rs u n y)) (o := 0) (X := goalAt P rs u (y + 1)) len (Nat.zero_le _) (fun i hi => absurd hi (Nat.not_lt_zero _)) fun k c hk hc hX => ?_
    · rw [Nat.sub_zero] at this
      exact this
    · rw [Nat.zero_add] at *
      unfold paethAt
      rw [at0 k hk, ab k hk]
      have n1 : ¬ (4 : Int) = 1 := by decide
      have n2 : ¬ (4 : Int) = 2 := by decide
      by_cases e : k < u
      · rw [if_pos e, if_pos e]
        unfold cellAt guessAt goalAt
        rw [if_neg n1, if_neg n2, if_neg (show ¬ u ≤ k by omega), if_pos (Nat.succ_pos y), if_neg (show ¬ (0 < y + 1 ∧ u ≤ k) by omega), fm, ← near_0, ← near_0, Nat.add_sub_cancel]
        have := hp (y + 1) k; have := hp y k; have := hr (k % u)
        omega
      · rw [if_neg e, if_neg e, hX (k - u) (by omega), ab (k - u) (by omega)]
        unfold cellAt guessAt goalAt
        rw [if_neg n1, if_neg n2, if_pos (show u ≤ k by omega), if_pos (Nat.succ_pos y), if_pos (show 0 < y + 1 ∧ u ≤ k by omega), fm, Nat.add_sub_cancel, ← Nat.mod_eq_sub_mod (show k ≥ u by omega), near_shift]
        have := hp (y + 1) k; have := hr (k % u)
        omega

theorem undo_rest (hu : 1 ≤ u) (hp : ∀ y k, 0 ≤ (P.getD y []).getD k 0 ∧ (P.getD y []).getD k 0 < 156) (hr : ∀ k, 0 ≤ rs.getD k 0 ∧ rs.getD k 0 < 101) :
    ∀ (Ws : List Int) (Ls : List (List Int)) (y : Nat), Ws.length = Ls.length → (∀ (i : Nat) (w : Int), Ws[i]? = some w → w = 2 ∨ w = 4) → (∀ (i : Nat) (l : List Int) (w : Int), Ls[i]? = some l → Ws[i]? = some w → l = lineAt P u w (y + 1 + i) n) →
      (undoRun u (goalRow P rs u n y) (Ws.zip Ls)).1 = (List.range Ws.length).map fun i => goalRow P rs u n (y + 1 + i)
  | [], [], _, _, _, _ => rfl
  | w :: Ws, l :: Ls, y, hl, hw, hL => by
    have e : l = lineAt P u w (y + 1) n := hL 0 l w rfl rfl
    rw [List.zip_cons_cons, undoRun, e]
    dsimp only
    rw [undo_next hu hp hr (hw 0 w rfl), undo_rest hu hp hr Ws Ls (y + 1) (Nat.succ.inj hl) (fun i v hv => hw (i + 1) v hv) (fun i l' v hl' hv => by
      rw [show y + 1 + 1 + i = y + 1 + (i + 1) by omega]
      exact hL (i + 1) l' v hl' hv), List.length_cons, List.range_succ_eq_map, List.map_cons, List.map_map]
    congr 1
    refine List.map_congr_left fun i _ => ?_
    show goalRow P rs u n (y + 1 + 1 + i) = goalRow P rs u n (y + 1 + (i + 1))
    rw [show y + 1 + 1 + i = y + 1 + (i + 1) by omega]

/-- the plain law -/
theorem law_plain (hu : 1 ≤ u) (hun : u ≤ n) (hp : ∀ y k, 0 ≤ (P.getD y []).getD k 0 ∧ (P.getD y []).getD k 0 < 156) (hr : ∀ k, 0 ≤ rs.getD k 0 ∧ rs.getD k 0 < 101) {Ws : List Int} {Ls : List (List Int)} (hl : Ws.length = Ls.length) (h1 : 1 ≤ Ws.length)
    (wok : WaysOk Ws) (l0 : ∀ l w, Ls[0]? = some l → Ws[0]? = some w → l = raise0 rs (lineAt P u w 0 n) u) (ly : ∀ y l w, 0 < y → Ls[y]? = some l → Ws[y]? = some w → l = lineAt P u w y n) :
    (undoRun u (List.replicate n 0) (Ws.zip Ls)).1 = (List.range Ws.length).map (goalRow P rs u n) := by
  obtain ⟨w, Ws, rfl⟩ : ∃ w r, Ws = w :: r := by
    cases Ws with
    | nil => simp at h1
    | cons w r => exact ⟨w, r, rfl⟩
  obtain ⟨l, Ls, rfl⟩ : ∃ l r, Ls = l :: r := by
    cases Ls with
    | nil => simp at hl
    | cons l r => exact ⟨l, r, rfl⟩
  rw [List.zip_cons_cons, undoRun, l0 l w rfl rfl]
  dsimp only
  rw [undo_first hu hun hp hr (wok.first w rfl), undo_rest hu hp hr Ws Ls 0 (Nat.succ.inj hl) (fun i v hv => wok.rest (i + 1) v (Nat.succ_pos _) hv) (fun i l' v hl' hv => by
    rw [show 0 + 1 + i = i + 1 by omega]
    exact ly (i + 1) l' v (Nat.succ_pos _) hl' hv), List.length_cons, List.range_succ_eq_map, List.map_cons, List.map_map]
  congr 1
  refine List.map_congr_left fun i _ => ?_
  show goalRow P rs u n (0 + 1 + i) = goalRow P rs u n (i + 1)
  rw [show 0 + 1 + i = i + 1 by omega]
end
end Mine
namespace Mine
theorem getD_bd {l : List Int} {b : Int} (hb : 0 < b) (h : ∀ x ∈ l, 0 ≤ x ∧ x < b) (k : Nat) : 0 ≤ l.getD k 0 ∧ l.getD k 0 < b := by
  rw [List.getD_eq_getElem?_getD]
  cases e : l[k]? with
  | none => exact ⟨Int.le_refl _, hb⟩
  | some x => exact h x (List.mem_of_getElem? e)
theorem same_rows {pics lins rows : List Row} {Ws rs : List Int} {u wd : Int} {n : Nat} (u0 : 1 ≤ u) (en : (n : Int) = wd * u) (sp : u ≤ wd * u) (ok : RowsOk pics n 156) (lrs : (rs.length : Int) = u) (brs : ∀ x ∈ rs, 0 ≤ x ∧ x < 101)
    (wok : WaysOk Ws) (l1 : 1 ≤ Ws.length) (lw : Ws.length = pics.length) (ll : lins.length = pics.length) (lr : rows.length = pics.length)
    (cl0 : ∀ r w, lins[0]? = some r → Ws[0]? = some w → r.ns = raise0 rs (lineAt (pics.map Row.ns) u.toNat w 0 n) u.toNat) (clins : ∀ y r w, 0 < y → lins[y]? = some r → Ws[y]? = some w → r.ns = lineAt (pics.map Row.ns) u.toNat w y n)
    (hP : ∀ (i : Nat) (r : Row), rows[i]? = some r → r.ns.length = n ∧ ∀ (k : Nat) (x : Int), r.ns[k]? = some x → x = ((pics.map Row.ns).getD i []).getD k 0 + rs.getD (k % u.toNat) 0) :
    rows.map Row.ns = (undoRun u.toNat (List.replicate n 0) (Ws.zip (lins.map Row.ns))).1 := by
  have hp : ∀ y k, 0 ≤ ((pics.map Row.ns).getD y []).getD k 0 ∧ ((pics.map Row.ns).getD y []).getD k 0 < 156 := fun y k => by
    refine getD_bd (by decide) (fun x hx => ?_) k
    rw [List.getD_eq_getElem?_getD, List.getElem?_map] at hx
    cases e : pics[y]? with
    | none => rw [e] at hx; cases hx
    | some r => rw [e] at hx; exact (ok.all r (List.mem_of_getElem? e)).2.2 x hx
  have at' : ∀ {i : Nat} {l : List Int}, (lins.map Row.ns)[i]? = some l → ∃ r, lins[i]? = some r ∧ r.ns = l := fun {i l} h => by
    rw [List.getElem?_map] at h
    cases e : lins[i]? with
    | none => rw [e] at h; cases h
    | some r => rw [e] at h; exact ⟨r, rfl, Option.some.inj h⟩
  rw [law_plain (P := pics.map Row.ns) (rs := rs) (u := u.toNat) (n := n) (by omega) (by omega) hp (getD_bd (by decide) brs) (by rw [List.length_map]; omega) l1 wok
    (fun l w hl hw => by obtain ⟨r, hr, e⟩ := at' hl; rw [← e]; exact cl0 r w hr hw) (fun y l w hy hl hw => by obtain ⟨r, hr, e⟩ := at' hl; rw [← e]; exact clins y r w hy hr hw)]
  refine List.ext_getElem (by rw [List.length_map, List.length_map, List.length_range]; omega) fun i h1 h2 => ?_
  rw [List.length_map] at h1
  rw [List.getElem_map, List.getElem_map, List.getElem_range]
  obtain ⟨a1, a2⟩ := hP i rows[i] (List.getElem?_eq_getElem h1)
  refine ext_getD (by rw [a1, goalRow, List.length_map, List.length_range]) fun j hj => ?_
  rw [goalRow, getD_range _ (by omega), List.getD_eq_getElem?_getD, List.getElem?_eq_getElem hj]
  exact a2 j _ (List.getElem?_eq_getElem hj)
end Mine

namespace Mine
theorem four_lo (x : Int) : 1 ≤ 4 - x.fmod 4 := by have := fmod_hi x (n := 4) (by decide); omega
theorem four_hi (x : Int) : 4 - x.fmod 4 ≤ 4 := by have := fmod_lo x (n := 4) (by decide); omega
structure MarkS : Prop where
  mark : True
structure MarkA : Prop where
  mark : True
structure MarkC : Prop where
  mark : True
local macro_rules | `(tactic| k_all) => `(tactic| assumption)
local macro_rules | `(tactic| walk_at "subscriptTail") => `(tactic| (k_here; (rename MarkS => mk9); (with_reducible show wpAny _ _ (subscriptTail (PySem.Expr.List _ _) _ _ _) _ _ _); k_dflt (refine kba_turn (value' := PySem.Expr.Name (PySem.Str.ofString "_") ⟨0, 0, 0, 0⟩) (fun _ => rfl) ?_)))
local macro_rules | `(tactic| walk_at "call builtin:list.append") => `(tactic| ((rename MarkA => mk9); refine stop ?_))
local macro_rules | `(tactic| k_mem) => `(tactic| ((rename MarkA => mk9); first | assumption | (refine List.mem_append.mpr (Or.inl ?_); k_mem)))
local macro_rules | `(tactic| walk_at "subscriptTail") => `(tactic| (k_here; (rename MarkA => mk9); (with_reducible show wpAny _ _ (subscriptTail _ _ (Value.ref _) (Value.int _ _)) _ _ _); k_dflt (refine' n_iitem ?k1 ?k2 ?k3 ?k4 ?k5 ?k6 ?_ ?k7; (case k1 => k_asm); (case k2 => k_mem); (case k3 => assumption); (case k4 => omega); (case k5 => omega); (case k6 => omega); (case k7 => with_unfolding_all rfl); k_whole); intro t9))
local macro_rules | `(tactic| walk_at "subscriptTail") => `(tactic| (k_here; (rename MarkA => mk9); (with_reducible show wpAny _ _ (subscriptTail _ _ (Value.ref _) (Value.int _ _)) _ _ _); k_dflt (refine' n_litem ?k1 ?k2 ?k3 ?k4 ?k5 ?_ ?k7; (case k1 => k_asm); (case k2 => k_mem); (case k3 => omega); (case k4 => omega); (case k5 => assumption); (case k7 => with_unfolding_all rfl); k_whole)))
local macro_rules | `(tactic| walk_at "call ref") => `(tactic| ((rename MarkA => mk9); refine stop ?_))
local macro_rules | `(tactic| walk_at "setItem ref int") => `(tactic| ((rename MarkA => mk9); refine stop ?_))
local macro_rules | `(tactic| walk_at "eval ListComp") => `(tactic| ((rename MarkC => mk9); refine stop ?_))
local macro_rules | `(tactic| walk_at "CompSrc") => `(tactic| ((rename MarkC => mk9); refine stop ?_))
set_option maxHeartbeats 80000000 in
theorem law_holds : PySem.Challenge.rw_bf5022_01.Holds := by
  w_top off
  k_with_none
  refine Mine.hd ?_
  k_fill
  intro w s₀ s₁ mg mb G Y fa o pm cd doc dV kV ho hd' hcd hD hmg hg args vals as hpre hlay hrd hwl hlo
  have X := kIn_of Y
  clear Y
  refine Ground.open G ?_
  intro T B D TE TW
  clear hmg
  wrow_args hpre hlay hrd hwl hlo
  refine Mine.enterC ?_
  have K0 := below_caller (Top.heap T)
  have he := Dflts.none hD rfl; subst he; have he := Dflts.noKw hD; subst he
  clear hD
  refine Mine.codeC_cells (by decide) ho (fd_plain hd') (Top.nolimit T) hcd rfl (kinds_of (by kinds_ok)) (by decide) fun h₁ tk₁ cells F N0 X0 => ?_
  clear G B D TE TW
  have Y0 := CellsAre.four X0
  obtain ⟨o1, o2, o3, o4, he, d1, d2, d3, d4⟩ := Y0
  subst he
  clear X0 ho hcd
  refine wpC_cut3 (St1 s₁.heap s₁.heap.objs.size s₁) ?_ ?_
  · have mk9 : MarkS := ⟨trivial⟩
    refine wpC_execs_any ?_
    k_steps
    refine wpC_execs_any ?_
    k_steps
    refine wpC_execs_any ?_
    k_steps
    refine wpC_execs_nil ?_
    rename News _ _ _ _ => N9
    rename Fr _ _ _ _ => F9
    rename _ = Data.cell (some (Value.int _ _)) => dW
    revert dW
    rename _ = Data.cell (some (Value.int _ _)) => dU
    intro dW
    refine ⟨rfl, _, _, _, _, _, _, _, _, _, _, _, _, _, _, _, _, _, rfl, F9, kst_newsOf N9 ?_, ⟨d1, ⟨_, dW⟩, ⟨_, dU⟩, by assumption⟩, by assumption, ?_, ?_, ?_, ?_, ?_, ?_, ?_, ?_, ?_, ?_, ?_, ?_⟩
    · exact led_S1
    · rw [List.length_append, List.length_take, List.length_drop, List.length_take]
      simp only [List.length_cons, List.length_nil, Int.toNat_natCast]
      omega
    · rw [List.length_append, List.length_take, List.length_drop, List.length_take]
      simp only [List.length_cons, List.length_nil, Int.toNat_natCast]
      omega
    · exact four_lo _
    · exact four_hi _
    · exact four_lo _
    · exact four_hi _
    · exact four_lo _
    · exact four_hi _
    all_goals (
      repeat (rename _ ∧ _ => hc; obtain ⟨hc1, hc2⟩ := hc)
      assumption)
  clear F N0 d1 d2 d3 d4
  intro s' hs'
  refine wpC_cut1 (St2 s₁.heap s₁.heap.objs.size s₁) ?_ ?_
  · obtain ⟨h', tk, aC, aP, aW, aL, cv, cs, o4, o3, o2, o1, u, wd, hi, th, uu, rfl, F1, N1, C4, icv, lc3, lc64, u0, u1, w0, w1, i0, i1, q1, q2, q3, q4⟩ := hs'
    obtain ⟨dr, ⟨tw, dw⟩, ⟨tu, du⟩, dc⟩ := C4
    · generalize hL : s₁.heap.objs.size = L at *
      refine wpC_execs_cons (wpC_For ?_)
      k_with "pyIter ref" => (refine stop ?_)
      k_steps
      refine Stop.mk ?_
      rename News _ _ _ _ => N7
      rename Fr _ _ _ _ => F7
      rename IsRange _ _ _ _ _ _ _ _ => R7
      refine forC_range (n := hi.toNat) R7 (small_one (by omega) (by omega) (by omega) (by omega)) ((rangeSize_nat _ _).trans (by rw [Int.sub_zero])) rfl rfl rfl F7 N7 (PicJ L aC aP aW aL cv o4 o3 o2 o1 (wd * u).toNat hi th) ⟨[], 0, rfl, ⟨rfl, rfl, rfl, rfl⟩, ⟨fun r hr => nomatch hr⟩, rfl, fun r hr => nomatch hr⟩ ?_ ?_
      · rintro i t m₁ nx h tk9 own hi9 ⟨pics, cP, rfl, nm, ok, len, far⟩ hoff Fx Nx
        have hI0 := Fx.fresh
        have hIL := Nat.ne_of_gt Fx.ns.lt
        obtain ⟨uu, rfl⟩ := map4 nm.p nm.w nm.l nm.h
        dsimp only [led4, List.cons_append, List.nil_append, List.append_assoc] at Nx
        have hR : ∀ p ∈ pics.map Row.ent ++ own, p.1 ≠ aP := fun p hp => by
          rcases List.mem_append.mp hp with hp | hp
          · obtain ⟨r, hr, rfl⟩ := List.mem_map.mp hp
            exact fun e => far r hr (e ▸ List.Mem.head _)
          · exact (hoff _ (.head _) p hp).symm
        have hlL : aL < h.objs.size := Heap.lt_size (Nx _ (.tail _ (.tail _ (.head _)))).1
        generalize hR1 : pics.map Row.ent ++ own = R1 at *
        clear N7 F7 R7
        refine wpC_execs_any ?_
        k_with "storeName" => (refine stop ?_)
        k_steps
        refine Stop.mk ?_
        k_with_none
        rename News _ _ _ _ => N8
        rename Fr _ _ _ _ => F8
        rename IsRange _ _ _ _ _ _ _ _ => R8
        have N9 : News s₁.heap L _ ((h.objs.size, _) :: _) := fun p hp => (List.mem_cons.mp hp).elim (fun e => e ▸ ⟨R8, hIL, hI0⟩) (N8 p)
        have F9 := F8
        clear N8 F8 R8
        refine storeX_L F9 N9 fun h2 F2 N2 => ?_
        clear F9 N9
        refine wpC_execs_any ?_
        k_steps
        rename News _ _ _ _ => N2
        rename Fr _ _ _ _ => F2
        have bd := prod_bd (i := (i : Int)) (by omega) (by omega) w0 w1 u0 u1
        have bd2 := prod_bd2 w0 w1 u0 u1
        have sp := span_eq i wd u
        refine LCg.CompSrc.range (n := (wd * u).toNat) (by rfl) F2 N2 (N2 _ (.head _)).1 (small_one (by omega) (by omega) (by omega) (by omega)) ((rangeSize_nat _ _).trans (by rw [sp])) (by rw [sizeLine_eq]; omega) ?_
        intro g'
        refine comp_ints (fun _ v => 0 ≤ v ∧ v < 156) ?_ ?_
        · rintro i' v I oI C oC D m₂ ys h' tk E' hi' ⟨t', rfl⟩ hC hx F N off ne
          clear F2 N2
          k_steps
          all_goals exact LCg.CompEnd.intro F N _ (fun p hp => hp) off trivial ⟨rfl, _, _, rfl, fmod_lo _ (n := 156) (by decide), fmod_hi _ (n := 156) (by decide)⟩
        · intro ys ns iys lns pns
          clear F2 N2
          k_steps
          rename News _ _ _ _ => N4
          rename Fr _ _ _ _ => F4
          rename_i D8 h8 tk8 o8
          obtain ⟨_, o8P, o8W, o8L, o8C, o84, o83, o82, o81, o8R⟩ := o8
          have q9 : pics.length ≤ 4 := by omega
          have Q1 := ltN q1
          have Q2 := ltN q2
          have Q3 := ltN q3
          have Q4 := ltN q4
          have N5 := kst_newsOf N4 (fun p hp => led_perm p (by exact (List.mem_cons.mp hp).elim (fun e => e ▸ List.Mem.head _) fun hp => .tail _ hp))
          refine n_app F4 (kst_newsOf (l' := (aP, W.listOf (List.map Row.ref pics).toArray cP) :: (D8, LCg.lst ys) :: (aW, W.listOf #[] 0) :: (aL, W.listOf #[] 0) :: (aC, W.listOf cv.toArray 0) :: (L + 1 + 1 + 1 + 1, o4) :: (L + 1 + 1 + 1, o3) :: (L + 1 + 1, o2) :: (L + 1, o1) :: R1) N4 ?_) ?_ (by rw [List.size_toArray, List.length_map, sizeLine_eq]; omega) fun h6 F6 N6 => ?_
          · intro p hp
            simp only [List.mem_cons] at hp ⊢
            rcases hp with h | h | h
            · exact .inr (.inr (.inl h))
            · exact .inl h
            · exact .inr (.inr (.inr h))
          · exact off8 (Ne.symm o8P) (neN (by omega)) (neN (by omega)) (neN (by omega)) (neN (by omega)) (neN (by omega)) (neN (by omega)) (neN (by omega)) hR
          dsimp only
          have N7 : News s₁.heap L h6 ((aP, W.listOf ((pics ++ [Row.mk D8 ys ns ys.length]).map Row.ref).toArray (cP + 1)) :: (D8, LCg.lst ys) :: (aW, W.listOf #[] 0) :: (aL, W.listOf #[] 0) :: (aC, W.listOf cv.toArray 0) :: (L + 1 + 1 + 1 + 1, o4) :: (L + 1 + 1 + 1, o3) :: (L + 1 + 1, o2) :: (L + 1, o1) :: R1) := by rw [← push_ref]; exact N6
          refine wpC_execs_nil ⟨rfl, _, _, _, (aP, W.listOf ((pics ++ [Row.mk D8 ys ns ys.length]).map Row.ref).toArray (cP + 1)) :: (aW, listOf #[] 0) :: (aL, listOf #[] 0) :: (aC, listOf cv.toArray 0) :: (led4 L o4 o3 o2 o1 ++ (pics ++ [Row.mk D8 ys ns ys.length]).map Row.ent), rfl, F6, kst_newsOf N7 ?_, ?_, pics ++ [Row.mk D8 ys ns ys.length], cP + 1, rfl, ⟨rfl, rfl, rfl, rfl⟩, ⟨fun r hr => ?_⟩, by rw [List.length_append, len]; rfl, fun r hr => ?_⟩
          · rw [← hR1]
            exact led_S2
          · refine off_S2 hoff rfl fun q hq => (off1_mem o8R q (by rw [← hR1]; exact List.mem_append.mpr (.inr hq))).symm
          · rcases List.mem_append.mp hr with hr | hr
            · exact ok.all r hr
            · rw [List.mem_singleton.mp hr]
              exact ⟨iys, lns, fun x hx => by obtain ⟨j, hj⟩ := List.getElem?_of_mem hx; exact pns j x hj⟩
          · rcases List.mem_append.mp hr with hr | hr
            · exact far r hr
            · rw [List.mem_singleton.mp hr]
              intro hm
              simp only [adr8, List.mem_cons, List.not_mem_nil, or_false] at hm
              rcases hm with e | e | e | e | e | e | e | e
              · exact o8P e.symm
              · exact o8W e.symm
              · exact o8L e.symm
              · exact o8C e.symm
              · exact o84 e.symm
              · exact o83 e.symm
              · exact o82 e.symm
              · exact o81 e.symm
      · rintro h9 tk9 m9 nx F9 N9 ⟨pics, cP, rfl, nm, ok, len, far⟩
        exact wpC_execs_nil ⟨rfl, h9, tk9, aC, aP, aW, aL, cv, cs, o4, o3, o2, o1, u, wd, hi, (wd * u).toNat, th, m9, pics, cP, rfl, F9, nm, N9, ⟨dr, ⟨tw, dw⟩, ⟨tu, du⟩, dc⟩, icv, lc3, lc64, u0, u1, w0, w1, i0, i1, q1, q2, q3, q4, by have := prod_bd2 w0 w1 u0 u1; omega, by have := prod_bd2 w0 w1 u0 u1; omega, ok, by omega, far⟩
  clear hs' s'
  intro s' hs'
  refine wpC_cut1 (St3 s₁.heap s₁.heap.objs.size s₁) ?_ ?_
  · obtain ⟨h', tk, aC, aP, aW, aL, cv, cs, o4, o3, o2, o1, u, wd, hi, n, th, m, pics, cP, rfl, F1, nm, N1, C4, icv, lc3, lc64, u0, u1, w0, w1, i0, i1, q1, q2, q3, q4, en, ln, ok, len, far⟩ := hs'
    generalize hL : s₁.heap.objs.size = L at *
    obtain ⟨dr, ⟨tw, dw⟩, ⟨tu, du⟩, dc⟩ := C4
    obtain ⟨uu, rfl⟩ := map4 nm.p nm.w nm.l nm.h
    dsimp only [led4, List.cons_append, List.nil_append] at N1
    have Q1 := ltN q1
    have Q2 := ltN q2
    have Q3 := ltN q3
    have Q4 := ltN q4
    have hR : ∀ p ∈ pics.map Row.ent, p.1 ≠ L + 1 + 1 + 1 + 1 := fun p hp => by
      obtain ⟨r, hr, rfl⟩ := List.mem_map.mp hp
      exact fun e => far r hr (show r.a ∈ _ by have e2 : r.a = L + 1 + 1 + 1 + 1 := e; rw [e2]; exact .tail _ (.tail _ (.tail _ (.tail _ (.head _)))))
    generalize hR1 : pics.map Row.ent = R1 at *
    refine wpC_execs_any ?_
    k_steps
    · rename_i hz _ _ _ _
      exact absurd hz (pow101 _)
    rename_i iR lR D8 h8 tk8 o8 h9 o9 F9 N9 d9
    refine wpC_execs_nil ⟨rfl, h9, _, aC, aP, aW, aL, D8, cv, ys, cs, _, o9, o3, o2, o1, u, wd, hi, n, th, _, pics, cP, ys.length, rfl, F9, ⟨rfl, rfl, rfl, rfl⟩, kst_newsOf N9 ?_, ⟨d9, ⟨tw, dw⟩, ⟨tu, du⟩, dc⟩, icv, lc3, lc64, u0, u1, w0, w1, i0, i1, q1, q2, q3, q4, en, ln, ok, len, far, iR, ?_, ?_, ?_⟩
    · rw [← hR1]
      exact led_S3
    · rw [List.length_map, rangeKs_length]; omega
    · intro x hx
      obtain ⟨k, _, rfl⟩ := List.mem_map.mp hx
      rw [if_pos (pow101 _)]
      exact ⟨fmod_lo _ (n := 101) (by decide), fmod_hi _ (n := 101) (by decide)⟩
    · intro hm
      obtain ⟨o8P, o8W, o8L, o8C, o84, o83, o82, o81, o8R⟩ := o8
      simp only [adr8, List.mem_cons, List.not_mem_nil, or_false] at hm
      rcases hm with e | e | e | e | e | e | e | e
      · exact o8P e.symm
      · exact o8W e.symm
      · exact o8L e.symm
      · exact o8C e.symm
      · exact o84 e.symm
      · exact o83 e.symm
      · exact o82 e.symm
      · exact o81 e.symm
  clear hs' s'
  intro s' hs'
  refine wpC_cut1 (St4 s₁.heap s₁.heap.objs.size s₁) ?_ ?_
  · obtain ⟨h', tk, aC, aP, aW, aL, aR, cv, rv, cs, rs, o4, o3, o2, o1, u, wd, hi, n, th, m, pics, cP, cR, rfl, F1, nm, N1, C4, icv, lc3, lc64, u0, u1, w0, w1, i0, i1, q1, q2, q3, q4, en, ln, ok, len, far, irs, lrs, brs, aRo⟩ := hs'
    have mk9 : MarkA := ⟨trivial⟩
    generalize hL : s₁.heap.objs.size = L at *
    obtain ⟨dr, ⟨tw, dw⟩, ⟨tu, du⟩, dc⟩ := C4
    obtain ⟨uu, rfl⟩ := map4 nm.p nm.w nm.l nm.h
    have Q1 := ltN q1
    have Q2 := ltN q2
    have Q3 := ltN q3
    have Q4 := ltN q4
    refine wpC_execs_cons (wpC_For ?_)
    k_with "pyIter ref" => (refine stop ?_)
    k_steps
    refine Stop.mk ?_
    k_with_none
    rename News _ _ _ _ => N7
    rename Fr _ _ _ _ => F7
    rename IsRange _ _ _ _ _ _ _ _ => R7
    refine forC_range (n := hi.toNat) R7 (small_one (by omega) (by omega) (by omega) (by omega)) ((rangeSize_nat _ _).trans (by rw [Int.sub_zero])) rfl rfl rfl F7 (kst_newsOf (l' := (aP, listOf (pics.map Row.ref).toArray cP) :: (aW, listOf ([] : List Value).toArray 0) :: (aL, listOf (([] : List Row).map Row.ref).toArray 0) :: (aC, listOf cv.toArray 0) :: (aR, listOf rv.toArray cR) :: (led4 L o4 o3 o2 o1 ++ pics.map Row.ent ++ ([] : List Row).map Row.ent)) N7 led_S4e)
      (OutJ L aC aP aW aL aR cv rv o4 o3 o2 o1 u.toNat n hi th pics cP cR) ⟨[], [], [], 0, 0, rfl, ⟨rfl, rfl, rfl, rfl⟩, .nil, ⟨(fun w hw => nomatch hw), (fun y w _ hw => nomatch hw)⟩, rfl, rfl, (fun r hr => nomatch hr), (fun y r w hr => nomatch hr), (fun r hr => nomatch hr), List.nodup_nil⟩ ?_ ?_
    · rintro i t m₁ nx h tk9 own hi9 ⟨wv, Ws, lins, cW, cL, rfl, nm2, iWs, wok, lWs, llins, ilins, clins, flins, nod⟩ hoff Fx Nx
      clear N7 F7 R7
      obtain ⟨uu2, rfl⟩ := map4 nm2.p nm2.w nm2.l nm2.h
      have qRW : ∀ p ∈ pics.map Row.ent ++ lins.map Row.ent ++ own, p.1 ≠ aW := fun p hp => by
        rcases List.mem_append.mp hp with hp | hp
        · rcases List.mem_append.mp hp with hp | hp
          · obtain ⟨r, hr, rfl⟩ := List.mem_map.mp hp
            exact fun e => far r hr (show r.a ∈ _ by rw [show r.a = aW from e]; exact .tail _ (.head _))
          · obtain ⟨r, hr, rfl⟩ := List.mem_map.mp hp
            exact fun e => (flins r hr).1 (show r.a ∈ _ by rw [show r.a = aW from e]; exact .tail _ (.tail _ (.head _)))
        · exact (hoff _ (.tail _ (.head _)) p hp).symm
      have qRL : ∀ p ∈ pics.map Row.ent ++ lins.map Row.ent ++ own, p.1 ≠ aL := fun p hp => by
        rcases List.mem_append.mp hp with hp | hp
        · rcases List.mem_append.mp hp with hp | hp
          · obtain ⟨r, hr, rfl⟩ := List.mem_map.mp hp
            exact fun e => far r hr (show r.a ∈ _ by rw [show r.a = aL from e]; exact .tail _ (.tail _ (.head _)))
          · obtain ⟨r, hr, rfl⟩ := List.mem_map.mp hp
            exact fun e => (flins r hr).1 (show r.a ∈ _ by rw [show r.a = aL from e]; exact .tail _ (.tail _ (.tail _ (.head _))))
        · exact (hoff _ (.tail _ (.tail _ (.head _))) p hp).symm
      have aRW : aR ≠ aW := fun e => aRo (by rw [e]; exact .tail _ (.head _))
      have aRL : aR ≠ aL := fun e => aRo (by rw [e]; exact .tail _ (.tail _ (.head _)))
      have qW : ∀ p ∈ (aP, listOf (pics.map Row.ref).toArray cP) :: (aL, listOf (lins.map Row.ref).toArray cL) :: (aC, listOf cv.toArray 0) :: (aR, listOf rv.toArray cR) :: (led4 L o4 o3 o2 o1 ++ pics.map Row.ent ++ lins.map Row.ent ++ own), p.1 ≠ aW := by
        dsimp only [led4, List.cons_append, List.nil_append]
        exact off8 (neN (by omega)) (neN (by omega)) (neN (by omega)) aRW (neN (by omega)) (neN (by omega)) (neN (by omega)) (neN (by omega)) qRW
      have Ny : News s₁.heap L h ((aW, listOf wv.toArray cW) :: (aP, listOf (pics.map Row.ref).toArray cP) :: (aL, listOf (lins.map Row.ref).toArray cL) :: (aC, listOf cv.toArray 0) :: (aR, listOf rv.toArray cR) :: (led4 L o4 o3 o2 o1 ++ pics.map Row.ent ++ lins.map Row.ent ++ own)) := kst_newsOf Nx led_S4d
      clear Nx
      dsimp only [led4, List.cons_append, List.nil_append] at Ny qW
      generalize hR1 : pics.map Row.ent ++ lins.map Row.ent ++ own = R1 at *
      refine wpC_execs_any (wpAny_mono (Q := MidW s₁.heap L (fun z => if z = PySem.Str.ofString "y" then some (.int (i : Int) t) else if z = PySem.Str.ofString "picture" then some (.ref aP) else if z = PySem.Str.ofString "ways" then some (.ref aW) else if z = PySem.Str.ofString "lines" then some (.ref aL) else if z = PySem.Str.ofString "high" then some (.int hi th) else uu2 z) aW wv ((aP, listOf (pics.map Row.ref).toArray cP) :: (aL, listOf (lins.map Row.ref).toArray cL) :: (aC, listOf cv.toArray 0) :: (aR, listOf rv.toArray cR) :: (L + 1 + 1 + 1 + 1, o4) :: (L + 1 + 1 + 1, o3) :: (L + 1 + 1, o2) :: (L + 1, o1) :: R1) i s₁) ?_ ?_ (fun _ _ e => e))
      · k_steps
        all_goals (
          refine Stop.mk ?_
          rename News _ _ _ _ => N9
          rename Fr _ _ _ _ => F9
          refine n_app F9 (kst_newsOf N9 tail8) qW (by rw [List.size_toArray, sizeLine_eq, iWs.length]; omega) fun h' F' N' => ?_
          rw [push_int] at N')
        · exact ⟨rfl, h', _, _, _, _, rfl, F', N', fun _ => pick2 1 4 _, fun e => absurd e (by omega)⟩
        · exact ⟨rfl, h', _, _, _, _, rfl, F', N', fun e => absurd e (by omega), fun _ => pick2 2 4 _⟩
      · rintro f s2 ⟨rfl, h3, tk3, w3, tw3, cW3, rfl, F3, N3, hw0, hw1⟩
        dsimp only
        clear Fx Ny
        refine wpC_execs_any ?_
        k_steps
        refine Stop.mk ?_
        rename News _ _ _ _ => N9
        rename Fr _ _ _ _ => F9
        rename_i D hD ltD
        have hRL : ∀ p ∈ (D, listOf #[] 0) :: (aW, listOf (wv ++ [Value.int w3 tw3]).toArray cW3) :: (aP, listOf (pics.map Row.ref).toArray cP) :: (aC, listOf cv.toArray 0) :: (aR, listOf rv.toArray cR) :: (L + 1 + 1 + 1 + 1, o4) :: (L + 1 + 1 + 1, o3) :: (L + 1 + 1, o2) :: (L + 1, o1) :: R1, p.1 ≠ aL := by
          exact List.forall_mem_cons.mpr ⟨Nat.ne_of_gt ltD.2.2.1, off8 (neN (by omega)) (neN (by omega)) (neN (by omega)) aRL (neN (by omega)) (neN (by omega)) (neN (by omega)) (neN (by omega)) qRL⟩
        have hRD : ∀ p ∈ (aL, listOf ((lins ++ [Row.mk D [] [] 0]).map Row.ref).toArray (cL + 1)) :: (aW, listOf (wv ++ [Value.int w3 tw3]).toArray cW3) :: (aP, listOf (pics.map Row.ref).toArray cP) :: (aC, listOf cv.toArray 0) :: (aR, listOf rv.toArray cR) :: (L + 1 + 1 + 1 + 1, o4) :: (L + 1 + 1 + 1, o3) :: (L + 1 + 1, o2) :: (L + 1, o1) :: R1, p.1 ≠ D := by
          obtain ⟨z1, z2, z3, z4, z5, z6, z7, z8, z9, z10⟩ := ltD
          exact List.forall_mem_cons.mpr ⟨Nat.ne_of_lt z3, off8 (Nat.ne_of_lt z1) (Nat.ne_of_lt z2) (Nat.ne_of_lt z4) (Nat.ne_of_lt z5) (Nat.ne_of_lt z6) (Nat.ne_of_lt z7) (Nat.ne_of_lt z8) (Nat.ne_of_lt z9) (fun p hp => Nat.ne_of_lt (kst_ltOf z10 p hp))⟩
        refine n_app F9 (kst_newsOf (l' := (aL, listOf (lins.map Row.ref).toArray cL) :: (D, listOf #[] 0) :: (aW, listOf (wv ++ [Value.int w3 tw3]).toArray cW3) :: (aP, listOf (pics.map Row.ref).toArray cP) :: (aC, listOf cv.toArray 0) :: (aR, listOf rv.toArray cR) :: (L + 1 + 1 + 1 + 1, o4) :: (L + 1 + 1 + 1, o3) :: (L + 1 + 1, o2) :: (L + 1, o1) :: R1) N9 led_S4c) hRL (by rw [List.size_toArray, sizeLine_eq, List.length_map]; omega) fun h4 F4 N4 => ?_
        rw [push_ref lins (Row.mk D [] [] 0)] at N4
        dsimp only
        clear F9 N9
        have N5 := kst_newsOf (l' := (D, listOf ([] : List Value).toArray 0) :: (aL, listOf ((lins ++ [Row.mk D [] [] 0]).map Row.ref).toArray (cL + 1)) :: (aW, listOf (wv ++ [Value.int w3 tw3]).toArray cW3) :: (aP, listOf (pics.map Row.ref).toArray cP) :: (aC, listOf cv.toArray 0) :: (aR, listOf rv.toArray cR) :: (L + 1 + 1 + 1 + 1, o4) :: (L + 1 + 1 + 1, o3) :: (L + 1 + 1, o2) :: (L + 1, o1) :: R1) N4 led_perm
        clear N4
        obtain ⟨r0, hr0⟩ : ∃ r0, pics[i]? = some r0 := ⟨_, List.getElem?_eq_getElem (by omega)⟩
        obtain ⟨r1, hr1⟩ : ∃ r1, pics[i - 1]? = some r1 := ⟨_, List.getElem?_eq_getElem (by omega)⟩
        have k0 := ok.all r0 (List.mem_of_getElem? hr0)
        have k1 := ok.all r1 (List.mem_of_getElem? hr1)
        have j0 : (r0.a, listOf r0.vs.toArray r0.c) ∈ R1 := by rw [← hR1]; exact List.mem_append.mpr (.inl (List.mem_append.mpr (.inl (List.mem_map.mpr ⟨r0, List.mem_of_getElem? hr0, rfl⟩))))
        have j1 : (r1.a, listOf r1.vs.toArray r1.c) ∈ R1 := by rw [← hR1]; exact List.mem_append.mpr (.inl (List.mem_append.mpr (.inl (List.mem_map.mpr ⟨r1, List.mem_of_getElem? hr1, rfl⟩))))
        have iW2 : IntsAre (wv ++ [Value.int w3 tw3]) (Ws ++ [w3]) := IntsAre.append iWs (.cons w3 tw3 .nil)
        have x0 : (pics.map Row.ref)[((i : Int)).toNat]? = some (Value.ref r0.a) := by rw [Int.toNat_natCast, List.getElem?_map, hr0]; rfl
        have x1 : (pics.map Row.ref)[((i : Int) - 1).toNat]? = some (Value.ref r1.a) := by rw [show ((i : Int) - 1).toNat = i - 1 by omega, List.getElem?_map, hr1]; rfl
        have xL : ((lins ++ [Row.mk D [] [] 0]).map Row.ref)[((i : Int)).toNat]? = some (Value.ref D) := by rw [Int.toNat_natCast, List.getElem?_map, ← llins, List.getElem?_append_right (Nat.le_refl _), Nat.sub_self]; rfl
        have xW : (wv ++ [Value.int w3 tw3])[((i : Int)).toNat]? = some (Value.int w3 tw3) := by rw [Int.toNat_natCast, ← lWs, ← iWs.length, List.getElem?_append_right (Nat.le_refl _), Nat.sub_self]; rfl
        refine wpC_execs_cons (wpC_For ?_)
        k_with "pyIter ref" => (refine stop ?_)
        k_steps
        refine Stop.mk ?_
        k_with_none
        rename News _ _ _ _ => N7
        rename Fr _ _ _ _ => F7
        rename IsRange _ _ _ _ _ _ _ _ => R7
        have sp2 := prod_bd2 w0 w1 u0 u1
        generalize hRest : (aL, W.listOf (List.map Row.ref (lins ++ [{ a := D, vs := [], ns := [], c := 0 }])).toArray (cL + 1)) :: (aW, W.listOf (wv ++ [Value.int w3 tw3]).toArray cW3) :: (aP, W.listOf (List.map Row.ref pics).toArray cP) :: (aC, W.listOf cv.toArray 0) :: (aR, W.listOf rv.toArray cR) :: (L + 1 + 1 + 1 + 1, o4) :: (L + 1 + 1 + 1, o3) :: (L + 1 + 1, o2) :: (L + 1, o1) :: R1 = rest at N7 hRD
        refine forC_range (n := n) R7 (small_one (by omega) (by omega) (by omega) (by omega)) ((rangeSize_nat _ _).trans (by rw [Int.sub_zero]; omega)) rfl rfl rfl F7 N7 (InJ aP aW aL hi th i t D rest (cellAt (pics.map Row.ns) u.toNat w3 i)) ⟨[], 0, rfl, ⟨rfl, rfl, rfl, rfl⟩, rfl, .nil⟩ ?_ ?_
        · rintro k tk8 m₁ nx h8 tk10 own8 hk8 ⟨vs, c, rfl, nm3, my3, ivs⟩ hoff8 F8 N8
          obtain ⟨uu3, rfl⟩ := map5 my3 nm3.p nm3.w nm3.l nm3.h
          rw [← hRest] at N8
          dsimp only [List.cons_append] at N8
          clear F7 N7 R7 
          have ik0 := k0.1
          have ik1 := k1.1
          have lk0 := k0.2.1
          have lk1 := k1.2.1
          obtain ⟨lv, hlv⟩ : ∃ lv, lv = if u.toNat ≤ k then r0.ns.getD (k - u.toNat) 0 else 0 := ⟨_, rfl⟩
          obtain ⟨uv, huv⟩ : ∃ uv, uv = if 0 < i then r1.ns.getD k 0 else 0 := ⟨_, rfl⟩
          obtain ⟨kv, hkv⟩ : ∃ kv, kv = if 0 < i ∧ u.toNat ≤ k then r1.ns.getD (k - u.toNat) 0 else 0 := ⟨_, rfl⟩
          obtain ⟨gv, hgv⟩ : ∃ gv, gv = if w3 = 1 then lv else if w3 = 2 then uv else nearer lv uv kv := ⟨_, rfl⟩
          dsimp only at F8
          refine join_one (PySem.Str.ofString "left") lv F8 N8 ?_ ?_
          · k_steps
            all_goals (rename News _ _ _ _ => N9; rename Fr _ _ _ _ => F9)
            · exact set1_of (hlv.trans (left_hi u0 (by assumption))) F9 N9
            · exact set1_of (hlv.trans (left_lo u0 (by assumption))) F9 N9
          intro h9 tk9' t9 F9 N9
          clear F8 N8
          refine join_one (PySem.Str.ofString "upper") uv F9 N9 ?_ ?_
          · k_steps
            all_goals (rename News _ _ _ _ => N9; rename Fr _ _ _ _ => F9)
            · exact set1_of (huv.trans (up_hi (by assumption))) F9 N9
            · exact set1_of (huv.trans (up_lo (by assumption))) F9 N9
          intro h10 tk10' t10 F10 N10
          clear F9 N9
          refine join_one (PySem.Str.ofString "corner") kv F10 N10 ?_ ?_
          · k_steps
            all_goals (rename News _ _ _ _ => N9; rename Fr _ _ _ _ => F9)
            all_goals first
              | exact set1_of (hkv.trans (cor_hi u0 (by assumption) (by assumption))) F9 N9
              | exact set1_of (hkv.trans (cor_lo1 (by assumption))) F9 N9
              | exact set1_of (hkv.trans (cor_lo2 u0 (by assumption))) F9 N9
              | trace_state
          intro h11 tk11' t11 F11 N11
          clear F10 N10
          refine join_one (PySem.Str.ofString "guess") gv F11 N11 ?_ ?_
          · k_steps
            · rename News _ _ _ _ => N9
              rename Fr _ _ _ _ => F9
              exact set1_of (hgv.trans (if_pos (way_at (w := w3) lWs ▸ by assumption))) F9 N9
            · rename News _ _ _ _ => N9
              rename Fr _ _ _ _ => F9
              exact set1_of (hgv.trans ((if_neg (way_at (w := w3) lWs ▸ by assumption)).trans (if_pos (way_at (w := w3) lWs ▸ by assumption)))) F9 N9
            · refine Stop.mk ?_
              rename News _ _ _ _ => N9
              rename Fr _ _ _ _ => F9
              refine nearest_tells w _ _ mg mb _ _ _ _ _ _ _ _ _ callerA s₁.heap s₁.heap L _ _ _ _ _ lv uv kv _ _ _ K0 F9 X N9 T rfl (by decide) (by decide) fun t' h' tk' F' N' => ?_
              clear F9 N9
              k_steps
              rename News _ _ _ _ => N9
              rename Fr _ _ _ _ => F9
              exact set1_of (hgv.trans ((if_neg (way_at (w := w3) lWs ▸ by assumption)).trans (if_neg (way_at (w := w3) lWs ▸ by assumption)))) F9 N9
          intro h12 tk12' t12 F12 N12
          clear F11 N11
          refine wpC_execs_any ?_
          k_steps
          refine Stop.mk ?_
          rename News _ _ _ _ => N9
          rename Fr _ _ _ _ => F9
          have N13 : News s₁.heap L h12 ((D, listOf vs.toArray c) :: (rest ++ own8)) := by rw [← hRest]; exact N9
          have lvs := ivs.length
          rw [List.length_map, List.length_range] at lvs
          refine n_app F9 N13 (fun p hp => ?_) (by rw [List.size_toArray, sizeLine_eq, lvs]; omega) fun h13 F13 N14 => ?_
          · rcases List.mem_append.mp hp with hp | hp
            · exact hRD p hp
            · exact (hoff8 _ (.head _) p hp).symm
          rw [push_int] at N14
          dsimp only
          refine wpC_execs_nil ⟨rfl, h13, _, _, (D, listOf (vs ++ [Value.int ((r0.ns.getD ((k : Int)).toNat 0 - gv).fmod 256) (tk12' + 1 + 1)]).toArray (c + 1)) :: rest, rfl, F13, N14, fun p hp q hq => ?_, _, _, rfl, ⟨rfl, rfl, rfl, rfl⟩, rfl, ?_⟩
          · rcases List.mem_cons.mp hp with rfl | hp
            · exact hoff8 _ (.head _) q hq
            · exact hoff8 p (.tail _ hp) q hq
          · rw [List.range_succ, List.map_append]
            refine IntsAre.append ivs ?_
            rw [List.map_singleton, cell_at hr0 hr1, ← hlv, ← huv, ← hkv, ← hgv]
            exact .cons _ _ .nil
        · rintro h9 tk9' m9 nx F9 N9 ⟨vs, c, rfl, nm9, my9, ivs⟩
          dsimp only
          refine wpC_execs_nil ⟨rfl, h9, _, m9, (aP, listOf (pics.map Row.ref).toArray cP) :: (aW, listOf (wv ++ [Value.int w3 tw3]).toArray cW3) :: (aL, listOf ((lins ++ [Row.mk D vs (lineAt (pics.map Row.ns) u.toNat w3 i n) c]).map Row.ref).toArray (cL + 1)) :: (aC, listOf cv.toArray 0) :: (aR, listOf rv.toArray cR) :: (led4 L o4 o3 o2 o1 ++ pics.map Row.ent ++ (lins ++ [Row.mk D vs (lineAt (pics.map Row.ns) u.toNat w3 i n) c]).map Row.ent), rfl, F9, ?_, ?_, wv ++ [Value.int w3 tw3], Ws ++ [w3], lins ++ [Row.mk D vs (lineAt (pics.map Row.ns) u.toNat w3 i n) c], cW3, cL + 1, rfl, nm9, iW2, ways_snoc wok lWs hw0 hw1, by rw [List.length_append, lWs]; rfl, by rw [List.length_append, llins]; rfl, ?_, ?_, ?_, ?_⟩
          have e1 : (lins ++ [Row.mk D [] [] 0]).map Row.ref = (lins ++ [Row.mk D vs (lineAt (pics.map Row.ns) u.toNat w3 i n) c]).map Row.ref := by rw [List.map_append, List.map_append]; rfl
          · rw [← hRest, e1, ← hR1] at N9
            exact kst_newsOf N9 led_S4
          · have ltR := kst_ltOf ltD.2.2.2.2.2.2.2.2.2
            exact off_S4 hoff rfl rfl fun q hq => Ne.symm (Nat.ne_of_lt (ltR q (by rw [← hR1]; exact List.mem_append.mpr (.inr hq))))
          · intro r hr
            rcases List.mem_append.mp hr with hr | hr
            · exact ilins r hr
            · rw [List.mem_singleton.mp hr]; exact ivs
          · intro y r w hr hw
            by_cases e : y < lins.length
            · rw [List.getElem?_append_left e] at hr
              rw [List.getElem?_append_left (by omega)] at hw
              exact clins y r w hr hw
            · have e2 : y = i := by
                have := (List.getElem?_eq_some_iff.mp hr).1
                rw [List.length_append, List.length_singleton] at this
                omega
              rw [e2] at hr hw ⊢
              rw [List.getElem?_append_right (by omega), show i - lins.length = 0 by omega] at hr
              rw [List.getElem?_append_right (by omega), show i - Ws.length = 0 by omega] at hw
              have e3 : w3 = w := Option.some.inj hw
              have e4 : Row.mk D vs (lineAt (pics.map Row.ns) u.toNat w3 i n) c = r := Option.some.inj hr
              rw [← e4, ← e3]
          · intro r hr
            rcases List.mem_append.mp hr with hr | hr
            · exact flins r hr
            · rw [List.mem_singleton.mp hr]
              have ltR := kst_ltOf ltD.2.2.2.2.2.2.2.2.2
              obtain ⟨z1, z2, z3, z4, z5, z6, z7, z8, z9, z10⟩ := ltD
              constructor
              · intro hm
                simp only [adr8, List.mem_cons, List.not_mem_nil, or_false] at hm
                rcases hm with e | e | e | e | e | e | e | e | e
                all_goals exact Nat.ne_of_gt (by assumption) e
              · intro hm
                obtain ⟨r9, hr9, e9⟩ := List.mem_map.mp hm
                exact Nat.ne_of_lt (ltR r9.ent (by rw [← hR1]; exact List.mem_append.mpr (.inl (List.mem_append.mpr (.inl (List.mem_map_of_mem hr9)))))) e9
          · have ltR := kst_ltOf ltD.2.2.2.2.2.2.2.2.2
            rw [List.map_append, List.nodup_append]
            refine ⟨nod, List.nodup_cons.mpr ⟨List.not_mem_nil, List.nodup_nil⟩, fun a ha b hb e => ?_⟩
            rw [List.map_singleton, List.mem_singleton] at hb
            obtain ⟨r9, hr9, e9⟩ := List.mem_map.mp ha
            exact Nat.ne_of_lt (ltR r9.ent (by rw [← hR1]; exact List.mem_append.mpr (.inl (List.mem_append.mpr (.inr (List.mem_map_of_mem hr9)))))) (e9.trans (e.trans hb))
    · rintro h9 tk9 m9 nx F9 N9 ⟨wv, Ws, lins, cW, cL, rfl, nm9, iWs, wok, lWs, llins, ilins, clins, flins, nod⟩
      refine wpC_execs_nil ⟨rfl, h9, tk9, aC, aP, aW, aL, aR, rv, wv, rs, Ws, o4, o3, o2, o1, u, wd, hi, n, th, m9, pics, lins, cP, cR, cW, cL, rfl, F9, nm9, kst_newsOf N9 led_S4b, ⟨dr, ⟨tw, dw⟩, ⟨tu, du⟩, dc⟩, u0, u1, w0, w1, i0, i1, en, ln, ok, len, irs, lrs, brs, iWs, wok, by omega, by omega, ilins, clins, flins, nod⟩
  clear hs' s'
  intro s' hs'
  refine wpC_cut1 (St5 s₁.heap s₁.heap.objs.size s₁) ?_ ?_
  · obtain ⟨h', tk, aC, aP, aW, aL, aR, rv, wv, rs, Ws, o4, o3, o2, o1, u, wd, hi, n, th, m, pics, lins, cP, cR, cW, cL, rfl, F1, nm, N1, C4, u0, u1, w0, w1, i0, i1, en, ln, ok, len, irs, lrs, brs, iWs, wok, lWs, llins, ilins, clins, flins, nod⟩ := hs'
    have mk9 : MarkA := ⟨trivial⟩
    generalize hL : s₁.heap.objs.size = L at *
    obtain ⟨dr, ⟨tw, dw⟩, ⟨tu, du⟩, dc⟩ := C4
    obtain ⟨uu, rfl⟩ := map4 nm.p nm.w nm.l nm.h
    obtain ⟨q0, qs, rfl⟩ : ∃ q0 qs, lins = q0 :: qs := by
      cases lins with
      | nil => simp at llins; omega
      | cons a b => exact ⟨a, b, rfl⟩
    obtain ⟨w0', hw0⟩ : ∃ w, Ws[0]? = some w := ⟨_, List.getElem?_eq_getElem (by omega)⟩
    have x0 : ((q0 :: qs).map Row.ref)[((0 : Int)).toNat]? = some (Value.ref q0.a) := rfl
    refine wpC_execs_cons (wpC_For ?_)
    k_with "pyIter ref" => (refine stop ?_)
    dsimp only [led4, List.cons_append, List.nil_append] at N1
    k_steps
    refine Stop.mk ?_
    k_with_none
    rename News _ _ _ _ => N7
    rename Fr _ _ _ _ => F7
    rename IsRange _ _ _ _ _ _ _ _ => R7
    have sp2 := prod_bd2 w0 w1 u0 u1
    have iq := ilins q0 (.head _)
    have eq0 : q0.ns = lineAt (pics.map Row.ns) u.toNat w0' 0 n := clins 0 q0 w0' rfl hw0
    have lX0 : q0.ns.length = n := by rw [eq0, lineAt, List.length_map, List.length_range]
    have fq := flins q0 (.head _)
    have hRD : ∀ p ∈ (aP, listOf (pics.map Row.ref).toArray cP) :: (aW, listOf wv.toArray cW) :: (aL, listOf ((q0 :: qs).map Row.ref).toArray cL) :: (aR, listOf rv.toArray cR) :: (L + 1 + 1 + 1 + 1, o4) :: (L + 1 + 1 + 1, o3) :: (L + 1 + 1, o2) :: (L + 1, o1) :: (pics.map Row.ent ++ qs.map Row.ent), p.1 ≠ q0.a := by
      intro p hp e
      simp only [List.mem_append, List.mem_cons] at hp
      have f1 := fq.1
      simp only [adr8, List.mem_cons, List.not_mem_nil, or_false, not_or] at f1
      obtain ⟨g1, g2, g3, g4, g5, g6, g7, g8, g9⟩ := f1
      rcases hp with hp | hp | hp | hp | hp | hp | hp | hp | hp | hp
      · rw [hp] at e; exact g2 e.symm
      · rw [hp] at e; exact g3 e.symm
      · rw [hp] at e; exact g4 e.symm
      · rw [hp] at e; exact g1 e.symm
      · rw [hp] at e; exact g6 e.symm
      · rw [hp] at e; exact g7 e.symm
      · rw [hp] at e; exact g8 e.symm
      · rw [hp] at e; exact g9 e.symm
      · obtain ⟨r, hr, rfl⟩ := List.mem_map.mp hp
        exact fq.2 (List.mem_map.mpr ⟨r, hr, e⟩)
      · obtain ⟨r, hr, rfl⟩ := List.mem_map.mp hp
        rw [List.map_cons, List.nodup_cons] at nod
        exact nod.1 (List.mem_map.mpr ⟨r, hr, e⟩)
    have N8 := kst_newsOf (l' := (q0.a, listOf q0.vs.toArray q0.c) :: (aP, listOf (pics.map Row.ref).toArray cP) :: (aW, listOf wv.toArray cW) :: (aL, listOf ((q0 :: qs).map Row.ref).toArray cL) :: (aR, listOf rv.toArray cR) :: (L + 1 + 1 + 1 + 1, o4) :: (L + 1 + 1 + 1, o3) :: (L + 1 + 1, o2) :: (L + 1, o1) :: (pics.map Row.ent ++ qs.map Row.ent)) N7 led_S5
    clear N7
    generalize hR1 : pics.map Row.ent ++ qs.map Row.ent = R1 at N8 hRD
    generalize hRest : (aP, listOf (pics.map Row.ref).toArray cP) :: (aW, listOf wv.toArray cW) :: (aL, listOf ((q0 :: qs).map Row.ref).toArray cL) :: (aR, listOf rv.toArray cR) :: (L + 1 + 1 + 1 + 1, o4) :: (L + 1 + 1 + 1, o3) :: (L + 1 + 1, o2) :: (L + 1, o1) :: R1 = rest at N8 hRD
    refine forC_range (n := u.toNat) R7 (small_one (by omega) (by omega) (by omega) (by omega)) ((rangeSize_nat _ _).trans (by rw [Int.sub_zero])) rfl rfl rfl F7 N8 (RaJ aP aW aL hi th q0.a rest rs q0.ns) ⟨q0.vs, q0.c, rfl, ⟨rfl, rfl, rfl, rfl⟩, iq⟩ ?_ ?_
    · rintro k tk8 m₁ nx h8 tk10 own8 hk8 ⟨vs, c, rfl, nm3, ivs⟩ hoff8 F8 N8
      obtain ⟨uu3, rfl⟩ := map4 nm3.p nm3.w nm3.l nm3.h
      rw [← hRest] at N8
      dsimp only [List.cons_append] at N8 F8
      clear F7 R7
      have lX : (raise0 rs q0.ns k).length = n := (raise0_length _ _ _).trans lX0
      refine wpC_execs_any ?_
      k_steps
      refine Stop.mk ?_
      rename News _ _ _ _ => N9
      rename Fr _ _ _ _ => F9
      have N13 : News s₁.heap L h8 ((q0.a, listOf vs.toArray c) :: (rest ++ own8)) := by rw [← hRest]; exact N9
      refine ksa_set F9 N13 (.head fun p hp => ?_) ivs (by omega) (by omega) (by omega) fun h13 F13 N14 i14 _ _ => ?_
      · rcases List.mem_append.mp hp with hp | hp
        · exact hRD p hp
        · exact (hoff8 _ (.head _) p hp).symm
      dsimp only
      refine wpC_execs_nil ⟨rfl, h13, _, _, (q0.a, listOf (vs.set ((k : Int)).toNat _).toArray c) :: rest, rfl, F13, N14, fun p hp q hq => ?_, _, _, rfl, ⟨rfl, rfl, rfl, rfl⟩, ?_⟩
      · rcases List.mem_cons.mp hp with rfl | hp
        · exact hoff8 _ (.head _) q hq
        · exact hoff8 p (.tail _ hp) q hq
      · exact i14
    · rintro h9 tk9' m9 nx F9 N9 ⟨vs, c, rfl, nm9, ivs⟩
      refine wpC_execs_nil ⟨rfl, h9, _, aC, aP, aW, aL, aR, rv, wv, rs, Ws, o4, o3, o2, o1, u, wd, hi, n, th, m9, pics, Row.mk q0.a vs (raise0 rs q0.ns u.toNat) c :: qs, cP, cR, cW, cL, rfl, F9, nm9, kst_newsOf N9 ?_, ⟨dr, ⟨tw, dw⟩, ⟨tu, du⟩, dc⟩, u0, u1, w0, w1, i0, i1, en, ln, ok, len, irs, lrs, brs, iWs, wok, lWs, llins, ?_, ?_, ?_⟩
      · rw [← hRest, ← hR1]
        exact led_S5b
      · intro r hr
        rcases List.mem_cons.mp hr with rfl | hr
        · exact ivs
        · exact ilins r (.tail _ hr)
      · intro r w hr hw
        have e4 : Row.mk q0.a vs (raise0 rs q0.ns u.toNat) c = r := Option.some.inj hr
        have e5 : w0' = w := Option.some.inj (hw0.symm.trans hw)
        rw [← e4, ← e5, ← eq0]
      · intro y r w hy hr hw
        obtain ⟨y, rfl⟩ : ∃ z, y = z + 1 := ⟨y - 1, by omega⟩
        exact clins (y + 1) r w hr hw
  clear hs' s'
  intro s' hs'
  obtain ⟨h', tk, aC, aP, aW, aL, aR, rv, wv, rs, Ws, o4, o3, o2, o1, u, wd, hi, n, th, m, pics, lins, cP, cR, cW, cL, rfl, F1, nm, N1, C4, u0, u1, w0, w1, i0, i1, en, ln, ok, len, irs, lrs, brs, iWs, wok, lWs, llins, ilins, cl0, clins⟩ := hs'
  have mk9 : MarkA := ⟨trivial⟩
  have mk8 : MarkC := ⟨trivial⟩
  generalize hL : s₁.heap.objs.size = L at *
  obtain ⟨dr, ⟨tw, dw⟩, ⟨tu, du⟩, dc⟩ := C4
  obtain ⟨uu, rfl⟩ := map4 nm.p nm.w nm.l nm.h
  dsimp only [led4, List.cons_append, List.nil_append] at N1
  have hrows : ∀ r ∈ lins, IntsAre r.vs r.ns ∧ Octets r.ns ∧ r.ns.length = n := fun r hr => by
    obtain ⟨y, hy⟩ := List.getElem?_of_mem hr
    obtain ⟨v, hv⟩ : ∃ v, Ws[y]? = some v := ⟨_, List.getElem?_eq_getElem (by have := (List.getElem?_eq_some_iff.mp hy).1; omega)⟩
    refine ⟨ilins r hr, ?_⟩
    by_cases e : y = 0
    · subst e
      rw [cl0 r v hy hv]
      exact ⟨raise0_octets lineAt_octets _, (raise0_length _ _ _).trans lineAt_length⟩
    · rw [clins y r v (by omega) hy hv]
      exact ⟨lineAt_octets, lineAt_length⟩
  have hlent : ∀ r ∈ lins, r.ent ∈ pics.map Row.ent ++ lins.map Row.ent := fun r hr => List.mem_append.mpr (.inr (List.mem_map_of_mem hr))
  refine wpC_execs_cons (wpC_Assign1 (wpC_Call (Nat.le_of_ble_eq_true rfl) rfl ?_))
  k_steps
  show wpC _ _ (spliced [(false, eval _ _), (false, eval _ _), (false, eval _ _)]) _ _ _
  refine wpC_spliced_cons (wpC_any ?_)
  k_steps
  refine wpC_spliced_cons (wpC_any ?_)
  k_steps
  refine wpC_spliced_cons (wpC_any ?_)
  k_steps
  refine wpC_spliced_nil ?_
  rename News _ _ _ _ => N3
  rename Fr _ _ _ _ => F3
  refine keeper_K (X.keeps F3.keep) (by k_is) ⟨.inr rfl, ?_⟩
  refine undone_tells w _ _ mg mb _ _ _ _ _ _ _ _ _ callerA s₁.heap s₁.heap L _ _ _ _ _ aW aL wv Ws cW cL lins n u tu K0 F3 X N3 T rfl (by decide) (by decide) (.tail _ (.head _)) iWs (.tail _ (.tail _ (.head _))) (fun r hr => ⟨.tail _ (.tail _ (.tail _ (.tail _ (.tail _ (.tail _ (.tail _ (.tail _ (hlent r hr)))))))), hrows r hr⟩) (by omega) (by omega) (by omega) ln u0 u1 fun D c h4 tk4 outs F4 N4 hrun iouts => ?_
  clear F3 N3
  k_steps
  rename News _ _ _ _ => N5
  rename Fr _ _ _ _ => F5
  refine wpC_any ?_
  dsimp only
  k_steps
  refine Stop.mk ?_
  rename News _ _ _ _ => N6
  rename Fr _ _ _ _ => F6
  have sp2 := prod_bd2 w0 w1 u0 u1
  refine comp_rows (cax := cP) (its := (pics.map Row.ref).toArray) (ax := aP) (fun i ns => ns.length = n ∧ ∀ k x, ns[k]? = some x → x = ((pics.map Row.ns).getD i []).getD k 0 + rs.getD (k % u.toNat) 0) rfl (by with_unfolding_all rfl) rfl (by decide) (fun n => rfl) (fun h => rfl) (fun C c => rfl) F6 N6 (.tail _ (List.mem_append.mpr (.inr (.head _)))) (by rw [List.size_toArray, List.length_map, sizeLine_eq]; omega) ?_ ?_ ?_
  · k_steps
  · rintro i v C oC cc oc D2 I oI rows h7 tk7 E' hv hlen hoc F7 N7
    obtain ⟨r0, hr0, rfl⟩ : ∃ r0, pics[i]? = some r0 ∧ v = Row.ref r0 := by
      have hv' : (pics.map Row.ref)[i]? = some v := by simpa using hv
      rw [List.getElem?_map] at hv'
      cases e : pics[i]? with
      | none => rw [e] at hv'; cases hv'
      | some r0 => rw [e] at hv'; exact ⟨r0, rfl, (Option.some.inj hv').symm⟩
    have k0 := ok.all r0 (List.mem_of_getElem? hr0)
    have ik0 := k0.1
    have lk0 := k0.2.1
    have mr0 : (r0.a, listOf r0.vs.toArray r0.c) ∈ pics.map Row.ent := List.mem_map.mpr ⟨r0, List.mem_of_getElem? hr0, rfl⟩
    obtain ⟨B, hB⟩ : ∃ B, B = (I, oI) :: (C, oC) :: (cc, oc) :: (D2, LCg.lst (List.map Row.ref rows)) :: (List.map Row.ent rows ++ (D, W.listOf (List.map Row.ref outs).toArray c) :: (List.map Row.ent outs ++ (aP, W.listOf (List.map Row.ref pics).toArray cP) :: (aW, W.listOf wv.toArray cW) :: (aL, W.listOf (List.map Row.ref lins).toArray cL) :: (aR, W.listOf rv.toArray cR) :: (L + 1 + 1 + 1 + 1, o4) :: (L + 1 + 1 + 1, o3) :: (L + 1 + 1, o2) :: (L + 1, o1) :: (List.map Row.ent pics ++ List.map Row.ent lins))) := ⟨_, rfl⟩
    rw [← hB] at N7 ⊢
    have N8 : News s₁.heap L h7 ((aR, listOf rv.toArray cR) :: (L + 1 + 1 + 1 + 1, o4) :: (L + 1 + 1 + 1, o3) :: (L + 1 + 1, o2) :: (cc, oc) :: (r0.a, listOf r0.vs.toArray r0.c) :: B) := kst_newsOf N7 (fun p hp => by
      simp only [List.mem_cons] at hp
      rcases hp with hp | hp | hp | hp | hp | hp | hp
      all_goals first
        | exact hp
        | (rw [hB]; simp only [List.mem_cons, List.mem_append, hp, mr0, true_or, or_true]))
    clear N7
    refine LCg.ListComp_U (F₀ := F7) (by with_unfolding_all rfl) (by decide) (by rfl) (by decide) (by rfl) ?_
    k_steps
    refine Stop.mk ?_
    rename News _ _ _ _ => N9
    rename Fr _ _ _ _ => F9
    rename IsRange _ _ _ _ _ _ _ _ => R9
    refine LCg.CompSrc.range (n := n) (by rfl) F9 N9 R9 (small_one (by omega) (by omega) (by omega) (by omega)) ((rangeSize_nat _ _).trans (by rw [Int.sub_zero]; omega)) (by rw [sizeLine_eq]; omega) ?_
    intro g'
    refine comp_ints (fun k x => x = ((pics.map Row.ns).getD i []).getD k 0 + rs.getD (k % u.toNat) 0) ?_ ?_
    · rintro j v I2 oI2 C2 oC2 D3 m₂ ys h8 tk8 E2 hj ⟨t8, rfl⟩ hC2 hx F8 N8' off8 ne8
      have fm0 : 0 ≤ (0 + (j : Int)).fmod u := fmod_lo _ (by omega)
      have fm1 : (0 + (j : Int)).fmod u < u := fmod_hi _ (by omega)
      clear F9 N9 R9
      k_steps
      have e0 : (pics.map Row.ns).getD i [] = r0.ns := by rw [List.getD_eq_getElem?_getD, List.getElem?_map, hr0]; rfl
      exact LCg.CompEnd.intro F8 N8' _ (fun p hp => hp) off8 trivial ⟨rfl, _, _, rfl, by rw [e0, fmod_nat u0, Int.zero_add, Int.toNat_natCast]⟩
    · intro ys ns iys lns pns
      unfold LCg.FinE
      intro D4 h9 tk9 F10 N10 o10
      refine ⟨Row.mk D4 ys ns ys.length, h9, tk9, rfl, rfl, F10, kst_newsOf N10 (fun p hp => ?_), fun p hp => off1_mem o10 p (.tail _ (.tail _ (.tail _ (.tail _ (.tail _ (.tail _ hp)))))), ⟨lns, pns⟩, iys⟩
      rcases List.mem_cons.mp hp with rfl | hp
      · exact .head _
      · exact .tail _ (.tail _ (.tail _ (.tail _ (.tail _ (.tail _ (.tail _ hp))))))
  · rintro D2 rows h7 tk7 hlen hP hints F7 N7
    have hsame : rows.map Row.ns = outs.map Row.ns := (same_rows u0 en sp2.1 ok lrs brs wok (by omega) (by omega) (by omega) (by rw [hlen, List.size_toArray, List.length_map]) cl0 clins hP).trans hrun.symm
    have hin1 : ∀ r ∈ outs, r.ent ∈ (D2, LCg.lst (List.map Row.ref rows)) :: (List.map Row.ent rows ++ (D, W.listOf (List.map Row.ref outs).toArray c) :: (List.map Row.ent outs ++ (aP, W.listOf (List.map Row.ref pics).toArray cP) :: (aW, W.listOf wv.toArray cW) :: (aL, W.listOf (List.map Row.ref lins).toArray cL) :: (aR, W.listOf rv.toArray cR) :: (L + 1 + 1 + 1 + 1, o4) :: (L + 1 + 1 + 1, o3) :: (L + 1 + 1, o2) :: (L + 1, o1) :: (List.map Row.ent pics ++ List.map Row.ent lins))) := fun r hr =>
      .tail _ (List.mem_append.mpr (.inr (.tail _ (List.mem_append.mpr (.inl (List.mem_map_of_mem hr))))))
    have hin2 : ∀ r ∈ rows, r.ent ∈ (D2, LCg.lst (List.map Row.ref rows)) :: (List.map Row.ent rows ++ (D, W.listOf (List.map Row.ref outs).toArray c) :: (List.map Row.ent outs ++ (aP, W.listOf (List.map Row.ref pics).toArray cP) :: (aW, W.listOf wv.toArray cW) :: (aL, W.listOf (List.map Row.ref lins).toArray cL) :: (aR, W.listOf rv.toArray cR) :: (L + 1 + 1 + 1 + 1, o4) :: (L + 1 + 1 + 1, o3) :: (L + 1 + 1, o2) :: (L + 1, o1) :: (List.map Row.ent pics ++ List.map Row.ent lins))) := fun r hr =>
      .tail _ (List.mem_append.mpr (.inl (List.mem_map_of_mem hr)))
    refine kqd_eq N7 (.tail _ (List.mem_append.mpr (.inr (.head _)))) rfl rfl (rows_dat hin1 iouts) (fun _ h => h) (.head _) rfl rfl (rows_dat hin2 hints) (fun _ h => h) rows_ok rows_ok (by simp only [Around.deeper]; decide) ?_
    have e9 : ∀ (P : Prop) (i : Decidable P), P → @decide P i = true := fun P i h => @decide_eq_true P i h
    rw [e9]
    rotate_left
    · rw [hsame]
    dsimp only
    refine GoodW.toG ?_
    wrow_close
end Mine

theorem PySem.Challenge.cw_bf5022_01_holds : PySem.Challenge.rw_bf5022_01.Holds := by
  exact Mine.law_holds

